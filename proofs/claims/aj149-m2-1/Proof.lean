import JvmDerived
import JvmDerived.Pilot.@@N@@Statement
import JvmDerived.Pilot.@@N@@Code
set_option linter.unusedVariables false
set_option linter.unusedSimpArgs false
namespace Jvm.Pilot.@@N@@
open Jvm Jvm.ClassFile Sem Op Lib Jvm.Free Jvm.Stand Jvm.LawKit Jvm.RoadKit Bundle Jvm.Pilot.@@N@@.Jvm.D
/-- from S the run goes on to an end that answers Q -/
def own_Go (p : Program) (e : Env) (below : List Frame) (s : State) (Q : Option Value → Heap → List Loc → Prop) (rm : Room) (S : State) : Prop :=
  ∃ t o, Steps p.tables e below S t ∧ t.status = .running ∧ Ended t below o ∧ ∃ v L, o = .returned v ∧ Q v t.heap L ∧ FrameEnd s o t L rm.cells rm.slots
section OwnKit
variable {p : Program} {l : Launch} {e : Env} {R rm : Room} {s S S' : State} {m : MethodId} {args : Array Value} {below : List Frame} {meth : Method} {c : Code} {T : State} {locs : List Loc} {cells slots : Nat} {Q : Option Value → Heap → List Loc → Prop}
theorem own_by (st : ∀ t, Steps p.tables e below S' t → Steps p.tables e below S t) (k : own_Go p e below s Q rm S') : own_Go p e below s Q rm S := by
  obtain ⟨t, o, h, r⟩ := k
  exact ⟨t, o, st _ h, r⟩
theorem own_via (st : Steps p.tables e below S S') (k : own_Go p e below s Q rm S') : own_Go p e below s Q rm S := own_by (fun _ h => st.trans h) k
theorem own_out {v : Option Value} {pc : Nat} {Ls : Array Slot} {st : List Value} (X : Stand p l e rm s m args below meth c T locs cells slots) (hlk : meth.locks = false) (hv : meth.sig.returnType = none → v = none) (hc : cells ≤ rm.cells) (hs : slots ≤ rm.slots)
    (step : ∀ fs, (∀ (f : JFrame) (acts : List Action), f.method = m → f.locked = none → f.entered = [] → (doReturn e (T.setTop f) acts v).1 = T.setFrames fs) → Steps p.tables e below (T.setTop (mkF m pc Ls st)) (T.setFrames fs)) (hQ : Q v T.heap locs) : own_Go p e below s Q rm (T.setTop (mkF m pc Ls st)) := by
  obtain ⟨fs, hr, hrun, hended, hW, hsame⟩ := X.leave (v := v) hv hlk
  exact ⟨_, _, step fs hr, hrun, hended, v, locs, rfl, hQ, ⟨_, rfl⟩, hW, hsame.mono hc hs⟩
theorem own_retV (X : Stand p l e rm s m args below meth c T locs cells slots) (hx : p.tables.exec = Jvm.exec) (hlk : meth.locks = false) {pc : Nat} {Ls : Array Slot} (hret : meth.sig.returnType = none) (hd : decode c.code pc = .ok (.return_, 1)) (hQ : Q none T.heap locs) (hc : cells ≤ rm.cells) (hs : slots ≤ rm.slots) :
    own_Go p e below s Q rm (T.setTop (mkF m pc Ls [])) := own_out X hlk (fun _ => rfl) hc hs (fun fs hr => X.returnOut hx hret hd hr) hQ
theorem own_retI (X : Stand p l e rm s m args below meth c T locs cells slots) (hx : p.tables.exec = Jvm.exec) (hlk : meth.locks = false) {pc : Nat} {Ls : Array Slot} {z : Int32} {t : FieldType} {rest : List Value} (hret : meth.sig.returnType = some t) (ht : t = .int ∨ t = .boolean ∨ t = .byte ∨ t = .char ∨ t = .short) (hn : narrow t (.int z) = .int z) (hd : decode c.code pc = .ok (.ireturn, 1)) (hQ : Q (some (.int z)) T.heap locs) (hc : cells ≤ rm.cells) (hs : slots ≤ rm.slots) :
    own_Go p e below s Q rm (T.setTop (mkF m pc Ls (.int z :: rest))) := own_out X hlk (fun h => by rw [hret] at h; cases h) hc hs (fun fs hr => retOut X hx hret hn (Or.inl ⟨rfl, ht, z, rfl⟩) hd hr) hQ
theorem own_retL (X : Stand p l e rm s m args below meth c T locs cells slots) (hx : p.tables.exec = Jvm.exec) (hlk : meth.locks = false) {pc : Nat} {Ls : Array Slot} {z : Int64} {rest : List Value} (hret : meth.sig.returnType = some .long) (hd : decode c.code pc = .ok (.lreturn, 1)) (hQ : Q (some (.long z)) T.heap locs) (hc : cells ≤ rm.cells) (hs : slots ≤ rm.slots) :
    own_Go p e below s Q rm (T.setTop (mkF m pc Ls (.long z :: rest))) := own_out X hlk (fun h => by rw [hret] at h; cases h) hc hs (fun fs hr => retOut X hx hret rfl (Or.inr (Or.inl ⟨rfl, rfl, z, rfl⟩)) hd hr) hQ
theorem own_retA (X : Stand p l e rm s m args below meth c T locs cells slots) (hx : p.tables.exec = Jvm.exec) (hlk : meth.locks = false) {pc : Nat} {Ls : Array Slot} {w : Value} {t : FieldType} {rest : List Value} (hret : meth.sig.returnType = some t) (ht : t.isReference = true) (hw : w.isRef = true) (hd : decode c.code pc = .ok (.areturn, 1)) (hQ : Q (some w) T.heap locs) (hc : cells ≤ rm.cells) (hs : slots ≤ rm.slots) :
    own_Go p e below s Q rm (T.setTop (mkF m pc Ls (w :: rest))) := by
  have hn : narrow t w = w := by cases w <;> first | (simp [Value.isRef] at hw; done) | (cases t <;> first | (simp [FieldType.isReference] at ht; done) | rfl)
  exact own_out X hlk (fun h => by rw [hret] at h; cases h) hc hs (fun fs hr => retOut X hx hret hn (Or.inr (Or.inr (Or.inr (Or.inr ⟨rfl, ht, hw⟩)))) hd hr) hQ
theorem own_enter {Z : State} {h0 : Heap} {y : MethodName} {bytes : ByteArray} {maxL : Nat} {ret : Option FieldType} {ws : List Jvm.Cond} {as : Array Value} (hp : plainFor y = true)
    (body : ∀ p e s m below meth c s₁, Stand p l e rm s m as below meth c s₁ [] 0 0 → p.tables.exec = Jvm.exec → Z.Warmed39 s.vm → c.code = bytes → c.maxLocals = maxL → s.vm.findClass y.cls = some m.cls → meth.name = y.name → meth.sig.returnType = ret → meth.locks = false → s₁.heap = h0 →
      own_Go p e below s Q rm (s₁.setTop (entryFrame m as maxL))) :
    MetFree l y (head1 (Jvm.Cond.code y bytes maxL ret :: ws) rm) (fun a U => a = as ∧ Z.Warmed39 U.vm ∧ U.heap = h0) (fun _ _ _ _ _ => True) (fun _ U o U' => ∃ v L, o = .returned v ∧ Q v U'.heap L ∧ FrameEnd U o U' L rm.cells rm.slots) := by
  refine MetFree.of_bodySF hp hisR ?_
  intro p e s m args below meth c s₁ Bd hml0 hP hK
  obtain ⟨rfl, hZ, hh⟩ := hP
  have X0 : Stand p l e rm s m args below meth c s₁ [] 0 0 := Stand.of_body Bd
  exact body p e s m below meth c s₁ X0 Bd.exec hZ Bd.bytes hml0 (findClass_of_methodNamed Bd.named) (name_of_methodNamed Bd.named Bd.method).1 Bd.returns (BodyLoose.notSynchronized Bd) (by rw [← hh, Bd.state]; rfl)
end OwnKit
theorem own_len31 {Z : State} {args : Array Value} {t : Term} {v : Value} {a : Addr} {cl : Cell} (h : (Term.length t).eval args Z none [] Z = some v) (ht : t.eval args Z none [] Z = some (.ref a)) (hc : Z.heap[a]? = some cl) : cl.slots.size < 2 ^ 31 := by
  simp only [Term.eval, ht, Option.bind_eq_bind, Option.bind_some] at h
  cases ha : Z.arrayAt? a with
  | none => simp [ha] at h
  | some c2 =>
    cases (State.arrayAt?_spec ha).1.symm.trans hc
    by_cases q : cl.slots.size < 2 ^ 31
    · exact q
    · simp [ha, q] at h
theorem own_eqr {Z : State} {args : Array Value} {X F : Term} {y : Value} (hy : y.isRef = true) (hF : F.eval args Z none [] Z = some y) (h : (Jvm.Cond.eq X F).value args Z none Z [] = some true) : X.eval args Z none [] Z = some y := by
  obtain ⟨x, y', e1, e2, k1, k2⟩ := cmp_v (Or.inl h)
  cases hF.symm.trans e2
  have hx : x.isRef = true := by
    rcases ref_cases hy with rfl | ⟨a, rfl⟩
    · exact k2.2
    · exact k2.2
  exact e1.trans (congrArg some (gotT (eq_R e1 hF hx hy) h))
theorem pl_0 : plainFor x = true := plainFor_of_name (by first | (simp [plainName, overriddenIn]; done) | decide +kernel)
theorem d1_0 : decode method_3_code 0 = .ok (.lload_n 0, 1) := by decide +kernel
theorem d1_1 : decode method_3_code 1 = .ok (.lconst 0, 1) := by decide +kernel
theorem d1_2 : decode method_3_code 2 = .ok (.lcmp, 1) := by decide +kernel
theorem d1_3 : decode method_3_code 3 = .ok (.ifCond .ne 7, 3) := by decide +kernel
theorem d1_6 : decode method_3_code 6 = .ok (.lconst 1, 1) := by decide +kernel
theorem d1_7 : decode method_3_code 7 = .ok (.goto 4, 3) := by decide +kernel
theorem d1_10 : decode method_3_code 10 = .ok (.lload_n 0, 1) := by decide +kernel
theorem d1_11 : decode method_3_code 11 = .ok (.lreturn, 1) := by decide +kernel
theorem pl_1 : plainFor (⟨"com/example/liftwise/liftwise/eval/arithmetic/SidesIsOneSidedPinLaw", "nonZero", "(J)J"⟩ : MethodName) = true := plainFor_of_name (by first | (simp [plainName, overriddenIn]; done) | decide +kernel)
theorem d2_0 : decode jdk_2097_method_29_code 0 = .ok (.lload_n 0, 1) := by decide +kernel
theorem d2_1 : decode jdk_2097_method_29_code 1 = .ok (.lconst 0, 1) := by decide +kernel
theorem d2_2 : decode jdk_2097_method_29_code 2 = .ok (.lcmp, 1) := by decide +kernel
theorem d2_3 : decode jdk_2097_method_29_code 3 = .ok (.ifCond .ne 7, 3) := by decide +kernel
theorem d2_6 : decode jdk_2097_method_29_code 6 = .ok (.getstatic 22, 3) := by decide +kernel
theorem d2_9 : decode jdk_2097_method_29_code 9 = .ok (.areturn, 1) := by decide +kernel
theorem d2_10 : decode jdk_2097_method_29_code 10 = .ok (.lload_n 0, 1) := by decide +kernel
theorem d2_11 : decode jdk_2097_method_29_code 11 = .ok (.lconst 0, 1) := by decide +kernel
theorem d2_12 : decode jdk_2097_method_29_code 12 = .ok (.lcmp, 1) := by decide +kernel
theorem d2_13 : decode jdk_2097_method_29_code 13 = .ok (.ifCond .le 18, 3) := by decide +kernel
theorem d2_16 : decode jdk_2097_method_29_code 16 = .ok (.lload_n 0, 1) := by decide +kernel
theorem d2_17 : decode jdk_2097_method_29_code 17 = .ok (.ldc2_w 345, 3) := by decide +kernel
theorem d2_20 : decode jdk_2097_method_29_code 20 = .ok (.lcmp, 1) := by decide +kernel
theorem d2_21 : decode jdk_2097_method_29_code 21 = .ok (.ifCond .gt 10, 3) := by decide +kernel
theorem d2_24 : decode jdk_2097_method_29_code 24 = .ok (.getstatic 347, 3) := by decide +kernel
theorem d2_27 : decode jdk_2097_method_29_code 27 = .ok (.lload_n 0, 1) := by decide +kernel
theorem d2_28 : decode jdk_2097_method_29_code 28 = .ok (.l2i, 1) := by decide +kernel
theorem d2_29 : decode jdk_2097_method_29_code 29 = .ok (.aaload, 1) := by decide +kernel
theorem d2_30 : decode jdk_2097_method_29_code 30 = .ok (.areturn, 1) := by decide +kernel
theorem d2_31 : decode jdk_2097_method_29_code 31 = .ok (.lload_n 0, 1) := by decide +kernel
theorem d2_32 : decode jdk_2097_method_29_code 32 = .ok (.lconst 0, 1) := by decide +kernel
theorem d2_33 : decode jdk_2097_method_29_code 33 = .ok (.lcmp, 1) := by decide +kernel
theorem d2_34 : decode jdk_2097_method_29_code 34 = .ok (.ifCond .ge 19, 3) := by decide +kernel
theorem d2_37 : decode jdk_2097_method_29_code 37 = .ok (.lload_n 0, 1) := by decide +kernel
theorem d2_38 : decode jdk_2097_method_29_code 38 = .ok (.ldc2_w 351, 3) := by decide +kernel
theorem d2_41 : decode jdk_2097_method_29_code 41 = .ok (.lcmp, 1) := by decide +kernel
theorem d2_42 : decode jdk_2097_method_29_code 42 = .ok (.ifCond .lt 11, 3) := by decide +kernel
theorem d2_45 : decode jdk_2097_method_29_code 45 = .ok (.getstatic 353, 3) := by decide +kernel
theorem d2_48 : decode jdk_2097_method_29_code 48 = .ok (.lload_n 0, 1) := by decide +kernel
theorem d2_49 : decode jdk_2097_method_29_code 49 = .ok (.lneg, 1) := by decide +kernel
theorem d2_50 : decode jdk_2097_method_29_code 50 = .ok (.l2i, 1) := by decide +kernel
theorem d2_51 : decode jdk_2097_method_29_code 51 = .ok (.aaload, 1) := by decide +kernel
theorem d2_52 : decode jdk_2097_method_29_code 52 = .ok (.areturn, 1) := by decide +kernel
theorem d2_53 : decode jdk_2097_method_29_code 53 = .ok (.new 23, 3) := by decide +kernel
theorem d2_56 : decode jdk_2097_method_29_code 56 = .ok (.dup, 1) := by decide +kernel
theorem d2_57 : decode jdk_2097_method_29_code 57 = .ok (.lload_n 0, 1) := by decide +kernel
theorem d2_58 : decode jdk_2097_method_29_code 58 = .ok (.invokespecial 356, 3) := by decide +kernel
theorem d2_61 : decode jdk_2097_method_29_code 61 = .ok (.areturn, 1) := by decide +kernel
theorem pl_2 : plainFor (⟨"java/math/BigInteger", "valueOf", "(J)Ljava/math/BigInteger;"⟩ : MethodName) = true := plainFor_of_name (by first | (simp [plainName, overriddenIn]; done) | decide +kernel)
theorem d3_0 : decode jdk_2097_method_30_code 0 = .ok (.aload_n 0, 1) := by decide +kernel
theorem d3_1 : decode jdk_2097_method_30_code 1 = .ok (.invokespecial 3, 3) := by decide +kernel
theorem d3_4 : decode jdk_2097_method_30_code 4 = .ok (.lload_n 1, 1) := by decide +kernel
theorem d3_5 : decode jdk_2097_method_30_code 5 = .ok (.lconst 0, 1) := by decide +kernel
theorem d3_6 : decode jdk_2097_method_30_code 6 = .ok (.lcmp, 1) := by decide +kernel
theorem d3_7 : decode jdk_2097_method_30_code 7 = .ok (.ifCond .ge 14, 3) := by decide +kernel
theorem d3_10 : decode jdk_2097_method_30_code 10 = .ok (.lload_n 1, 1) := by decide +kernel
theorem d3_11 : decode jdk_2097_method_30_code 11 = .ok (.lneg, 1) := by decide +kernel
theorem d3_12 : decode jdk_2097_method_30_code 12 = .ok (.lstore_n 1, 1) := by decide +kernel
theorem d3_13 : decode jdk_2097_method_30_code 13 = .ok (.aload_n 0, 1) := by decide +kernel
theorem d3_14 : decode jdk_2097_method_30_code 14 = .ok (.iconst (-1), 1) := by decide +kernel
theorem d3_15 : decode jdk_2097_method_30_code 15 = .ok (.putfield 32, 3) := by decide +kernel
theorem d3_18 : decode jdk_2097_method_30_code 18 = .ok (.goto 8, 3) := by decide +kernel
theorem d3_21 : decode jdk_2097_method_30_code 21 = .ok (.aload_n 0, 1) := by decide +kernel
theorem d3_22 : decode jdk_2097_method_30_code 22 = .ok (.iconst 1, 1) := by decide +kernel
theorem d3_23 : decode jdk_2097_method_30_code 23 = .ok (.putfield 32, 3) := by decide +kernel
theorem d3_26 : decode jdk_2097_method_30_code 26 = .ok (.lload_n 1, 1) := by decide +kernel
theorem d3_27 : decode jdk_2097_method_30_code 27 = .ok (.bipush 32, 2) := by decide +kernel
theorem d3_29 : decode jdk_2097_method_30_code 29 = .ok (.lushr, 1) := by decide +kernel
theorem d3_30 : decode jdk_2097_method_30_code 30 = .ok (.l2i, 1) := by decide +kernel
theorem d3_31 : decode jdk_2097_method_30_code 31 = .ok (.istore_n 3, 1) := by decide +kernel
theorem d3_32 : decode jdk_2097_method_30_code 32 = .ok (.iload_n 3, 1) := by decide +kernel
theorem d3_33 : decode jdk_2097_method_30_code 33 = .ok (.ifCond .ne 21, 3) := by decide +kernel
theorem d3_36 : decode jdk_2097_method_30_code 36 = .ok (.aload_n 0, 1) := by decide +kernel
theorem d3_37 : decode jdk_2097_method_30_code 37 = .ok (.iconst 1, 1) := by decide +kernel
theorem d3_38 : decode jdk_2097_method_30_code 38 = .ok (.newarray .int, 2) := by decide +kernel
theorem d3_40 : decode jdk_2097_method_30_code 40 = .ok (.putfield 28, 3) := by decide +kernel
theorem d3_43 : decode jdk_2097_method_30_code 43 = .ok (.aload_n 0, 1) := by decide +kernel
theorem d3_44 : decode jdk_2097_method_30_code 44 = .ok (.getfield 28, 3) := by decide +kernel
theorem d3_47 : decode jdk_2097_method_30_code 47 = .ok (.iconst 0, 1) := by decide +kernel
theorem d3_48 : decode jdk_2097_method_30_code 48 = .ok (.lload_n 1, 1) := by decide +kernel
theorem d3_49 : decode jdk_2097_method_30_code 49 = .ok (.l2i, 1) := by decide +kernel
theorem d3_50 : decode jdk_2097_method_30_code 50 = .ok (.iastore, 1) := by decide +kernel
theorem d3_51 : decode jdk_2097_method_30_code 51 = .ok (.goto 25, 3) := by decide +kernel
theorem d3_54 : decode jdk_2097_method_30_code 54 = .ok (.aload_n 0, 1) := by decide +kernel
theorem d3_55 : decode jdk_2097_method_30_code 55 = .ok (.iconst 2, 1) := by decide +kernel
theorem d3_56 : decode jdk_2097_method_30_code 56 = .ok (.newarray .int, 2) := by decide +kernel
theorem d3_58 : decode jdk_2097_method_30_code 58 = .ok (.putfield 28, 3) := by decide +kernel
theorem d3_61 : decode jdk_2097_method_30_code 61 = .ok (.aload_n 0, 1) := by decide +kernel
theorem d3_62 : decode jdk_2097_method_30_code 62 = .ok (.getfield 28, 3) := by decide +kernel
theorem d3_65 : decode jdk_2097_method_30_code 65 = .ok (.iconst 0, 1) := by decide +kernel
theorem d3_66 : decode jdk_2097_method_30_code 66 = .ok (.iload_n 3, 1) := by decide +kernel
theorem d3_67 : decode jdk_2097_method_30_code 67 = .ok (.iastore, 1) := by decide +kernel
theorem d3_68 : decode jdk_2097_method_30_code 68 = .ok (.aload_n 0, 1) := by decide +kernel
theorem d3_69 : decode jdk_2097_method_30_code 69 = .ok (.getfield 28, 3) := by decide +kernel
theorem d3_72 : decode jdk_2097_method_30_code 72 = .ok (.iconst 1, 1) := by decide +kernel
theorem d3_73 : decode jdk_2097_method_30_code 73 = .ok (.lload_n 1, 1) := by decide +kernel
theorem d3_74 : decode jdk_2097_method_30_code 74 = .ok (.l2i, 1) := by decide +kernel
theorem d3_75 : decode jdk_2097_method_30_code 75 = .ok (.iastore, 1) := by decide +kernel
theorem d3_76 : decode jdk_2097_method_30_code 76 = .ok (.return_, 1) := by decide +kernel
theorem pl_3 : plainFor (⟨"java/math/BigInteger", "<init>", "(J)V"⟩ : MethodName) = true := plainFor_of_name (by first | (simp [plainName, overriddenIn]; done) | decide +kernel)
theorem d4_0 : decode jdk_18_method_1_code 0 = .ok (.aload_n 0, 1) := by decide +kernel
theorem d4_1 : decode jdk_18_method_1_code 1 = .ok (.invokespecial 1, 3) := by decide +kernel
theorem d4_4 : decode jdk_18_method_1_code 4 = .ok (.return_, 1) := by decide +kernel
theorem pl_4 : plainFor (⟨"java/lang/Number", "<init>", "()V"⟩ : MethodName) = true := plainFor_of_name (by first | (simp [plainName, overriddenIn]; done) | decide +kernel)
theorem d6_0 : decode prog_74_method_1_code 0 = .ok (.aload_n 0, 1) := by decide +kernel
theorem d6_1 : decode prog_74_method_1_code 1 = .ok (.invokespecial 1, 3) := by decide +kernel
theorem d6_4 : decode prog_74_method_1_code 4 = .ok (.aload_n 0, 1) := by decide +kernel
theorem d6_5 : decode prog_74_method_1_code 5 = .ok (.iconst 1, 1) := by decide +kernel
theorem d6_6 : decode prog_74_method_1_code 6 = .ok (.putfield 7, 3) := by decide +kernel
theorem d6_9 : decode prog_74_method_1_code 9 = .ok (.aload_n 0, 1) := by decide +kernel
theorem d6_10 : decode prog_74_method_1_code 10 = .ok (.iconst 1, 1) := by decide +kernel
theorem d6_11 : decode prog_74_method_1_code 11 = .ok (.putfield 13, 3) := by decide +kernel
theorem d6_14 : decode prog_74_method_1_code 14 = .ok (.return_, 1) := by decide +kernel
theorem pl_6 : plainFor (⟨"com/example/liftwise/liftwise/eval/arithmetic/Solver$Sides", "<init>", "()V"⟩ : MethodName) = true := plainFor_of_name (by first | (simp [plainName, overriddenIn]; done) | decide +kernel)
theorem d7_0 : decode prog_74_method_2_code 0 = .ok (.aload_n 1, 1) := by decide +kernel
theorem d7_1 : decode prog_74_method_2_code 1 = .ok (.invokevirtual 16, 3) := by decide +kernel
theorem d7_4 : decode prog_74_method_2_code 4 = .ok (.getstatic 22, 3) := by decide +kernel
theorem d7_7 : decode prog_74_method_2_code 7 = .ok (.invokevirtual 26, 3) := by decide +kernel
theorem d7_10 : decode prog_74_method_2_code 10 = .ok (.istore_n 2, 1) := by decide +kernel
theorem d7_11 : decode prog_74_method_2_code 11 = .ok (.aload_n 1, 1) := by decide +kernel
theorem d7_12 : decode prog_74_method_2_code 12 = .ok (.invokevirtual 30, 3) := by decide +kernel
theorem d7_15 : decode prog_74_method_2_code 15 = .ok (.ifCond .le 26, 3) := by decide +kernel
theorem d7_18 : decode prog_74_method_2_code 18 = .ok (.aload_n 0, 1) := by decide +kernel
theorem d7_19 : decode prog_74_method_2_code 19 = .ok (.dup, 1) := by decide +kernel
theorem d7_20 : decode prog_74_method_2_code 20 = .ok (.getfield 34, 3) := by decide +kernel
theorem d7_23 : decode prog_74_method_2_code 23 = .ok (.iconst 1, 1) := by decide +kernel
theorem d7_24 : decode prog_74_method_2_code 24 = .ok (.iadd, 1) := by decide +kernel
theorem d7_25 : decode prog_74_method_2_code 25 = .ok (.putfield 34, 3) := by decide +kernel
theorem d7_28 : decode prog_74_method_2_code 28 = .ok (.aload_n 0, 1) := by decide +kernel
theorem d7_29 : decode prog_74_method_2_code 29 = .ok (.dup, 1) := by decide +kernel
theorem d7_30 : decode prog_74_method_2_code 30 = .ok (.getfield 7, 3) := by decide +kernel
theorem d7_33 : decode prog_74_method_2_code 33 = .ok (.iload_n 2, 1) := by decide +kernel
theorem d7_34 : decode prog_74_method_2_code 34 = .ok (.iand, 1) := by decide +kernel
theorem d7_35 : decode prog_74_method_2_code 35 = .ok (.putfield 7, 3) := by decide +kernel
theorem d7_38 : decode prog_74_method_2_code 38 = .ok (.goto 23, 3) := by decide +kernel
theorem d7_41 : decode prog_74_method_2_code 41 = .ok (.aload_n 0, 1) := by decide +kernel
theorem d7_42 : decode prog_74_method_2_code 42 = .ok (.dup, 1) := by decide +kernel
theorem d7_43 : decode prog_74_method_2_code 43 = .ok (.getfield 38, 3) := by decide +kernel
theorem d7_46 : decode prog_74_method_2_code 46 = .ok (.iconst 1, 1) := by decide +kernel
theorem d7_47 : decode prog_74_method_2_code 47 = .ok (.iadd, 1) := by decide +kernel
theorem d7_48 : decode prog_74_method_2_code 48 = .ok (.putfield 38, 3) := by decide +kernel
theorem d7_51 : decode prog_74_method_2_code 51 = .ok (.aload_n 0, 1) := by decide +kernel
theorem d7_52 : decode prog_74_method_2_code 52 = .ok (.dup, 1) := by decide +kernel
theorem d7_53 : decode prog_74_method_2_code 53 = .ok (.getfield 13, 3) := by decide +kernel
theorem d7_56 : decode prog_74_method_2_code 56 = .ok (.iload_n 2, 1) := by decide +kernel
theorem d7_57 : decode prog_74_method_2_code 57 = .ok (.iand, 1) := by decide +kernel
theorem d7_58 : decode prog_74_method_2_code 58 = .ok (.putfield 13, 3) := by decide +kernel
theorem d7_61 : decode prog_74_method_2_code 61 = .ok (.return_, 1) := by decide +kernel
theorem pl_7 : plainFor (⟨"com/example/liftwise/liftwise/eval/arithmetic/Solver$Sides", "add", "(Ljava/math/BigInteger;)V"⟩ : MethodName) = true := plainFor_of_name (by first | (simp [plainName, overriddenIn]; done) | decide +kernel)
theorem d8_0 : decode jdk_2097_method_79_code 0 = .ok (.aload_n 0, 1) := by decide +kernel
theorem d8_1 : decode jdk_2097_method_79_code 1 = .ok (.getfield 32, 3) := by decide +kernel
theorem d8_4 : decode jdk_2097_method_79_code 4 = .ok (.ifCond .lt 7, 3) := by decide +kernel
theorem d8_7 : decode jdk_2097_method_79_code 7 = .ok (.aload_n 0, 1) := by decide +kernel
theorem d8_8 : decode jdk_2097_method_79_code 8 = .ok (.goto 7, 3) := by decide +kernel
theorem d8_11 : decode jdk_2097_method_79_code 11 = .ok (.aload_n 0, 1) := by decide +kernel
theorem d8_12 : decode jdk_2097_method_79_code 12 = .ok (.invokevirtual 394, 3) := by decide +kernel
theorem d8_15 : decode jdk_2097_method_79_code 15 = .ok (.areturn, 1) := by decide +kernel
theorem pl_8 : plainFor (⟨"java/math/BigInteger", "abs", "()Ljava/math/BigInteger;"⟩ : MethodName) = true := plainFor_of_name (by first | (simp [plainName, overriddenIn]; done) | decide +kernel)
theorem d9_0 : decode jdk_2097_method_124_code 0 = .ok (.aload_n 1, 1) := by decide +kernel
theorem d9_1 : decode jdk_2097_method_124_code 1 = .ok (.aload_n 0, 1) := by decide +kernel
theorem d9_2 : decode jdk_2097_method_124_code 2 = .ok (.if_acmp .ne 5, 3) := by decide +kernel
theorem d9_5 : decode jdk_2097_method_124_code 5 = .ok (.iconst 1, 1) := by decide +kernel
theorem d9_6 : decode jdk_2097_method_124_code 6 = .ok (.ireturn, 1) := by decide +kernel
theorem d9_7 : decode jdk_2097_method_124_code 7 = .ok (.aload_n 1, 1) := by decide +kernel
theorem d9_8 : decode jdk_2097_method_124_code 8 = .ok (.instanceof 23, 3) := by decide +kernel
theorem d9_11 : decode jdk_2097_method_124_code 11 = .ok (.ifCond .eq 11, 3) := by decide +kernel
theorem d9_14 : decode jdk_2097_method_124_code 14 = .ok (.aload_n 1, 1) := by decide +kernel
theorem d9_15 : decode jdk_2097_method_124_code 15 = .ok (.checkcast 23, 3) := by decide +kernel
theorem d9_18 : decode jdk_2097_method_124_code 18 = .ok (.astore_n 2, 1) := by decide +kernel
theorem d9_19 : decode jdk_2097_method_124_code 19 = .ok (.goto 5, 3) := by decide +kernel
theorem d9_22 : decode jdk_2097_method_124_code 22 = .ok (.iconst 0, 1) := by decide +kernel
theorem d9_23 : decode jdk_2097_method_124_code 23 = .ok (.ireturn, 1) := by decide +kernel
theorem d9_24 : decode jdk_2097_method_124_code 24 = .ok (.aload_n 2, 1) := by decide +kernel
theorem d9_25 : decode jdk_2097_method_124_code 25 = .ok (.getfield 32, 3) := by decide +kernel
theorem d9_28 : decode jdk_2097_method_124_code 28 = .ok (.aload_n 0, 1) := by decide +kernel
theorem d9_29 : decode jdk_2097_method_124_code 29 = .ok (.getfield 32, 3) := by decide +kernel
theorem d9_32 : decode jdk_2097_method_124_code 32 = .ok (.if_icmp .eq 5, 3) := by decide +kernel
theorem d9_35 : decode jdk_2097_method_124_code 35 = .ok (.iconst 0, 1) := by decide +kernel
theorem d9_36 : decode jdk_2097_method_124_code 36 = .ok (.ireturn, 1) := by decide +kernel
theorem d9_37 : decode jdk_2097_method_124_code 37 = .ok (.aload_n 0, 1) := by decide +kernel
theorem d9_38 : decode jdk_2097_method_124_code 38 = .ok (.getfield 28, 3) := by decide +kernel
theorem d9_41 : decode jdk_2097_method_124_code 41 = .ok (.astore_n 3, 1) := by decide +kernel
theorem d9_42 : decode jdk_2097_method_124_code 42 = .ok (.aload_n 3, 1) := by decide +kernel
theorem d9_43 : decode jdk_2097_method_124_code 43 = .ok (.arraylength, 1) := by decide +kernel
theorem d9_44 : decode jdk_2097_method_124_code 44 = .ok (.istore 4, 2) := by decide +kernel
theorem d9_46 : decode jdk_2097_method_124_code 46 = .ok (.aload_n 2, 1) := by decide +kernel
theorem d9_47 : decode jdk_2097_method_124_code 47 = .ok (.getfield 28, 3) := by decide +kernel
theorem d9_50 : decode jdk_2097_method_124_code 50 = .ok (.astore 5, 2) := by decide +kernel
theorem d9_52 : decode jdk_2097_method_124_code 52 = .ok (.iload 4, 2) := by decide +kernel
theorem d9_54 : decode jdk_2097_method_124_code 54 = .ok (.aload 5, 2) := by decide +kernel
theorem d9_56 : decode jdk_2097_method_124_code 56 = .ok (.arraylength, 1) := by decide +kernel
theorem d9_57 : decode jdk_2097_method_124_code 57 = .ok (.if_icmp .eq 5, 3) := by decide +kernel
theorem d9_60 : decode jdk_2097_method_124_code 60 = .ok (.iconst 0, 1) := by decide +kernel
theorem d9_61 : decode jdk_2097_method_124_code 61 = .ok (.ireturn, 1) := by decide +kernel
theorem d9_62 : decode jdk_2097_method_124_code 62 = .ok (.iconst 0, 1) := by decide +kernel
theorem d9_63 : decode jdk_2097_method_124_code 63 = .ok (.istore 6, 2) := by decide +kernel
theorem d9_65 : decode jdk_2097_method_124_code 65 = .ok (.iload 6, 2) := by decide +kernel
theorem d9_67 : decode jdk_2097_method_124_code 67 = .ok (.iload 4, 2) := by decide +kernel
theorem d9_69 : decode jdk_2097_method_124_code 69 = .ok (.if_icmp .ge 23, 3) := by decide +kernel
theorem d9_72 : decode jdk_2097_method_124_code 72 = .ok (.aload 5, 2) := by decide +kernel
theorem d9_74 : decode jdk_2097_method_124_code 74 = .ok (.iload 6, 2) := by decide +kernel
theorem d9_76 : decode jdk_2097_method_124_code 76 = .ok (.iaload, 1) := by decide +kernel
theorem d9_77 : decode jdk_2097_method_124_code 77 = .ok (.aload_n 3, 1) := by decide +kernel
theorem d9_78 : decode jdk_2097_method_124_code 78 = .ok (.iload 6, 2) := by decide +kernel
theorem d9_80 : decode jdk_2097_method_124_code 80 = .ok (.iaload, 1) := by decide +kernel
theorem d9_81 : decode jdk_2097_method_124_code 81 = .ok (.if_icmp .eq 5, 3) := by decide +kernel
theorem d9_84 : decode jdk_2097_method_124_code 84 = .ok (.iconst 0, 1) := by decide +kernel
theorem d9_85 : decode jdk_2097_method_124_code 85 = .ok (.ireturn, 1) := by decide +kernel
theorem d9_86 : decode jdk_2097_method_124_code 86 = .ok (.iinc 6 1, 3) := by decide +kernel
theorem d9_89 : decode jdk_2097_method_124_code 89 = .ok (.goto (-24), 3) := by decide +kernel
theorem d9_92 : decode jdk_2097_method_124_code 92 = .ok (.iconst 1, 1) := by decide +kernel
theorem d9_93 : decode jdk_2097_method_124_code 93 = .ok (.ireturn, 1) := by decide +kernel
theorem pl_9 : plainFor (⟨"java/math/BigInteger", "equals", "(Ljava/lang/Object;)Z"⟩ : MethodName) = true := plainFor_of_name (by first | (simp [plainName, overriddenIn]; done) | decide +kernel)
theorem d10_0 : decode jdk_2097_method_81_code 0 = .ok (.aload_n 0, 1) := by decide +kernel
theorem d10_1 : decode jdk_2097_method_81_code 1 = .ok (.getfield 32, 3) := by decide +kernel
theorem d10_4 : decode jdk_2097_method_81_code 4 = .ok (.ireturn, 1) := by decide +kernel
theorem pl_10 : plainFor (⟨"java/math/BigInteger", "signum", "()I"⟩ : MethodName) = true := plainFor_of_name (by first | (simp [plainName, overriddenIn]; done) | decide +kernel)
theorem d11_0 : decode jdk_2097_method_80_code 0 = .ok (.new 23, 3) := by decide +kernel
theorem d11_3 : decode jdk_2097_method_80_code 3 = .ok (.dup, 1) := by decide +kernel
theorem d11_4 : decode jdk_2097_method_80_code 4 = .ok (.aload_n 0, 1) := by decide +kernel
theorem d11_5 : decode jdk_2097_method_80_code 5 = .ok (.getfield 28, 3) := by decide +kernel
theorem d11_8 : decode jdk_2097_method_80_code 8 = .ok (.aload_n 0, 1) := by decide +kernel
theorem d11_9 : decode jdk_2097_method_80_code 9 = .ok (.getfield 32, 3) := by decide +kernel
theorem d11_12 : decode jdk_2097_method_80_code 12 = .ok (.ineg, 1) := by decide +kernel
theorem d11_13 : decode jdk_2097_method_80_code 13 = .ok (.invokespecial 175, 3) := by decide +kernel
theorem d11_16 : decode jdk_2097_method_80_code 16 = .ok (.areturn, 1) := by decide +kernel
theorem pl_11 : plainFor (⟨"java/math/BigInteger", "negate", "()Ljava/math/BigInteger;"⟩ : MethodName) = true := plainFor_of_name (by first | (simp [plainName, overriddenIn]; done) | decide +kernel)
theorem d12_0 : decode jdk_2097_method_25_code 0 = .ok (.aload_n 0, 1) := by decide +kernel
theorem d12_1 : decode jdk_2097_method_25_code 1 = .ok (.invokespecial 3, 3) := by decide +kernel
theorem d12_4 : decode jdk_2097_method_25_code 4 = .ok (.aload_n 0, 1) := by decide +kernel
theorem d12_5 : decode jdk_2097_method_25_code 5 = .ok (.aload_n 1, 1) := by decide +kernel
theorem d12_6 : decode jdk_2097_method_25_code 6 = .ok (.arraylength, 1) := by decide +kernel
theorem d12_7 : decode jdk_2097_method_25_code 7 = .ok (.ifCond .ne 7, 3) := by decide +kernel
theorem d12_10 : decode jdk_2097_method_25_code 10 = .ok (.iconst 0, 1) := by decide +kernel
theorem d12_11 : decode jdk_2097_method_25_code 11 = .ok (.goto 4, 3) := by decide +kernel
theorem d12_14 : decode jdk_2097_method_25_code 14 = .ok (.iload_n 2, 1) := by decide +kernel
theorem d12_15 : decode jdk_2097_method_25_code 15 = .ok (.putfield 32, 3) := by decide +kernel
theorem d12_18 : decode jdk_2097_method_25_code 18 = .ok (.aload_n 0, 1) := by decide +kernel
theorem d12_19 : decode jdk_2097_method_25_code 19 = .ok (.aload_n 1, 1) := by decide +kernel
theorem d12_20 : decode jdk_2097_method_25_code 20 = .ok (.putfield 28, 3) := by decide +kernel
theorem d12_23 : decode jdk_2097_method_25_code 23 = .ok (.aload_n 0, 1) := by decide +kernel
theorem d12_24 : decode jdk_2097_method_25_code 24 = .ok (.getfield 28, 3) := by decide +kernel
theorem d12_27 : decode jdk_2097_method_25_code 27 = .ok (.arraylength, 1) := by decide +kernel
theorem d12_28 : decode jdk_2097_method_25_code 28 = .ok (.ldc 43, 2) := by decide +kernel
theorem d12_30 : decode jdk_2097_method_25_code 30 = .ok (.if_icmp .lt 7, 3) := by decide +kernel
theorem d12_33 : decode jdk_2097_method_25_code 33 = .ok (.aload_n 0, 1) := by decide +kernel
theorem d12_34 : decode jdk_2097_method_25_code 34 = .ok (.invokevirtual 44, 3) := by decide +kernel
theorem d12_37 : decode jdk_2097_method_25_code 37 = .ok (.return_, 1) := by decide +kernel
theorem pl_12 : plainFor (⟨"java/math/BigInteger", "<init>", "([II)V"⟩ : MethodName) = true := plainFor_of_name (by first | (simp [plainName, overriddenIn]; done) | decide +kernel)
theorem d13_0 : decode method_4_code 0 = .ok (.iload_n 0, 1) := by decide +kernel
theorem d13_1 : decode method_4_code 1 = .ok (.ifCond .eq 13, 3) := by decide +kernel
theorem d13_4 : decode method_4_code 4 = .ok (.lload_n 1, 1) := by decide +kernel
theorem d13_5 : decode method_4_code 5 = .ok (.lconst 0, 1) := by decide +kernel
theorem d13_6 : decode method_4_code 6 = .ok (.lcmp, 1) := by decide +kernel
theorem d13_7 : decode method_4_code 7 = .ok (.ifCond .le 7, 3) := by decide +kernel
theorem d13_10 : decode method_4_code 10 = .ok (.iconst 1, 1) := by decide +kernel
theorem d13_11 : decode method_4_code 11 = .ok (.goto 4, 3) := by decide +kernel
theorem d13_14 : decode method_4_code 14 = .ok (.iconst 0, 1) := by decide +kernel
theorem d13_15 : decode method_4_code 15 = .ok (.ireturn, 1) := by decide +kernel
theorem pl_13 : plainFor (⟨"com/example/liftwise/liftwise/eval/arithmetic/SidesIsOneSidedPinLaw", "positive", "(ZJ)I"⟩ : MethodName) = true := plainFor_of_name (by first | (simp [plainName, overriddenIn]; done) | decide +kernel)
theorem d14_0 : decode prog_74_method_3_code 0 = .ok (.aload_n 0, 1) := by decide +kernel
theorem d14_1 : decode prog_74_method_3_code 1 = .ok (.getfield 34, 3) := by decide +kernel
theorem d14_4 : decode prog_74_method_3_code 4 = .ok (.ifCond .eq 10, 3) := by decide +kernel
theorem d14_7 : decode prog_74_method_3_code 7 = .ok (.aload_n 0, 1) := by decide +kernel
theorem d14_8 : decode prog_74_method_3_code 8 = .ok (.getfield 38, 3) := by decide +kernel
theorem d14_11 : decode prog_74_method_3_code 11 = .ok (.ifCond .ne 7, 3) := by decide +kernel
theorem d14_14 : decode prog_74_method_3_code 14 = .ok (.iconst 1, 1) := by decide +kernel
theorem d14_15 : decode prog_74_method_3_code 15 = .ok (.goto 4, 3) := by decide +kernel
theorem d14_18 : decode prog_74_method_3_code 18 = .ok (.iconst 0, 1) := by decide +kernel
theorem d14_19 : decode prog_74_method_3_code 19 = .ok (.ireturn, 1) := by decide +kernel
theorem pl_14 : plainFor (⟨"com/example/liftwise/liftwise/eval/arithmetic/Solver$Sides", "isOneSided", "()Z"⟩ : MethodName) = true := plainFor_of_name (by first | (simp [plainName, overriddenIn]; done) | decide +kernel)
theorem pd_0 : parseMethodDescriptor "(J)J" = some ⟨[.long], some .long⟩ := by decide +kernel
theorem pd_1 : parseMethodDescriptor "(J)Ljava/math/BigInteger;" = some ⟨[.long], some (.object "java/math/BigInteger")⟩ := by decide +kernel
theorem pd_2 : parseMethodDescriptor "(J)V" = some ⟨[.long], none⟩ := by decide +kernel
theorem pd_3 : parseMethodDescriptor "()V" = some ⟨[], none⟩ := by decide +kernel
theorem pd_4 : parseMethodDescriptor "(Ljava/math/BigInteger;)V" = some ⟨[(.object "java/math/BigInteger")], none⟩ := by decide +kernel
theorem pd_5 : parseMethodDescriptor "()Ljava/math/BigInteger;" = some ⟨[], some (.object "java/math/BigInteger")⟩ := by decide +kernel
theorem pd_6 : parseMethodDescriptor "(Ljava/lang/Object;)Z" = some ⟨[(.object "java/lang/Object")], some .boolean⟩ := by decide +kernel
theorem pd_7 : parseMethodDescriptor "()I" = some ⟨[], some .int⟩ := by decide +kernel
theorem pd_8 : parseMethodDescriptor "([II)V" = some ⟨[(.array .int), .int], none⟩ := by decide +kernel
theorem pd_9 : parseMethodDescriptor "(ZJ)I" = some ⟨[.boolean, .long], some .int⟩ := by decide +kernel
theorem pd_10 : parseMethodDescriptor "()Z" = some ⟨[], some .boolean⟩ := by decide +kernel
theorem own_mod (x n : Int32) (hn : 0 < n.toInt) : 0 ≤ ((x &&& (2147483647 : Int32)) % n).toInt ∧ ((x &&& (2147483647 : Int32)) % n).toInt < n.toInt := by
  have h := (c_and x 2147483647 (by decide)).1
  have q := (c_iremV (x &&& 2147483647) n).1 h hn
  exact ⟨q.1, q.2.1⟩
theorem own_cases5 (k : Int32) (h : 0 ≤ k.toInt ∧ k.toInt < (5 : Int32).toInt) : k = (0 : Int32) ∨ k = (1 : Int32) ∨ k = (2 : Int32) ∨ k = (3 : Int32) ∨ k = (4 : Int32) := by
  have e : (5 : Int32).toInt = 5 := by decide
  have q : k.toInt = 0 ∨ k.toInt = 1 ∨ k.toInt = 2 ∨ k.toInt = 3 ∨ k.toInt = 4 := by omega
  rcases q with q | q | q | q | q
  · exact Or.inl (Int32.toInt_inj.mp (q.trans (by decide)))
  · exact Or.inr (Or.inl (Int32.toInt_inj.mp (q.trans (by decide))))
  · exact Or.inr (Or.inr (Or.inl (Int32.toInt_inj.mp (q.trans (by decide)))))
  · exact Or.inr (Or.inr (Or.inr (Or.inl (Int32.toInt_inj.mp (q.trans (by decide))))))
  · exact Or.inr (Or.inr (Or.inr (Or.inr ((Int32.toInt_inj.mp (q.trans (by decide)))))))
theorem own_ifc {p q : Prop} [Decidable p] [Decidable q] (h : p ↔ q) (a b : Int32) : (if p then a else b) = if q then a else b := by
  by_cases hp : p
  · rw [if_pos hp, if_pos (h.mp hp)]
  · rw [if_neg hp, if_neg (fun x => hp (h.mpr x))]
def own_Mag (n : Int32) (vs : List Value) (u : Int32) : Prop := (n = (1 : Int32) ∧ ∃ m : Int32, vs = [.int m] ∧ u = if m = (1 : Int32) then (1 : Int32) else (0 : Int32)) ∨ (n = (2 : Int32) ∧ ∃ a b : Int32, vs = [.int a, .int b] ∧ u = (0 : Int32))
def own_Big (Z : State) (h : Heap) (b : Addr) (sg u : Int32) : Prop := ∃ (ma : Addr) (k : ClassId) (n : Int32) (vs : List Value), Exa Z h b "java/math/BigInteger" ∧ Fld Z h b "java/math/BigInteger" "signum" "I" (.int sg) ∧ Fld Z h b "java/math/BigInteger" "mag" "[I" (.ref ma) ∧ Arv Z h ma k .int n vs (.int (0 : Int32)) ∧ own_Mag n vs u
theorem own_Big.ext {Z : State} {h h' : Heap} {b : Addr} {sg u : Int32} (F : own_Big Z h b sg u) (E : Ext h h') : own_Big Z h' b sg u := by
  obtain ⟨ma, k, n, vs, a1, a2, a3, a4, a5⟩ := F
  exact ⟨ma, k, n, vs, a1.ext E, a2.ext E, a3.ext E, Arv.ext a4 E, a5⟩
theorem own_Big.keep {Z : State} {h h' : Heap} {b : Addr} {sg u : Int32} (F : own_Big Z h b sg u) (K : Keep h h' []) : own_Big Z h' b sg u := by
  obtain ⟨ma, k, n, vs, a1, a2, a3, a4, a5⟩ := F
  exact ⟨ma, k, n, vs, a1.keep K, a2.keep K nin0, a3.keep K nin0, Arv.keep a4 K nin0, a5⟩
def own_sg (x : Int64) : Int32 := if (0 : Int64) < x then (1 : Int32) else (-1 : Int32)
def own_un (x : Int64) : Int32 := if x = (1 : Int64) ∨ x = (-1 : Int64) then (1 : Int32) else (0 : Int32)
theorem own_sg_or (x : Int64) : own_sg x = (1 : Int32) ∨ own_sg x = (-1 : Int32) := by
  by_cases h : (0 : Int64) < x
  · exact Or.inl (if_pos h)
  · exact Or.inr (if_neg h)
theorem own_un_or (x : Int64) : own_un x = (0 : Int32) ∨ own_un x = (1 : Int32) := by
  by_cases h : x = (1 : Int64) ∨ x = (-1 : Int64)
  · exact Or.inr (if_pos h)
  · exact Or.inl (if_neg h)
theorem own_mag_or {n : Int32} {vs : List Value} {u : Int32} (h : own_Mag n vs u) : u = (0 : Int32) ∨ u = (1 : Int32) := by
  rcases h with ⟨-, m, -, rfl⟩ | ⟨-, a, b, -, rfl⟩
  · by_cases q : m = (1 : Int32)
    · exact Or.inr (if_pos q)
    · exact Or.inl (if_neg q)
  · exact Or.inl rfl
/-- a table of boxed small numbers: what stands at 1 .. 16 -/
def own_Tab (Z : State) (a : Addr) (c : Cell) (sg : Int32) : Prop := Arr Z Z.heap a c (.object "java/math/BigInteger") ∧ c.slots.size = (17 : Int32).toNatClampNeg ∧ ∀ j : Int32, (0 : Int32) < j → ¬ (16 : Int32) < j → ∃ b, c.slots[j.toNatClampNeg]? = some (.ref b) ∧ own_Big Z Z.heap b sg (if j = (1 : Int32) then (1 : Int32) else (0 : Int32))
theorem own_fld_inj {Z : State} {h : Heap} {a : Addr} {C n d : String} {v w : Value} (F : Fld Z h a C n d v) (G : Fld Z h a C n d w) : v = w := Classical.byContradiction fun q => Fld.ne F G q rfl
theorem own_arv_inj {Z : State} {h : Heap} {a : Addr} {k k' : ClassId} {ty ty' : FieldType} {z z' : Int32} {vs vs' : List Value} {d d' : Value} (F : Arv Z h a k ty z vs d) (G : Arv Z h a k' ty' z' vs' d') : z.toNatClampNeg = z'.toNatClampNeg ∧ ∀ i, i < z.toNatClampNeg → vs.getD i d = vs'.getD i d' := by
  obtain ⟨c, A, -, S, -, H, -⟩ := F
  obtain ⟨c', A', -, S', -, H', -⟩ := G
  cases A.1.symm.trans A'.1
  refine ⟨S.symm.trans S', fun i hi => ?_⟩
  have e1 := H i (by rw [S]; exact hi)
  have e2 := H' i (by rw [S]; exact hi)
  exact Option.some.inj (e1.symm.trans e2)
/-- an object that is ONE is a unit -/
theorem own_one {Z : State} {h : Heap} {b ma om : Addr} {k ko : ClassId} {n : Int32} {vs : List Value} {u : Int32} (F : Fld Z h b "java/math/BigInteger" "mag" "[I" (.ref ma)) (G : Fld Z h b "java/math/BigInteger" "mag" "[I" (.ref om)) (A : Arv Z h ma k .int n vs (.int (0 : Int32))) (B : Arv Z h om ko .int (1 : Int32) [.int (1 : Int32)] (.int (0 : Int32))) (M : own_Mag n vs u) : u = (1 : Int32) := by
  cases Value.ref.inj (own_fld_inj F G)
  obtain ⟨e, q⟩ := own_arv_inj A B
  rcases M with ⟨rfl, m, rfl, rfl⟩ | ⟨rfl, a, c, rfl, rfl⟩
  · have := q 0 (by decide)
    exact if_pos (Value.int.inj this)
  · exact absurd e (by decide)
theorem own_low (y : Int64) (h : ((y.toUInt64 >>> ((32 : Int32) &&& 0x3f).toInt64.toUInt64).toInt64).toInt32 = (0 : Int32)) (q : y.toInt32 = (1 : Int32)) : y = (1 : Int64) := by
  have a := c_lushr y 32 32 (by decide) (by decide)
  have b := c_l2i ((y.toUInt64 >>> ((32 : Int32) &&& 0x3f).toInt64.toUInt64).toInt64)
  have c := c_l2i y
  have r := rng64 y
  have e0 : (0 : Int32).toInt = 0 := by decide
  have e1 : (1 : Int32).toInt = 1 := by decide
  rw [h, e0, a] at b
  rw [q, e1] at c
  have e2 : (1 : Int64).toInt = 1 := by decide
  refine Int64.toInt_inj.mp ?_
  rw [e2]
  have p : ((2 ^ 32 : Nat) : Int) = 4294967296 := by decide
  rw [p] at b
  omega
theorem own_big_pos {x : Int64} (h : (16 : Int64) < x) : ¬ x = (1 : Int64) ∧ ¬ x = (-1 : Int64) ∧ (0 : Int64) < x ∧ ¬ x < (0 : Int64) := by
  refine ⟨fun q => ?_, fun q => ?_, ?_, ?_⟩
  · rw [q] at h; exact absurd h (by decide)
  · rw [q] at h; exact absurd h (by decide)
  all_goals
    have e1 : (16 : Int64).toInt = 16 := by decide
    have e0 : (0 : Int64).toInt = 0 := by decide
    rw [Int64.lt_iff_toInt_lt] at h ⊢
    omega
theorem own_big_neg {x : Int64} (h : x < (-16 : Int64)) : ¬ x = (1 : Int64) ∧ ¬ -x = (1 : Int64) ∧ ¬ x = (-1 : Int64) ∧ ¬ (0 : Int64) < x ∧ x < (0 : Int64) := by
  have e1 : (-16 : Int64).toInt = -16 := by decide
  have e0 : (0 : Int64).toInt = 0 := by decide
  have e2 : (1 : Int64).toInt = 1 := by decide
  have e3 : (-1 : Int64).toInt = -1 := by decide
  have c := c_lneg x
  have r := rng64 x
  rw [Int64.lt_iff_toInt_lt] at h
  refine ⟨fun q => ?_, fun q => ?_, fun q => ?_, ?_, ?_⟩
  · rw [q] at h; omega
  · rw [q, e2] at c; omega
  · rw [q] at h; omega
  all_goals
    rw [Int64.lt_iff_toInt_lt]
    omega
theorem own_neg {x : Int64} (h0 : ¬ x = (0 : Int64)) (h : ¬ (0 : Int64) < x) : x < (0 : Int64) := by
  have e0 : (0 : Int64).toInt = 0 := by decide
  rw [← Int64.toInt_inj] at h0
  rw [Int64.lt_iff_toInt_lt] at h ⊢
  omega
theorem own_small_pos {x : Int64} (h : (0 : Int64) < x) (g : ¬ (16 : Int64) < x) : (0 : Int32) < x.toInt32 ∧ ¬ (16 : Int32) < x.toInt32 ∧ (x.toInt32 = (1 : Int32) ↔ x = (1 : Int64)) ∧ ¬ x = (-1 : Int64) := by
  have c := c_l2i x
  have r := rng32 x.toInt32
  have e1 : (16 : Int64).toInt = 16 := by decide
  have e0 : (0 : Int64).toInt = 0 := by decide
  have f1 : (16 : Int32).toInt = 16 := by decide
  have f0 : (0 : Int32).toInt = 0 := by decide
  have e2 : (1 : Int64).toInt = 1 := by decide
  have e3 : (-1 : Int64).toInt = -1 := by decide
  have f2 : (1 : Int32).toInt = 1 := by decide
  rw [Int64.lt_iff_toInt_lt] at h g
  rw [Int32.lt_iff_toInt_lt, Int32.lt_iff_toInt_lt, ← Int32.toInt_inj, ← Int64.toInt_inj, ← Int64.toInt_inj]
  omega
theorem own_small_neg {x : Int64} (h : x < (0 : Int64)) (g : ¬ x < (-16 : Int64)) : (0 : Int32) < (-x).toInt32 ∧ ¬ (16 : Int32) < (-x).toInt32 ∧ ((-x).toInt32 = (1 : Int32) ↔ x = (-1 : Int64)) ∧ ¬ x = (1 : Int64) ∧ ¬ (0 : Int64) < x := by
  have c := c_l2i (-x)
  have n := c_lneg x
  have rx := rng64 x
  have r6 := rng64 (-x)
  have r := rng32 (-x).toInt32
  have e1 : (-16 : Int64).toInt = -16 := by decide
  have e0 : (0 : Int64).toInt = 0 := by decide
  have f1 : (16 : Int32).toInt = 16 := by decide
  have f0 : (0 : Int32).toInt = 0 := by decide
  have e2 : (1 : Int64).toInt = 1 := by decide
  have e3 : (-1 : Int64).toInt = -1 := by decide
  have f2 : (1 : Int32).toInt = 1 := by decide
  rw [Int64.lt_iff_toInt_lt] at h g
  rw [Int32.lt_iff_toInt_lt, Int32.lt_iff_toInt_lt, Int64.lt_iff_toInt_lt, ← Int32.toInt_inj, ← Int64.toInt_inj, ← Int64.toInt_inj]
  omega
theorem own_inb17 {j : Int32} (h1 : (0 : Int32) < j) (h2 : ¬ (16 : Int32) < j) : ¬ j < 0 ∧ j < (17 : Int32) := by
  have f0 : (0 : Int32).toInt = 0 := by decide
  have f1 : (16 : Int32).toInt = 16 := by decide
  have f2 : (17 : Int32).toInt = 17 := by decide
  rw [Int32.lt_iff_toInt_lt] at h1 h2
  rw [Int32.lt_iff_toInt_lt, Int32.lt_iff_toInt_lt]
  omega
theorem own_and01 {a b : Int32} (ha : a = (0 : Int32) ∨ a = (1 : Int32)) (hb : b = (0 : Int32) ∨ b = (1 : Int32)) : narrow .boolean (.int (a &&& b)) = .int (a &&& b) ∧ fits .boolean (.int (a &&& b)) = true ∧ ((a &&& b) = (0 : Int32) ∨ (a &&& b) = (1 : Int32)) := by
  rcases ha with rfl | rfl <;> rcases hb with rfl | rfl <;> decide
theorem own_cases16 (j : Int32) (h1 : (0 : Int32) < j) (h2 : ¬ (16 : Int32) < j) : j = (1 : Int32) ∨ j = (2 : Int32) ∨ j = (3 : Int32) ∨ j = (4 : Int32) ∨ j = (5 : Int32) ∨ j = (6 : Int32) ∨ j = (7 : Int32) ∨ j = (8 : Int32) ∨ j = (9 : Int32) ∨ j = (10 : Int32) ∨ j = (11 : Int32) ∨ j = (12 : Int32) ∨ j = (13 : Int32) ∨ j = (14 : Int32) ∨ j = (15 : Int32) ∨ j = (16 : Int32) := by
  have f0 : (0 : Int32).toInt = 0 := by decide
  have f1 : (16 : Int32).toInt = 16 := by decide
  rw [Int32.lt_iff_toInt_lt] at h1 h2
  have q : j.toInt = 1 ∨ j.toInt = 2 ∨ j.toInt = 3 ∨ j.toInt = 4 ∨ j.toInt = 5 ∨ j.toInt = 6 ∨ j.toInt = 7 ∨ j.toInt = 8 ∨ j.toInt = 9 ∨ j.toInt = 10 ∨ j.toInt = 11 ∨ j.toInt = 12 ∨ j.toInt = 13 ∨ j.toInt = 14 ∨ j.toInt = 15 ∨ j.toInt = 16 := by omega
  rcases q with q | q | q | q | q | q | q | q | q | q | q | q | q | q | q | q
  · exact Or.inl (Int32.toInt_inj.mp (q.trans (by decide)))
  · exact Or.inr (Or.inl (Int32.toInt_inj.mp (q.trans (by decide))))
  · exact Or.inr (Or.inr (Or.inl (Int32.toInt_inj.mp (q.trans (by decide)))))
  · exact Or.inr (Or.inr (Or.inr (Or.inl (Int32.toInt_inj.mp (q.trans (by decide))))))
  · exact Or.inr (Or.inr (Or.inr (Or.inr (Or.inl (Int32.toInt_inj.mp (q.trans (by decide)))))))
  · exact Or.inr (Or.inr (Or.inr (Or.inr (Or.inr (Or.inl (Int32.toInt_inj.mp (q.trans (by decide))))))))
  · exact Or.inr (Or.inr (Or.inr (Or.inr (Or.inr (Or.inr (Or.inl (Int32.toInt_inj.mp (q.trans (by decide)))))))))
  · exact Or.inr (Or.inr (Or.inr (Or.inr (Or.inr (Or.inr (Or.inr (Or.inl (Int32.toInt_inj.mp (q.trans (by decide))))))))))
  · exact Or.inr (Or.inr (Or.inr (Or.inr (Or.inr (Or.inr (Or.inr (Or.inr (Or.inl (Int32.toInt_inj.mp (q.trans (by decide)))))))))))
  · exact Or.inr (Or.inr (Or.inr (Or.inr (Or.inr (Or.inr (Or.inr (Or.inr (Or.inr (Or.inl (Int32.toInt_inj.mp (q.trans (by decide))))))))))))
  · exact Or.inr (Or.inr (Or.inr (Or.inr (Or.inr (Or.inr (Or.inr (Or.inr (Or.inr (Or.inr (Or.inl (Int32.toInt_inj.mp (q.trans (by decide)))))))))))))
  · exact Or.inr (Or.inr (Or.inr (Or.inr (Or.inr (Or.inr (Or.inr (Or.inr (Or.inr (Or.inr (Or.inr (Or.inl (Int32.toInt_inj.mp (q.trans (by decide))))))))))))))
  · exact Or.inr (Or.inr (Or.inr (Or.inr (Or.inr (Or.inr (Or.inr (Or.inr (Or.inr (Or.inr (Or.inr (Or.inr (Or.inl (Int32.toInt_inj.mp (q.trans (by decide)))))))))))))))
  · exact Or.inr (Or.inr (Or.inr (Or.inr (Or.inr (Or.inr (Or.inr (Or.inr (Or.inr (Or.inr (Or.inr (Or.inr (Or.inr (Or.inl (Int32.toInt_inj.mp (q.trans (by decide))))))))))))))))
  · exact Or.inr (Or.inr (Or.inr (Or.inr (Or.inr (Or.inr (Or.inr (Or.inr (Or.inr (Or.inr (Or.inr (Or.inr (Or.inr (Or.inr (Or.inl (Int32.toInt_inj.mp (q.trans (by decide)))))))))))))))))
  · exact Or.inr (Or.inr (Or.inr (Or.inr (Or.inr (Or.inr (Or.inr (Or.inr (Or.inr (Or.inr (Or.inr (Or.inr (Or.inr (Or.inr (Or.inr ((Int32.toInt_inj.mp (q.trans (by decide))))))))))))))))))
def Q_rm_Number (Z : State) (a : Addr) (h0 : Heap) (n0 : Nat) (v : Option Value) (h : Heap) (L : List Loc) : Prop := v = none ∧ Fr n0 L ∧ h = h0
set_option maxRecDepth 65536 in
set_option maxHeartbeats 40000000 in
theorem rm_Number (l : Launch) (Z : State) (a0 : Array Value) (hw : ∀ d ∈ tables_1, d.before a0 Z = true) (ws : List Jvm.Cond) (a : Addr) (h0 : Heap) (n0 : Nat)  :
    MetFree l (⟨"java/lang/Number", "<init>", "()V"⟩ : MethodName) (head1 (Jvm.Cond.code (⟨"java/lang/Number", "<init>", "()V"⟩ : MethodName) jdk_18_method_1_code 1 none :: ws) ({ frames := 1, cells := 0, slots := 0, locals := 12 } : Room)) (fun ar U => ar = #[(.ref a)] ∧ Z.Warmed39 U.vm ∧ U.heap = h0) (fun _ _ _ _ _ => True) (fun _ U o U' => ∃ v L, o = .returned v ∧ Q_rm_Number Z a h0 n0 v U'.heap L ∧ FrameEnd U o U' L ({ frames := 1, cells := 0, slots := 0, locals := 12 } : Room).cells ({ frames := 1, cells := 0, slots := 0, locals := 12 } : Room).slots) := by
  refine own_enter (Q := (Q_rm_Number Z a h0 n0)) pl_4 ?_
  intro p e s m below meth c s₁ X0 hx hZ hby hml hown hnm hret hlk e0
  have N0 := Fr.nil n0
  refine own_by (fun tz kz => castTop (g' := (mkF m 0 #[.val (.ref a)] [])) (by first | (simp [entryFrame, mkF, argsToLocals, Value.category]; done) | rfl) kz) ?_
  show own_Go p e below s _ _ (s₁.setTop (mkF m 0 #[.val (.ref a)] []))
  refine own_by (fun tz kz => XS.aloadN X0.here hx rfl (hb hby d4_0) rfl rfl kz) ?_
  show own_Go p e below s _ _ (s₁.setTop (mkF m 1 #[.val (.ref a)] [(.ref a)]))
  obtain ⟨T1, X1, e1, st1⟩ := initO X0 hx hZ hown (hw _ (List.mem_of_getElem? (i := 24) rfl)) (hw _ (List.mem_of_getElem? (i := 25) rfl)) (hw _ (List.mem_of_getElem? (i := 26) rfl)) e0 (g := (mkF m 1 #[.val (.ref a)] [(.ref a)])) rfl (by rw [hml]; rfl) rfl (hb hby d4_1) (by decide) (W := 0) (by show 2 * 0 + _ ≤ _; exact Nat.le_of_eq rfl) (by decide)
  refine own_by st1 ?_
  show own_Go p e below s _ _ (T1.setTop (mkF m 4 #[.val (.ref a)] []))
  refine own_retV X1 hx hlk hret (hb hby d4_4) ?_ (by decide) (by decide)
  exact ⟨rfl, N0, e1⟩
def Q_rm_Binit (Z : State) (a : Addr) (x : Int64) (h0 : Heap) (n0 : Nat) (v : Option Value) (h : Heap) (L : List Loc) : Prop := v = none ∧ Fr n0 L ∧ Keep h0 h [a] ∧ own_Big Z h a (own_sg x) (0 : Int32)
set_option maxRecDepth 65536 in
set_option maxHeartbeats 40000000 in
theorem rm_Binit (l : Launch) (Z : State) (a0 : Array Value) (hw : ∀ d ∈ tables_1, d.before a0 Z = true) (ws : List Jvm.Cond) (a : Addr) (x : Int64) (h0 : Heap) (n0 : Nat) (O0 : Old Z n0 h0) (E_a : Exa Z h0 a "java/math/BigInteger") (F_s : Fld Z h0 a "java/math/BigInteger" "signum" "I" (.int (0 : Int32))) (F_m : Fld Z h0 a "java/math/BigInteger" "mag" "[I" .null) (g_a : n0 ≤ a) (hbig : (16 : Int64) < x ∨ x < (-16 : Int64)) :
    MetFree l (⟨"java/math/BigInteger", "<init>", "(J)V"⟩ : MethodName) (head1 (Jvm.Cond.code (⟨"java/math/BigInteger", "<init>", "(J)V"⟩ : MethodName) jdk_2097_method_30_code 4 none :: ws) ({ frames := 2, cells := 1, slots := 2, locals := 26 } : Room)) (fun ar U => ar = #[(.ref a), (.long x)] ∧ Z.Warmed39 U.vm ∧ U.heap = h0) (fun _ _ _ _ _ => True) (fun _ U o U' => ∃ v L, o = .returned v ∧ Q_rm_Binit Z a x h0 n0 v U'.heap L ∧ FrameEnd U o U' L ({ frames := 2, cells := 1, slots := 2, locals := 26 } : Room).cells ({ frames := 2, cells := 1, slots := 2, locals := 26 } : Room).slots) := by
  refine own_enter (Q := (Q_rm_Binit Z a x h0 n0)) pl_3 ?_
  intro p e s m below meth c s₁ X0 hx hZ hby hml hown hnm hret hlk e0
  have N0 := Fr.nil n0
  refine own_by (fun tz kz => castTop (g' := (mkF m 0 #[.val (.ref a), .val (.long x), .second, .unset] [])) (by first | (simp [entryFrame, mkF, argsToLocals, Value.category]; done) | rfl) kz) ?_
  have K0 := Keep.refl h0 [a]
  show own_Go p e below s _ _ (s₁.setTop (mkF m 0 #[.val (.ref a), .val (.long x), .second, .unset] []))
  refine own_by (fun tz kz => XS.aloadN X0.here hx rfl (hb hby d3_0) rfl rfl kz) ?_
  show own_Go p e below s _ _ (s₁.setTop (mkF m 1 #[.val (.ref a), .val (.long x), .second, .unset] [(.ref a)]))
  obtain ⟨_, _, ⟨T1, L1, k1, n1⟩, -, X1, ⟨Lc1, hQ1, l1, y1, z1⟩, st1⟩ := X0.specialBack hx (y := (⟨"java/lang/Number", "<init>", "()V"⟩ : MethodName)) rfl hown (mvT hZ (hw _ (List.mem_of_getElem? (i := 18) rfl))) (mvT hZ (hw _ (List.mem_of_getElem? (i := 19) rfl))) (mvT hZ (hw _ (List.mem_of_getElem? (i := 23) rfl))) (by decide) (backOf (W := 0) (rm_Number l Z a0 hw [] a h0 n0) hZ (hw _ (List.mem_of_getElem? (i := 23) rfl)) (hw _ (List.mem_of_getElem? (i := 22) rfl)) (by decide) (by decide)) (g := (mkF m 1 #[.val (.ref a), .val (.long x), .second, .unset] [(.ref a)])) rfl (by rw [hml]; rfl) (Steps.refl _) (a := a) (argsL := []) (rest := []) (lenOf pd_3 rfl) rfl (by show 2 * 0 + _ ≤ _; exact Nat.le_of_eq rfl) (hb hby d3_1) (fun _ _ => ⟨rfl, e0, (by decide : 0 + 0 ≤ _), (by decide : 0 + 0 ≤ _)⟩)
  dsimp only [Pt.U, Pt.locs, Pt.cells, Pt.slots] at X1 l1 y1 z1 st1 hQ1
  rw [l1, y1, z1] at X1
  obtain ⟨rfl, Nq1, e1⟩ := hQ1
  have N1 := Fr.app N0 Nq1
  refine own_via st1 ?_
  show own_Go p e below s _ _ (T1.setTop (mkF m 4 #[.val (.ref a), .val (.long x), .second, .unset] []))
  refine own_by (fun tz kz => XS.lloadN X1.here hx rfl (hb hby d3_4) rfl kz) ?_
  show own_Go p e below s _ _ (T1.setTop (mkF m 5 #[.val (.ref a), .val (.long x), .second, .unset] [(.long x)]))
  refine own_by (fun tz kz => XS.lconst X1.here hx rfl (hb hby d3_5) kz) ?_
  show own_Go p e below s _ _ (T1.setTop (mkF m 6 #[.val (.ref a), .val (.long x), .second, .unset] [(.long (0 : Int64)), (.long x)]))
  refine own_by (fun tz kz => XS.lcmp X1.here hx rfl (hb hby d3_6) rfl kz) ?_
  show own_Go p e below s _ _ (T1.setTop (mkF m 7 #[.val (.ref a), .val (.long x), .second, .unset] [(.int (lcmpW x (0 : Int64)))]))
  by_cases hc7_2 : x < (0 : Int64)
  · refine own_by (fun tz kz => XS.ifNo X1.here hx rfl (hb hby d3_7) rfl ((if0 _ _).trans (tlt ((lw_lt x (0 : Int64)).mpr hc7_2)).2.1) kz) ?_
    show own_Go p e below s _ _ (T1.setTop (mkF m 10 #[.val (.ref a), .val (.long x), .second, .unset] []))
    refine own_by (fun tz kz => XS.lloadN X1.here hx rfl (hb hby d3_10) rfl kz) ?_
    show own_Go p e below s _ _ (T1.setTop (mkF m 11 #[.val (.ref a), .val (.long x), .second, .unset] [(.long x)]))
    refine own_by (fun tz kz => XS.lneg X1.here hx rfl (hb hby d3_11) rfl kz) ?_
    show own_Go p e below s _ _ (T1.setTop (mkF m 12 #[.val (.ref a), .val (.long x), .second, .unset] [(.long (-x))]))
    refine own_by (fun tz kz => XS.lstoreN X1.here hx rfl (hb hby d3_12) rfl (l' := #[.val (.ref a), .val (.long (-x)), .second, .unset]) rfl kz) ?_
    show own_Go p e below s _ _ (T1.setTop (mkF m 13 #[.val (.ref a), .val (.long (-x)), .second, .unset] []))
    refine own_by (fun tz kz => XS.aloadN X1.here hx rfl (hb hby d3_13) rfl rfl kz) ?_
    show own_Go p e below s _ _ (T1.setTop (mkF m 14 #[.val (.ref a), .val (.long (-x)), .second, .unset] [(.ref a)]))
    refine own_by (fun tz kz => XS.iconst X1.here hx rfl (hb hby d3_14) kz) ?_
    show own_Go p e below s _ _ (T1.setTop (mkF m 15 #[.val (.ref a), .val (.long (-x)), .second, .unset] [(.int (-1 : Int32)), (.ref a)]))
    obtain ⟨T3, h3, X3, e3, W3, st3⟩ := putF X1 hx hZ hown (host := "") (Or.inl (hw _ (List.mem_of_getElem? (i := 27) rfl))) Via.refl e1 F_s E_a (Or.inr ⟨(hw _ (List.mem_of_getElem? (i := 28) rfl)), rfl, hnm⟩) (hw _ (List.mem_of_getElem? (i := 13) rfl)) (ty := .int) (by decide) rfl rfl (g := (mkF m 15 #[.val (.ref a), .val (.long (-x)), .second, .unset] [(.int (-1 : Int32)), (.ref a)])) rfl rfl (hb hby d3_15)
    have Fw3 := F_s.same W3
    have O3 := O0.wr W3 g_a
    have N3 := Fr.snoc X3 N1 g_a
    have K3 := K0.wr W3 (Or.inl (List.mem_of_getElem? (i := 0) rfl))
    refine own_by st3 ?_
    show own_Go p e below s _ _ (T3.setTop (mkF m 18 #[.val (.ref a), .val (.long (-x)), .second, .unset] []))
    refine own_by (fun tz kz => XS.goto X3.here hx rfl (pc0 := 18) (pc' := 26) rfl (hb hby d3_18) (by decide) (by decide) kz) ?_
    show own_Go p e below s _ _ (T3.setTop (mkF m 26 #[.val (.ref a), .val (.long (-x)), .second, .unset] []))
    refine own_by (fun tz kz => XS.lloadN X3.here hx rfl (hb hby d3_26) rfl kz) ?_
    show own_Go p e below s _ _ (T3.setTop (mkF m 27 #[.val (.ref a), .val (.long (-x)), .second, .unset] [(.long (-x))]))
    refine own_by (fun tz kz => XS.bipush X3.here hx rfl (hb hby d3_27) kz) ?_
    show own_Go p e below s _ _ (T3.setTop (mkF m 29 #[.val (.ref a), .val (.long (-x)), .second, .unset] [(.int (32 : Int32)), (.long (-x))]))
    refine own_by (fun tz kz => XS.lushr X3.here hx rfl (hb hby d3_29) rfl kz) ?_
    show own_Go p e below s _ _ (T3.setTop (mkF m 30 #[.val (.ref a), .val (.long (-x)), .second, .unset] [(.long (((-x).toUInt64 >>> ((32 : Int32) &&& 0x3f).toInt64.toUInt64).toInt64))]))
    refine own_by (fun tz kz => XS.l2i X3.here hx rfl (hb hby d3_30) rfl kz) ?_
    show own_Go p e below s _ _ (T3.setTop (mkF m 31 #[.val (.ref a), .val (.long (-x)), .second, .unset] [(.int ((((-x).toUInt64 >>> ((32 : Int32) &&& 0x3f).toInt64.toUInt64).toInt64).toInt32))]))
    refine own_by (fun tz kz => XS.istoreN X3.here hx rfl (hb hby d3_31) rfl (l' := #[.val (.ref a), .val (.long (-x)), .second, .val (.int ((((-x).toUInt64 >>> ((32 : Int32) &&& 0x3f).toInt64.toUInt64).toInt64).toInt32))]) rfl kz) ?_
    show own_Go p e below s _ _ (T3.setTop (mkF m 32 #[.val (.ref a), .val (.long (-x)), .second, .val (.int ((((-x).toUInt64 >>> ((32 : Int32) &&& 0x3f).toInt64.toUInt64).toInt64).toInt32))] []))
    refine own_by (fun tz kz => XS.iloadN X3.here hx rfl (hb hby d3_32) rfl  kz) ?_
    show own_Go p e below s _ _ (T3.setTop (mkF m 33 #[.val (.ref a), .val (.long (-x)), .second, .val (.int ((((-x).toUInt64 >>> ((32 : Int32) &&& 0x3f).toInt64.toUInt64).toInt64).toInt32))] [(.int ((((-x).toUInt64 >>> ((32 : Int32) &&& 0x3f).toInt64.toUInt64).toInt64).toInt32))]))
    by_cases hc33_4 : ((((-x).toUInt64 >>> ((32 : Int32) &&& 0x3f).toInt64.toUInt64).toInt64).toInt32) = (0 : Int32)
    · refine own_by (fun tz kz => XS.ifNo X3.here hx rfl (hb hby d3_33) rfl ((if0 _ _).trans (teq hc33_4).2) kz) ?_
      show own_Go p e below s _ _ (T3.setTop (mkF m 36 #[.val (.ref a), .val (.long (-x)), .second, .val (.int ((((-x).toUInt64 >>> ((32 : Int32) &&& 0x3f).toInt64.toUInt64).toInt64).toInt32))] []))
      refine own_by (fun tz kz => XS.aloadN X3.here hx rfl (hb hby d3_36) rfl rfl kz) ?_
      show own_Go p e below s _ _ (T3.setTop (mkF m 37 #[.val (.ref a), .val (.long (-x)), .second, .val (.int ((((-x).toUInt64 >>> ((32 : Int32) &&& 0x3f).toInt64.toUInt64).toInt64).toInt32))] [(.ref a)]))
      refine own_by (fun tz kz => XS.iconst X3.here hx rfl (hb hby d3_37) kz) ?_
      show own_Go p e below s _ _ (T3.setTop (mkF m 38 #[.val (.ref a), .val (.long (-x)), .second, .val (.int ((((-x).toUInt64 >>> ((32 : Int32) &&& 0x3f).toInt64.toUInt64).toInt64).toInt32))] [(.int (1 : Int32)), (.ref a)]))
      obtain ⟨T5, h5, k5, X5, e5, E5, A5, st5⟩ := newP X3 hx hZ (hw _ (List.mem_of_getElem? (i := 29) rfl)) e3 (g := (mkF m 38 #[.val (.ref a), .val (.long (-x)), .second, .val (.int ((((-x).toUInt64 >>> ((32 : Int32) &&& 0x3f).toInt64.toUInt64).toInt64).toInt32))] [(.int (1 : Int32)), (.ref a)])) rfl (hb hby d3_38) rfl (by decide) (cap := 1) (by decide) (by decide) (by decide) (by decide)
      obtain ⟨b5, g5⟩ : ∃ z, z = h3.size := ⟨_, rfl⟩
      have f6 := (E_a.wr W3)
      have ne_a_b5 : a ≠ b5 := by rw [g5]; exact Nat.ne_of_lt f6.lt
      rw [← g5] at A5 st5
      have g_b5 : n0 ≤ b5 := by rw [g5]; exact O3.1 ▸ O3.2.1
      have sz_b5 : h0.size ≤ b5 := by rw [g5]; exact K3.1
      have O5 := O3.ext E5
      have K5 := K3.ext E5
      refine own_by st5 ?_
      have V5 : Arv Z h5 b5 k5 .int (1 : Int32) [(.int (0 : Int32))] (.int (0 : Int32)) := (Arv.new A5 (by decide)).pad (pad_rep [] (.int (0 : Int32)) 1)
      show own_Go p e below s _ _ (T5.setTop (mkF m 40 #[.val (.ref a), .val (.long (-x)), .second, .val (.int ((((-x).toUInt64 >>> ((32 : Int32) &&& 0x3f).toInt64.toUInt64).toInt64).toInt32))] [(.ref b5), (.ref a)]))
      have f7 := ((F_m.other W3 (Or.inr (slot_ne (Or.inr (hw _ (List.mem_of_getElem? (i := 31) rfl))) (Or.inr (hw _ (List.mem_of_getElem? (i := 28) rfl))) (by decide) (t := (.array .int)) (t' := .int) (by decide) (by decide)))).ext E5)
      have f8 := (f6.ext E5)
      obtain ⟨T9, h9, X9, e9, W9, st9⟩ := putF X5 hx hZ hown (host := "") (Or.inl (hw _ (List.mem_of_getElem? (i := 30) rfl))) Via.refl e5 f7 f8 (Or.inr ⟨(hw _ (List.mem_of_getElem? (i := 31) rfl)), rfl, hnm⟩) (hw _ (List.mem_of_getElem? (i := 13) rfl)) (ty := (.array .int)) (by decide) rfl rfl (g := (mkF m 40 #[.val (.ref a), .val (.long (-x)), .second, .val (.int ((((-x).toUInt64 >>> ((32 : Int32) &&& 0x3f).toInt64.toUInt64).toInt64).toInt32))] [(.ref b5), (.ref a)])) rfl rfl (hb hby d3_40)
      have Fw9 := f7.same W9
      have O9 := O5.wr W9 g_a
      have N9 := Fr.snoc X9 N3 g_a
      have K9 := K5.wr W9 (Or.inl (List.mem_of_getElem? (i := 0) rfl))
      refine own_by st9 ?_
      show own_Go p e below s _ _ (T9.setTop (mkF m 43 #[.val (.ref a), .val (.long (-x)), .second, .val (.int ((((-x).toUInt64 >>> ((32 : Int32) &&& 0x3f).toInt64.toUInt64).toInt64).toInt32))] []))
      refine own_by (fun tz kz => XS.aloadN X9.here hx rfl (hb hby d3_43) rfl rfl kz) ?_
      show own_Go p e below s _ _ (T9.setTop (mkF m 44 #[.val (.ref a), .val (.long (-x)), .second, .val (.int ((((-x).toUInt64 >>> ((32 : Int32) &&& 0x3f).toInt64.toUInt64).toInt64).toInt32))] [(.ref a)]))
      obtain ⟨T10, X10, e10, st10⟩ := getF X9 hx hZ hown (host := "") (Or.inl (hw _ (List.mem_of_getElem? (i := 30) rfl))) Via.refl e9 Fw9 (g := (mkF m 44 #[.val (.ref a), .val (.long (-x)), .second, .val (.int ((((-x).toUInt64 >>> ((32 : Int32) &&& 0x3f).toInt64.toUInt64).toInt64).toInt32))] [(.ref a)])) rfl rfl (hb hby d3_44)
      refine own_by st10 ?_
      show own_Go p e below s _ _ (T10.setTop (mkF m 47 #[.val (.ref a), .val (.long (-x)), .second, .val (.int ((((-x).toUInt64 >>> ((32 : Int32) &&& 0x3f).toInt64.toUInt64).toInt64).toInt32))] [(.ref b5)]))
      refine own_by (fun tz kz => XS.iconst X10.here hx rfl (hb hby d3_47) kz) ?_
      show own_Go p e below s _ _ (T10.setTop (mkF m 48 #[.val (.ref a), .val (.long (-x)), .second, .val (.int ((((-x).toUInt64 >>> ((32 : Int32) &&& 0x3f).toInt64.toUInt64).toInt64).toInt32))] [(.int (0 : Int32)), (.ref b5)]))
      refine own_by (fun tz kz => XS.lloadN X10.here hx rfl (hb hby d3_48) rfl kz) ?_
      show own_Go p e below s _ _ (T10.setTop (mkF m 49 #[.val (.ref a), .val (.long (-x)), .second, .val (.int ((((-x).toUInt64 >>> ((32 : Int32) &&& 0x3f).toInt64.toUInt64).toInt64).toInt32))] [(.long (-x)), (.int (0 : Int32)), (.ref b5)]))
      refine own_by (fun tz kz => XS.l2i X10.here hx rfl (hb hby d3_49) rfl kz) ?_
      show own_Go p e below s _ _ (T10.setTop (mkF m 50 #[.val (.ref a), .val (.long (-x)), .second, .val (.int ((((-x).toUInt64 >>> ((32 : Int32) &&& 0x3f).toInt64.toUInt64).toInt64).toInt32))] [(.int ((-x).toInt32)), (.int (0 : Int32)), (.ref b5)]))
      have f12 := (V5.other W9 (Ne.symm ne_a_b5))
      obtain ⟨c11, Ar11, q11, S11, M11, Hh11, G11⟩ := id f12
      have hin11 : ¬ ((0 : Int32) < 0 ∨ c11.slots.size ≤ ((0 : Int32)).toNatClampNeg) := inb_of S11 ⟨by decide, by decide⟩
      obtain ⟨T11, h11, X11, e11, W11, st11⟩ := stI X10 hx hZ e10 Ar11 (j := (0 : Int32)) hin11 (g := (mkF m 50 #[.val (.ref a), .val (.long (-x)), .second, .val (.int ((((-x).toUInt64 >>> ((32 : Int32) &&& 0x3f).toInt64.toUInt64).toInt64).toInt32))] [(.int ((-x).toInt32)), (.int (0 : Int32)), (.ref b5)])) rfl rfl (hb hby d3_50)
      have V11 : Arv Z h11 b5 k5 .int (1 : Int32) [(.int ((-x).toInt32))] (.int (0 : Int32)) := Arv.set Ar11 q11 S11 M11 Hh11 G11 rfl W11 0 (by decide) (Nat.le_of_ble_eq_true rfl)
      have O11 := O9.wr W11 g_b5
      have N11 := Fr.snoc X11 N9 g_b5
      have K11 := K9.wr W11 (Or.inr sz_b5)
      refine own_by st11 ?_
      show own_Go p e below s _ _ (T11.setTop (mkF m 51 #[.val (.ref a), .val (.long (-x)), .second, .val (.int ((((-x).toUInt64 >>> ((32 : Int32) &&& 0x3f).toInt64.toUInt64).toInt64).toInt32))] []))
      refine own_by (fun tz kz => XS.goto X11.here hx rfl (pc0 := 51) (pc' := 76) rfl (hb hby d3_51) (by decide) (by decide) kz) ?_
      show own_Go p e below s _ _ (T11.setTop (mkF m 76 #[.val (.ref a), .val (.long (-x)), .second, .val (.int ((((-x).toUInt64 >>> ((32 : Int32) &&& 0x3f).toInt64.toUInt64).toInt64).toInt32))] []))
      have f13 := ((f8.wr W9).wr W11)
      have f14 := (((Fw3.ext E5).other W9 (Or.inr (slot_ne (Or.inr (hw _ (List.mem_of_getElem? (i := 28) rfl))) (Or.inr (hw _ (List.mem_of_getElem? (i := 31) rfl))) (by decide) (t := .int) (t' := (.array .int)) (by decide) (by decide)))).other W11 (Or.inl ne_a_b5))
      have f15 := (Fw9.other W11 (Or.inl ne_a_b5))
      have hs : own_sg x = (-1 : Int32) := if_neg (hbig.elim (fun g => absurd hc7_2 (own_big_pos g).2.2.2) (fun g => (own_big_neg g).2.2.2.1))
      refine own_retV X11 hx hlk hret (hb hby d3_76) ?_ (by decide) (by decide)
      exact ⟨rfl, N11, by rw [e11]; exact K11, by rw [hs, e11]; exact ⟨b5, _, _, _, f13, f14, f15, V11, Or.inl ⟨rfl, _, rfl, (if_neg (fun q => (hbig.elim (fun g => absurd hc7_2 (own_big_pos g).2.2.2) (fun g => (own_big_neg g).2.1)) (own_low _ hc33_4 q))).symm⟩⟩⟩
    · refine own_by (fun tz kz => XS.ifYes X3.here hx rfl (pc0 := 33) (pc' := 54) rfl (hb hby d3_33) rfl ((if0 _ _).trans (feq hc33_4).2) (by decide) (by decide) kz) ?_
      show own_Go p e below s _ _ (T3.setTop (mkF m 54 #[.val (.ref a), .val (.long (-x)), .second, .val (.int ((((-x).toUInt64 >>> ((32 : Int32) &&& 0x3f).toInt64.toUInt64).toInt64).toInt32))] []))
      refine own_by (fun tz kz => XS.aloadN X3.here hx rfl (hb hby d3_54) rfl rfl kz) ?_
      show own_Go p e below s _ _ (T3.setTop (mkF m 55 #[.val (.ref a), .val (.long (-x)), .second, .val (.int ((((-x).toUInt64 >>> ((32 : Int32) &&& 0x3f).toInt64.toUInt64).toInt64).toInt32))] [(.ref a)]))
      refine own_by (fun tz kz => XS.iconst X3.here hx rfl (hb hby d3_55) kz) ?_
      show own_Go p e below s _ _ (T3.setTop (mkF m 56 #[.val (.ref a), .val (.long (-x)), .second, .val (.int ((((-x).toUInt64 >>> ((32 : Int32) &&& 0x3f).toInt64.toUInt64).toInt64).toInt32))] [(.int (2 : Int32)), (.ref a)]))
      obtain ⟨T16, h16, k16, X16, e16, E16, A16, st16⟩ := newP X3 hx hZ (hw _ (List.mem_of_getElem? (i := 29) rfl)) e3 (g := (mkF m 56 #[.val (.ref a), .val (.long (-x)), .second, .val (.int ((((-x).toUInt64 >>> ((32 : Int32) &&& 0x3f).toInt64.toUInt64).toInt64).toInt32))] [(.int (2 : Int32)), (.ref a)])) rfl (hb hby d3_56) rfl (by decide) (cap := 2) (by decide) (by decide) (by decide) (by decide)
      obtain ⟨b16, g16⟩ : ∃ z, z = h3.size := ⟨_, rfl⟩
      have f17 := (E_a.wr W3)
      have ne_a_b16 : a ≠ b16 := by rw [g16]; exact Nat.ne_of_lt f17.lt
      rw [← g16] at A16 st16
      have g_b16 : n0 ≤ b16 := by rw [g16]; exact O3.1 ▸ O3.2.1
      have sz_b16 : h0.size ≤ b16 := by rw [g16]; exact K3.1
      have O16 := O3.ext E16
      have K16 := K3.ext E16
      refine own_by st16 ?_
      have V16 : Arv Z h16 b16 k16 .int (2 : Int32) [(.int (0 : Int32)), (.int (0 : Int32))] (.int (0 : Int32)) := (Arv.new A16 (by decide)).pad (pad_rep [] (.int (0 : Int32)) 2)
      show own_Go p e below s _ _ (T16.setTop (mkF m 58 #[.val (.ref a), .val (.long (-x)), .second, .val (.int ((((-x).toUInt64 >>> ((32 : Int32) &&& 0x3f).toInt64.toUInt64).toInt64).toInt32))] [(.ref b16), (.ref a)]))
      have f18 := ((F_m.other W3 (Or.inr (slot_ne (Or.inr (hw _ (List.mem_of_getElem? (i := 31) rfl))) (Or.inr (hw _ (List.mem_of_getElem? (i := 28) rfl))) (by decide) (t := (.array .int)) (t' := .int) (by decide) (by decide)))).ext E16)
      have f19 := (f17.ext E16)
      obtain ⟨T20, h20, X20, e20, W20, st20⟩ := putF X16 hx hZ hown (host := "") (Or.inl (hw _ (List.mem_of_getElem? (i := 30) rfl))) Via.refl e16 f18 f19 (Or.inr ⟨(hw _ (List.mem_of_getElem? (i := 31) rfl)), rfl, hnm⟩) (hw _ (List.mem_of_getElem? (i := 13) rfl)) (ty := (.array .int)) (by decide) rfl rfl (g := (mkF m 58 #[.val (.ref a), .val (.long (-x)), .second, .val (.int ((((-x).toUInt64 >>> ((32 : Int32) &&& 0x3f).toInt64.toUInt64).toInt64).toInt32))] [(.ref b16), (.ref a)])) rfl rfl (hb hby d3_58)
      have Fw20 := f18.same W20
      have O20 := O16.wr W20 g_a
      have N20 := Fr.snoc X20 N3 g_a
      have K20 := K16.wr W20 (Or.inl (List.mem_of_getElem? (i := 0) rfl))
      refine own_by st20 ?_
      show own_Go p e below s _ _ (T20.setTop (mkF m 61 #[.val (.ref a), .val (.long (-x)), .second, .val (.int ((((-x).toUInt64 >>> ((32 : Int32) &&& 0x3f).toInt64.toUInt64).toInt64).toInt32))] []))
      refine own_by (fun tz kz => XS.aloadN X20.here hx rfl (hb hby d3_61) rfl rfl kz) ?_
      show own_Go p e below s _ _ (T20.setTop (mkF m 62 #[.val (.ref a), .val (.long (-x)), .second, .val (.int ((((-x).toUInt64 >>> ((32 : Int32) &&& 0x3f).toInt64.toUInt64).toInt64).toInt32))] [(.ref a)]))
      obtain ⟨T21, X21, e21, st21⟩ := getF X20 hx hZ hown (host := "") (Or.inl (hw _ (List.mem_of_getElem? (i := 30) rfl))) Via.refl e20 Fw20 (g := (mkF m 62 #[.val (.ref a), .val (.long (-x)), .second, .val (.int ((((-x).toUInt64 >>> ((32 : Int32) &&& 0x3f).toInt64.toUInt64).toInt64).toInt32))] [(.ref a)])) rfl rfl (hb hby d3_62)
      refine own_by st21 ?_
      show own_Go p e below s _ _ (T21.setTop (mkF m 65 #[.val (.ref a), .val (.long (-x)), .second, .val (.int ((((-x).toUInt64 >>> ((32 : Int32) &&& 0x3f).toInt64.toUInt64).toInt64).toInt32))] [(.ref b16)]))
      refine own_by (fun tz kz => XS.iconst X21.here hx rfl (hb hby d3_65) kz) ?_
      show own_Go p e below s _ _ (T21.setTop (mkF m 66 #[.val (.ref a), .val (.long (-x)), .second, .val (.int ((((-x).toUInt64 >>> ((32 : Int32) &&& 0x3f).toInt64.toUInt64).toInt64).toInt32))] [(.int (0 : Int32)), (.ref b16)]))
      refine own_by (fun tz kz => XS.iloadN X21.here hx rfl (hb hby d3_66) rfl  kz) ?_
      show own_Go p e below s _ _ (T21.setTop (mkF m 67 #[.val (.ref a), .val (.long (-x)), .second, .val (.int ((((-x).toUInt64 >>> ((32 : Int32) &&& 0x3f).toInt64.toUInt64).toInt64).toInt32))] [(.int ((((-x).toUInt64 >>> ((32 : Int32) &&& 0x3f).toInt64.toUInt64).toInt64).toInt32)), (.int (0 : Int32)), (.ref b16)]))
      have f23 := (V16.other W20 (Ne.symm ne_a_b16))
      obtain ⟨c22, Ar22, q22, S22, M22, Hh22, G22⟩ := id f23
      have hin22 : ¬ ((0 : Int32) < 0 ∨ c22.slots.size ≤ ((0 : Int32)).toNatClampNeg) := inb_of S22 ⟨by decide, by decide⟩
      obtain ⟨T22, h22, X22, e22, W22, st22⟩ := stI X21 hx hZ e21 Ar22 (j := (0 : Int32)) hin22 (g := (mkF m 67 #[.val (.ref a), .val (.long (-x)), .second, .val (.int ((((-x).toUInt64 >>> ((32 : Int32) &&& 0x3f).toInt64.toUInt64).toInt64).toInt32))] [(.int ((((-x).toUInt64 >>> ((32 : Int32) &&& 0x3f).toInt64.toUInt64).toInt64).toInt32)), (.int (0 : Int32)), (.ref b16)])) rfl rfl (hb hby d3_67)
      have V22 : Arv Z h22 b16 k16 .int (2 : Int32) [(.int ((((-x).toUInt64 >>> ((32 : Int32) &&& 0x3f).toInt64.toUInt64).toInt64).toInt32)), (.int (0 : Int32))] (.int (0 : Int32)) := Arv.set Ar22 q22 S22 M22 Hh22 G22 rfl W22 0 (by decide) (Nat.le_of_ble_eq_true rfl)
      have O22 := O20.wr W22 g_b16
      have N22 := Fr.snoc X22 N20 g_b16
      have K22 := K20.wr W22 (Or.inr sz_b16)
      refine own_by st22 ?_
      show own_Go p e below s _ _ (T22.setTop (mkF m 68 #[.val (.ref a), .val (.long (-x)), .second, .val (.int ((((-x).toUInt64 >>> ((32 : Int32) &&& 0x3f).toInt64.toUInt64).toInt64).toInt32))] []))
      refine own_by (fun tz kz => XS.aloadN X22.here hx rfl (hb hby d3_68) rfl rfl kz) ?_
      show own_Go p e below s _ _ (T22.setTop (mkF m 69 #[.val (.ref a), .val (.long (-x)), .second, .val (.int ((((-x).toUInt64 >>> ((32 : Int32) &&& 0x3f).toInt64.toUInt64).toInt64).toInt32))] [(.ref a)]))
      have f24 := (Fw20.other W22 (Or.inl ne_a_b16))
      obtain ⟨T25, X25, e25, st25⟩ := getF X22 hx hZ hown (host := "") (Or.inl (hw _ (List.mem_of_getElem? (i := 30) rfl))) Via.refl e22 f24 (g := (mkF m 69 #[.val (.ref a), .val (.long (-x)), .second, .val (.int ((((-x).toUInt64 >>> ((32 : Int32) &&& 0x3f).toInt64.toUInt64).toInt64).toInt32))] [(.ref a)])) rfl rfl (hb hby d3_69)
      refine own_by st25 ?_
      show own_Go p e below s _ _ (T25.setTop (mkF m 72 #[.val (.ref a), .val (.long (-x)), .second, .val (.int ((((-x).toUInt64 >>> ((32 : Int32) &&& 0x3f).toInt64.toUInt64).toInt64).toInt32))] [(.ref b16)]))
      refine own_by (fun tz kz => XS.iconst X25.here hx rfl (hb hby d3_72) kz) ?_
      show own_Go p e below s _ _ (T25.setTop (mkF m 73 #[.val (.ref a), .val (.long (-x)), .second, .val (.int ((((-x).toUInt64 >>> ((32 : Int32) &&& 0x3f).toInt64.toUInt64).toInt64).toInt32))] [(.int (1 : Int32)), (.ref b16)]))
      refine own_by (fun tz kz => XS.lloadN X25.here hx rfl (hb hby d3_73) rfl kz) ?_
      show own_Go p e below s _ _ (T25.setTop (mkF m 74 #[.val (.ref a), .val (.long (-x)), .second, .val (.int ((((-x).toUInt64 >>> ((32 : Int32) &&& 0x3f).toInt64.toUInt64).toInt64).toInt32))] [(.long (-x)), (.int (1 : Int32)), (.ref b16)]))
      refine own_by (fun tz kz => XS.l2i X25.here hx rfl (hb hby d3_74) rfl kz) ?_
      show own_Go p e below s _ _ (T25.setTop (mkF m 75 #[.val (.ref a), .val (.long (-x)), .second, .val (.int ((((-x).toUInt64 >>> ((32 : Int32) &&& 0x3f).toInt64.toUInt64).toInt64).toInt32))] [(.int ((-x).toInt32)), (.int (1 : Int32)), (.ref b16)]))
      obtain ⟨c26, Ar26, q26, S26, M26, Hh26, G26⟩ := id V22
      have hin26 : ¬ ((1 : Int32) < 0 ∨ c26.slots.size ≤ ((1 : Int32)).toNatClampNeg) := inb_of S26 ⟨by decide, by decide⟩
      obtain ⟨T26, h26, X26, e26, W26, st26⟩ := stI X25 hx hZ e25 Ar26 (j := (1 : Int32)) hin26 (g := (mkF m 75 #[.val (.ref a), .val (.long (-x)), .second, .val (.int ((((-x).toUInt64 >>> ((32 : Int32) &&& 0x3f).toInt64.toUInt64).toInt64).toInt32))] [(.int ((-x).toInt32)), (.int (1 : Int32)), (.ref b16)])) rfl rfl (hb hby d3_75)
      have V26 : Arv Z h26 b16 k16 .int (2 : Int32) [(.int ((((-x).toUInt64 >>> ((32 : Int32) &&& 0x3f).toInt64.toUInt64).toInt64).toInt32)), (.int ((-x).toInt32))] (.int (0 : Int32)) := Arv.set Ar26 q26 S26 M26 Hh26 G26 rfl W26 1 (by decide) (Nat.le_of_ble_eq_true rfl)
      have O26 := O22.wr W26 g_b16
      have N26 := Fr.snoc X26 N22 g_b16
      have K26 := K22.wr W26 (Or.inr sz_b16)
      refine own_by st26 ?_
      show own_Go p e below s _ _ (T26.setTop (mkF m 76 #[.val (.ref a), .val (.long (-x)), .second, .val (.int ((((-x).toUInt64 >>> ((32 : Int32) &&& 0x3f).toInt64.toUInt64).toInt64).toInt32))] []))
      have f27 := (((f19.wr W20).wr W22).wr W26)
      have f28 := ((((Fw3.ext E16).other W20 (Or.inr (slot_ne (Or.inr (hw _ (List.mem_of_getElem? (i := 28) rfl))) (Or.inr (hw _ (List.mem_of_getElem? (i := 31) rfl))) (by decide) (t := .int) (t' := (.array .int)) (by decide) (by decide)))).other W22 (Or.inl ne_a_b16)).other W26 (Or.inl ne_a_b16))
      have f29 := (f24.other W26 (Or.inl ne_a_b16))
      have hs : own_sg x = (-1 : Int32) := if_neg (hbig.elim (fun g => absurd hc7_2 (own_big_pos g).2.2.2) (fun g => (own_big_neg g).2.2.2.1))
      refine own_retV X26 hx hlk hret (hb hby d3_76) ?_ (by decide) (by decide)
      exact ⟨rfl, N26, by rw [e26]; exact K26, by rw [hs, e26]; exact ⟨b16, _, _, _, f27, f28, f29, V26, Or.inr ⟨rfl, _, _, rfl, rfl⟩⟩⟩
  · refine own_by (fun tz kz => XS.ifYes X1.here hx rfl (pc0 := 7) (pc' := 21) rfl (hb hby d3_7) rfl ((if0 _ _).trans (flt (fun q => hc7_2 ((lw_lt x (0 : Int64)).mp q))).2.1) (by decide) (by decide) kz) ?_
    show own_Go p e below s _ _ (T1.setTop (mkF m 21 #[.val (.ref a), .val (.long x), .second, .unset] []))
    refine own_by (fun tz kz => XS.aloadN X1.here hx rfl (hb hby d3_21) rfl rfl kz) ?_
    show own_Go p e below s _ _ (T1.setTop (mkF m 22 #[.val (.ref a), .val (.long x), .second, .unset] [(.ref a)]))
    refine own_by (fun tz kz => XS.iconst X1.here hx rfl (hb hby d3_22) kz) ?_
    show own_Go p e below s _ _ (T1.setTop (mkF m 23 #[.val (.ref a), .val (.long x), .second, .unset] [(.int (1 : Int32)), (.ref a)]))
    obtain ⟨T30, h30, X30, e30, W30, st30⟩ := putF X1 hx hZ hown (host := "") (Or.inl (hw _ (List.mem_of_getElem? (i := 27) rfl))) Via.refl e1 F_s E_a (Or.inr ⟨(hw _ (List.mem_of_getElem? (i := 28) rfl)), rfl, hnm⟩) (hw _ (List.mem_of_getElem? (i := 13) rfl)) (ty := .int) (by decide) rfl rfl (g := (mkF m 23 #[.val (.ref a), .val (.long x), .second, .unset] [(.int (1 : Int32)), (.ref a)])) rfl rfl (hb hby d3_23)
    have Fw30 := F_s.same W30
    have O30 := O0.wr W30 g_a
    have N30 := Fr.snoc X30 N1 g_a
    have K30 := K0.wr W30 (Or.inl (List.mem_of_getElem? (i := 0) rfl))
    refine own_by st30 ?_
    show own_Go p e below s _ _ (T30.setTop (mkF m 26 #[.val (.ref a), .val (.long x), .second, .unset] []))
    refine own_by (fun tz kz => XS.lloadN X30.here hx rfl (hb hby d3_26) rfl kz) ?_
    show own_Go p e below s _ _ (T30.setTop (mkF m 27 #[.val (.ref a), .val (.long x), .second, .unset] [(.long x)]))
    refine own_by (fun tz kz => XS.bipush X30.here hx rfl (hb hby d3_27) kz) ?_
    show own_Go p e below s _ _ (T30.setTop (mkF m 29 #[.val (.ref a), .val (.long x), .second, .unset] [(.int (32 : Int32)), (.long x)]))
    refine own_by (fun tz kz => XS.lushr X30.here hx rfl (hb hby d3_29) rfl kz) ?_
    show own_Go p e below s _ _ (T30.setTop (mkF m 30 #[.val (.ref a), .val (.long x), .second, .unset] [(.long ((x.toUInt64 >>> ((32 : Int32) &&& 0x3f).toInt64.toUInt64).toInt64))]))
    refine own_by (fun tz kz => XS.l2i X30.here hx rfl (hb hby d3_30) rfl kz) ?_
    show own_Go p e below s _ _ (T30.setTop (mkF m 31 #[.val (.ref a), .val (.long x), .second, .unset] [(.int (((x.toUInt64 >>> ((32 : Int32) &&& 0x3f).toInt64.toUInt64).toInt64).toInt32))]))
    refine own_by (fun tz kz => XS.istoreN X30.here hx rfl (hb hby d3_31) rfl (l' := #[.val (.ref a), .val (.long x), .second, .val (.int (((x.toUInt64 >>> ((32 : Int32) &&& 0x3f).toInt64.toUInt64).toInt64).toInt32))]) rfl kz) ?_
    show own_Go p e below s _ _ (T30.setTop (mkF m 32 #[.val (.ref a), .val (.long x), .second, .val (.int (((x.toUInt64 >>> ((32 : Int32) &&& 0x3f).toInt64.toUInt64).toInt64).toInt32))] []))
    refine own_by (fun tz kz => XS.iloadN X30.here hx rfl (hb hby d3_32) rfl  kz) ?_
    show own_Go p e below s _ _ (T30.setTop (mkF m 33 #[.val (.ref a), .val (.long x), .second, .val (.int (((x.toUInt64 >>> ((32 : Int32) &&& 0x3f).toInt64.toUInt64).toInt64).toInt32))] [(.int (((x.toUInt64 >>> ((32 : Int32) &&& 0x3f).toInt64.toUInt64).toInt64).toInt32))]))
    by_cases hc33_31 : (((x.toUInt64 >>> ((32 : Int32) &&& 0x3f).toInt64.toUInt64).toInt64).toInt32) = (0 : Int32)
    · refine own_by (fun tz kz => XS.ifNo X30.here hx rfl (hb hby d3_33) rfl ((if0 _ _).trans (teq hc33_31).2) kz) ?_
      show own_Go p e below s _ _ (T30.setTop (mkF m 36 #[.val (.ref a), .val (.long x), .second, .val (.int (((x.toUInt64 >>> ((32 : Int32) &&& 0x3f).toInt64.toUInt64).toInt64).toInt32))] []))
      refine own_by (fun tz kz => XS.aloadN X30.here hx rfl (hb hby d3_36) rfl rfl kz) ?_
      show own_Go p e below s _ _ (T30.setTop (mkF m 37 #[.val (.ref a), .val (.long x), .second, .val (.int (((x.toUInt64 >>> ((32 : Int32) &&& 0x3f).toInt64.toUInt64).toInt64).toInt32))] [(.ref a)]))
      refine own_by (fun tz kz => XS.iconst X30.here hx rfl (hb hby d3_37) kz) ?_
      show own_Go p e below s _ _ (T30.setTop (mkF m 38 #[.val (.ref a), .val (.long x), .second, .val (.int (((x.toUInt64 >>> ((32 : Int32) &&& 0x3f).toInt64.toUInt64).toInt64).toInt32))] [(.int (1 : Int32)), (.ref a)]))
      obtain ⟨T32, h32, k32, X32, e32, E32, A32, st32⟩ := newP X30 hx hZ (hw _ (List.mem_of_getElem? (i := 29) rfl)) e30 (g := (mkF m 38 #[.val (.ref a), .val (.long x), .second, .val (.int (((x.toUInt64 >>> ((32 : Int32) &&& 0x3f).toInt64.toUInt64).toInt64).toInt32))] [(.int (1 : Int32)), (.ref a)])) rfl (hb hby d3_38) rfl (by decide) (cap := 1) (by decide) (by decide) (by decide) (by decide)
      obtain ⟨b32, g32⟩ : ∃ z, z = h30.size := ⟨_, rfl⟩
      have f33 := (E_a.wr W30)
      have ne_a_b32 : a ≠ b32 := by rw [g32]; exact Nat.ne_of_lt f33.lt
      rw [← g32] at A32 st32
      have g_b32 : n0 ≤ b32 := by rw [g32]; exact O30.1 ▸ O30.2.1
      have sz_b32 : h0.size ≤ b32 := by rw [g32]; exact K30.1
      have O32 := O30.ext E32
      have K32 := K30.ext E32
      refine own_by st32 ?_
      have V32 : Arv Z h32 b32 k32 .int (1 : Int32) [(.int (0 : Int32))] (.int (0 : Int32)) := (Arv.new A32 (by decide)).pad (pad_rep [] (.int (0 : Int32)) 1)
      show own_Go p e below s _ _ (T32.setTop (mkF m 40 #[.val (.ref a), .val (.long x), .second, .val (.int (((x.toUInt64 >>> ((32 : Int32) &&& 0x3f).toInt64.toUInt64).toInt64).toInt32))] [(.ref b32), (.ref a)]))
      have f34 := ((F_m.other W30 (Or.inr (slot_ne (Or.inr (hw _ (List.mem_of_getElem? (i := 31) rfl))) (Or.inr (hw _ (List.mem_of_getElem? (i := 28) rfl))) (by decide) (t := (.array .int)) (t' := .int) (by decide) (by decide)))).ext E32)
      have f35 := (f33.ext E32)
      obtain ⟨T36, h36, X36, e36, W36, st36⟩ := putF X32 hx hZ hown (host := "") (Or.inl (hw _ (List.mem_of_getElem? (i := 30) rfl))) Via.refl e32 f34 f35 (Or.inr ⟨(hw _ (List.mem_of_getElem? (i := 31) rfl)), rfl, hnm⟩) (hw _ (List.mem_of_getElem? (i := 13) rfl)) (ty := (.array .int)) (by decide) rfl rfl (g := (mkF m 40 #[.val (.ref a), .val (.long x), .second, .val (.int (((x.toUInt64 >>> ((32 : Int32) &&& 0x3f).toInt64.toUInt64).toInt64).toInt32))] [(.ref b32), (.ref a)])) rfl rfl (hb hby d3_40)
      have Fw36 := f34.same W36
      have O36 := O32.wr W36 g_a
      have N36 := Fr.snoc X36 N30 g_a
      have K36 := K32.wr W36 (Or.inl (List.mem_of_getElem? (i := 0) rfl))
      refine own_by st36 ?_
      show own_Go p e below s _ _ (T36.setTop (mkF m 43 #[.val (.ref a), .val (.long x), .second, .val (.int (((x.toUInt64 >>> ((32 : Int32) &&& 0x3f).toInt64.toUInt64).toInt64).toInt32))] []))
      refine own_by (fun tz kz => XS.aloadN X36.here hx rfl (hb hby d3_43) rfl rfl kz) ?_
      show own_Go p e below s _ _ (T36.setTop (mkF m 44 #[.val (.ref a), .val (.long x), .second, .val (.int (((x.toUInt64 >>> ((32 : Int32) &&& 0x3f).toInt64.toUInt64).toInt64).toInt32))] [(.ref a)]))
      obtain ⟨T37, X37, e37, st37⟩ := getF X36 hx hZ hown (host := "") (Or.inl (hw _ (List.mem_of_getElem? (i := 30) rfl))) Via.refl e36 Fw36 (g := (mkF m 44 #[.val (.ref a), .val (.long x), .second, .val (.int (((x.toUInt64 >>> ((32 : Int32) &&& 0x3f).toInt64.toUInt64).toInt64).toInt32))] [(.ref a)])) rfl rfl (hb hby d3_44)
      refine own_by st37 ?_
      show own_Go p e below s _ _ (T37.setTop (mkF m 47 #[.val (.ref a), .val (.long x), .second, .val (.int (((x.toUInt64 >>> ((32 : Int32) &&& 0x3f).toInt64.toUInt64).toInt64).toInt32))] [(.ref b32)]))
      refine own_by (fun tz kz => XS.iconst X37.here hx rfl (hb hby d3_47) kz) ?_
      show own_Go p e below s _ _ (T37.setTop (mkF m 48 #[.val (.ref a), .val (.long x), .second, .val (.int (((x.toUInt64 >>> ((32 : Int32) &&& 0x3f).toInt64.toUInt64).toInt64).toInt32))] [(.int (0 : Int32)), (.ref b32)]))
      refine own_by (fun tz kz => XS.lloadN X37.here hx rfl (hb hby d3_48) rfl kz) ?_
      show own_Go p e below s _ _ (T37.setTop (mkF m 49 #[.val (.ref a), .val (.long x), .second, .val (.int (((x.toUInt64 >>> ((32 : Int32) &&& 0x3f).toInt64.toUInt64).toInt64).toInt32))] [(.long x), (.int (0 : Int32)), (.ref b32)]))
      refine own_by (fun tz kz => XS.l2i X37.here hx rfl (hb hby d3_49) rfl kz) ?_
      show own_Go p e below s _ _ (T37.setTop (mkF m 50 #[.val (.ref a), .val (.long x), .second, .val (.int (((x.toUInt64 >>> ((32 : Int32) &&& 0x3f).toInt64.toUInt64).toInt64).toInt32))] [(.int (x.toInt32)), (.int (0 : Int32)), (.ref b32)]))
      have f39 := (V32.other W36 (Ne.symm ne_a_b32))
      obtain ⟨c38, Ar38, q38, S38, M38, Hh38, G38⟩ := id f39
      have hin38 : ¬ ((0 : Int32) < 0 ∨ c38.slots.size ≤ ((0 : Int32)).toNatClampNeg) := inb_of S38 ⟨by decide, by decide⟩
      obtain ⟨T38, h38, X38, e38, W38, st38⟩ := stI X37 hx hZ e37 Ar38 (j := (0 : Int32)) hin38 (g := (mkF m 50 #[.val (.ref a), .val (.long x), .second, .val (.int (((x.toUInt64 >>> ((32 : Int32) &&& 0x3f).toInt64.toUInt64).toInt64).toInt32))] [(.int (x.toInt32)), (.int (0 : Int32)), (.ref b32)])) rfl rfl (hb hby d3_50)
      have V38 : Arv Z h38 b32 k32 .int (1 : Int32) [(.int (x.toInt32))] (.int (0 : Int32)) := Arv.set Ar38 q38 S38 M38 Hh38 G38 rfl W38 0 (by decide) (Nat.le_of_ble_eq_true rfl)
      have O38 := O36.wr W38 g_b32
      have N38 := Fr.snoc X38 N36 g_b32
      have K38 := K36.wr W38 (Or.inr sz_b32)
      refine own_by st38 ?_
      show own_Go p e below s _ _ (T38.setTop (mkF m 51 #[.val (.ref a), .val (.long x), .second, .val (.int (((x.toUInt64 >>> ((32 : Int32) &&& 0x3f).toInt64.toUInt64).toInt64).toInt32))] []))
      refine own_by (fun tz kz => XS.goto X38.here hx rfl (pc0 := 51) (pc' := 76) rfl (hb hby d3_51) (by decide) (by decide) kz) ?_
      show own_Go p e below s _ _ (T38.setTop (mkF m 76 #[.val (.ref a), .val (.long x), .second, .val (.int (((x.toUInt64 >>> ((32 : Int32) &&& 0x3f).toInt64.toUInt64).toInt64).toInt32))] []))
      have f40 := ((f35.wr W36).wr W38)
      have f41 := (((Fw30.ext E32).other W36 (Or.inr (slot_ne (Or.inr (hw _ (List.mem_of_getElem? (i := 28) rfl))) (Or.inr (hw _ (List.mem_of_getElem? (i := 31) rfl))) (by decide) (t := .int) (t' := (.array .int)) (by decide) (by decide)))).other W38 (Or.inl ne_a_b32))
      have f42 := (Fw36.other W38 (Or.inl ne_a_b32))
      have hs : own_sg x = (1 : Int32) := if_pos (hbig.elim (fun g => (own_big_pos g).2.2.1) (fun g => absurd (own_big_neg g).2.2.2.2 hc7_2))
      refine own_retV X38 hx hlk hret (hb hby d3_76) ?_ (by decide) (by decide)
      exact ⟨rfl, N38, by rw [e38]; exact K38, by rw [hs, e38]; exact ⟨b32, _, _, _, f40, f41, f42, V38, Or.inl ⟨rfl, _, rfl, (if_neg (fun q => (hbig.elim (fun g => (own_big_pos g).1) (fun g => (own_big_neg g).1)) (own_low _ hc33_31 q))).symm⟩⟩⟩
    · refine own_by (fun tz kz => XS.ifYes X30.here hx rfl (pc0 := 33) (pc' := 54) rfl (hb hby d3_33) rfl ((if0 _ _).trans (feq hc33_31).2) (by decide) (by decide) kz) ?_
      show own_Go p e below s _ _ (T30.setTop (mkF m 54 #[.val (.ref a), .val (.long x), .second, .val (.int (((x.toUInt64 >>> ((32 : Int32) &&& 0x3f).toInt64.toUInt64).toInt64).toInt32))] []))
      refine own_by (fun tz kz => XS.aloadN X30.here hx rfl (hb hby d3_54) rfl rfl kz) ?_
      show own_Go p e below s _ _ (T30.setTop (mkF m 55 #[.val (.ref a), .val (.long x), .second, .val (.int (((x.toUInt64 >>> ((32 : Int32) &&& 0x3f).toInt64.toUInt64).toInt64).toInt32))] [(.ref a)]))
      refine own_by (fun tz kz => XS.iconst X30.here hx rfl (hb hby d3_55) kz) ?_
      show own_Go p e below s _ _ (T30.setTop (mkF m 56 #[.val (.ref a), .val (.long x), .second, .val (.int (((x.toUInt64 >>> ((32 : Int32) &&& 0x3f).toInt64.toUInt64).toInt64).toInt32))] [(.int (2 : Int32)), (.ref a)]))
      obtain ⟨T43, h43, k43, X43, e43, E43, A43, st43⟩ := newP X30 hx hZ (hw _ (List.mem_of_getElem? (i := 29) rfl)) e30 (g := (mkF m 56 #[.val (.ref a), .val (.long x), .second, .val (.int (((x.toUInt64 >>> ((32 : Int32) &&& 0x3f).toInt64.toUInt64).toInt64).toInt32))] [(.int (2 : Int32)), (.ref a)])) rfl (hb hby d3_56) rfl (by decide) (cap := 2) (by decide) (by decide) (by decide) (by decide)
      obtain ⟨b43, g43⟩ : ∃ z, z = h30.size := ⟨_, rfl⟩
      have f44 := (E_a.wr W30)
      have ne_a_b43 : a ≠ b43 := by rw [g43]; exact Nat.ne_of_lt f44.lt
      rw [← g43] at A43 st43
      have g_b43 : n0 ≤ b43 := by rw [g43]; exact O30.1 ▸ O30.2.1
      have sz_b43 : h0.size ≤ b43 := by rw [g43]; exact K30.1
      have O43 := O30.ext E43
      have K43 := K30.ext E43
      refine own_by st43 ?_
      have V43 : Arv Z h43 b43 k43 .int (2 : Int32) [(.int (0 : Int32)), (.int (0 : Int32))] (.int (0 : Int32)) := (Arv.new A43 (by decide)).pad (pad_rep [] (.int (0 : Int32)) 2)
      show own_Go p e below s _ _ (T43.setTop (mkF m 58 #[.val (.ref a), .val (.long x), .second, .val (.int (((x.toUInt64 >>> ((32 : Int32) &&& 0x3f).toInt64.toUInt64).toInt64).toInt32))] [(.ref b43), (.ref a)]))
      have f45 := ((F_m.other W30 (Or.inr (slot_ne (Or.inr (hw _ (List.mem_of_getElem? (i := 31) rfl))) (Or.inr (hw _ (List.mem_of_getElem? (i := 28) rfl))) (by decide) (t := (.array .int)) (t' := .int) (by decide) (by decide)))).ext E43)
      have f46 := (f44.ext E43)
      obtain ⟨T47, h47, X47, e47, W47, st47⟩ := putF X43 hx hZ hown (host := "") (Or.inl (hw _ (List.mem_of_getElem? (i := 30) rfl))) Via.refl e43 f45 f46 (Or.inr ⟨(hw _ (List.mem_of_getElem? (i := 31) rfl)), rfl, hnm⟩) (hw _ (List.mem_of_getElem? (i := 13) rfl)) (ty := (.array .int)) (by decide) rfl rfl (g := (mkF m 58 #[.val (.ref a), .val (.long x), .second, .val (.int (((x.toUInt64 >>> ((32 : Int32) &&& 0x3f).toInt64.toUInt64).toInt64).toInt32))] [(.ref b43), (.ref a)])) rfl rfl (hb hby d3_58)
      have Fw47 := f45.same W47
      have O47 := O43.wr W47 g_a
      have N47 := Fr.snoc X47 N30 g_a
      have K47 := K43.wr W47 (Or.inl (List.mem_of_getElem? (i := 0) rfl))
      refine own_by st47 ?_
      show own_Go p e below s _ _ (T47.setTop (mkF m 61 #[.val (.ref a), .val (.long x), .second, .val (.int (((x.toUInt64 >>> ((32 : Int32) &&& 0x3f).toInt64.toUInt64).toInt64).toInt32))] []))
      refine own_by (fun tz kz => XS.aloadN X47.here hx rfl (hb hby d3_61) rfl rfl kz) ?_
      show own_Go p e below s _ _ (T47.setTop (mkF m 62 #[.val (.ref a), .val (.long x), .second, .val (.int (((x.toUInt64 >>> ((32 : Int32) &&& 0x3f).toInt64.toUInt64).toInt64).toInt32))] [(.ref a)]))
      obtain ⟨T48, X48, e48, st48⟩ := getF X47 hx hZ hown (host := "") (Or.inl (hw _ (List.mem_of_getElem? (i := 30) rfl))) Via.refl e47 Fw47 (g := (mkF m 62 #[.val (.ref a), .val (.long x), .second, .val (.int (((x.toUInt64 >>> ((32 : Int32) &&& 0x3f).toInt64.toUInt64).toInt64).toInt32))] [(.ref a)])) rfl rfl (hb hby d3_62)
      refine own_by st48 ?_
      show own_Go p e below s _ _ (T48.setTop (mkF m 65 #[.val (.ref a), .val (.long x), .second, .val (.int (((x.toUInt64 >>> ((32 : Int32) &&& 0x3f).toInt64.toUInt64).toInt64).toInt32))] [(.ref b43)]))
      refine own_by (fun tz kz => XS.iconst X48.here hx rfl (hb hby d3_65) kz) ?_
      show own_Go p e below s _ _ (T48.setTop (mkF m 66 #[.val (.ref a), .val (.long x), .second, .val (.int (((x.toUInt64 >>> ((32 : Int32) &&& 0x3f).toInt64.toUInt64).toInt64).toInt32))] [(.int (0 : Int32)), (.ref b43)]))
      refine own_by (fun tz kz => XS.iloadN X48.here hx rfl (hb hby d3_66) rfl  kz) ?_
      show own_Go p e below s _ _ (T48.setTop (mkF m 67 #[.val (.ref a), .val (.long x), .second, .val (.int (((x.toUInt64 >>> ((32 : Int32) &&& 0x3f).toInt64.toUInt64).toInt64).toInt32))] [(.int (((x.toUInt64 >>> ((32 : Int32) &&& 0x3f).toInt64.toUInt64).toInt64).toInt32)), (.int (0 : Int32)), (.ref b43)]))
      have f50 := (V43.other W47 (Ne.symm ne_a_b43))
      obtain ⟨c49, Ar49, q49, S49, M49, Hh49, G49⟩ := id f50
      have hin49 : ¬ ((0 : Int32) < 0 ∨ c49.slots.size ≤ ((0 : Int32)).toNatClampNeg) := inb_of S49 ⟨by decide, by decide⟩
      obtain ⟨T49, h49, X49, e49, W49, st49⟩ := stI X48 hx hZ e48 Ar49 (j := (0 : Int32)) hin49 (g := (mkF m 67 #[.val (.ref a), .val (.long x), .second, .val (.int (((x.toUInt64 >>> ((32 : Int32) &&& 0x3f).toInt64.toUInt64).toInt64).toInt32))] [(.int (((x.toUInt64 >>> ((32 : Int32) &&& 0x3f).toInt64.toUInt64).toInt64).toInt32)), (.int (0 : Int32)), (.ref b43)])) rfl rfl (hb hby d3_67)
      have V49 : Arv Z h49 b43 k43 .int (2 : Int32) [(.int (((x.toUInt64 >>> ((32 : Int32) &&& 0x3f).toInt64.toUInt64).toInt64).toInt32)), (.int (0 : Int32))] (.int (0 : Int32)) := Arv.set Ar49 q49 S49 M49 Hh49 G49 rfl W49 0 (by decide) (Nat.le_of_ble_eq_true rfl)
      have O49 := O47.wr W49 g_b43
      have N49 := Fr.snoc X49 N47 g_b43
      have K49 := K47.wr W49 (Or.inr sz_b43)
      refine own_by st49 ?_
      show own_Go p e below s _ _ (T49.setTop (mkF m 68 #[.val (.ref a), .val (.long x), .second, .val (.int (((x.toUInt64 >>> ((32 : Int32) &&& 0x3f).toInt64.toUInt64).toInt64).toInt32))] []))
      refine own_by (fun tz kz => XS.aloadN X49.here hx rfl (hb hby d3_68) rfl rfl kz) ?_
      show own_Go p e below s _ _ (T49.setTop (mkF m 69 #[.val (.ref a), .val (.long x), .second, .val (.int (((x.toUInt64 >>> ((32 : Int32) &&& 0x3f).toInt64.toUInt64).toInt64).toInt32))] [(.ref a)]))
      have f51 := (Fw47.other W49 (Or.inl ne_a_b43))
      obtain ⟨T52, X52, e52, st52⟩ := getF X49 hx hZ hown (host := "") (Or.inl (hw _ (List.mem_of_getElem? (i := 30) rfl))) Via.refl e49 f51 (g := (mkF m 69 #[.val (.ref a), .val (.long x), .second, .val (.int (((x.toUInt64 >>> ((32 : Int32) &&& 0x3f).toInt64.toUInt64).toInt64).toInt32))] [(.ref a)])) rfl rfl (hb hby d3_69)
      refine own_by st52 ?_
      show own_Go p e below s _ _ (T52.setTop (mkF m 72 #[.val (.ref a), .val (.long x), .second, .val (.int (((x.toUInt64 >>> ((32 : Int32) &&& 0x3f).toInt64.toUInt64).toInt64).toInt32))] [(.ref b43)]))
      refine own_by (fun tz kz => XS.iconst X52.here hx rfl (hb hby d3_72) kz) ?_
      show own_Go p e below s _ _ (T52.setTop (mkF m 73 #[.val (.ref a), .val (.long x), .second, .val (.int (((x.toUInt64 >>> ((32 : Int32) &&& 0x3f).toInt64.toUInt64).toInt64).toInt32))] [(.int (1 : Int32)), (.ref b43)]))
      refine own_by (fun tz kz => XS.lloadN X52.here hx rfl (hb hby d3_73) rfl kz) ?_
      show own_Go p e below s _ _ (T52.setTop (mkF m 74 #[.val (.ref a), .val (.long x), .second, .val (.int (((x.toUInt64 >>> ((32 : Int32) &&& 0x3f).toInt64.toUInt64).toInt64).toInt32))] [(.long x), (.int (1 : Int32)), (.ref b43)]))
      refine own_by (fun tz kz => XS.l2i X52.here hx rfl (hb hby d3_74) rfl kz) ?_
      show own_Go p e below s _ _ (T52.setTop (mkF m 75 #[.val (.ref a), .val (.long x), .second, .val (.int (((x.toUInt64 >>> ((32 : Int32) &&& 0x3f).toInt64.toUInt64).toInt64).toInt32))] [(.int (x.toInt32)), (.int (1 : Int32)), (.ref b43)]))
      obtain ⟨c53, Ar53, q53, S53, M53, Hh53, G53⟩ := id V49
      have hin53 : ¬ ((1 : Int32) < 0 ∨ c53.slots.size ≤ ((1 : Int32)).toNatClampNeg) := inb_of S53 ⟨by decide, by decide⟩
      obtain ⟨T53, h53, X53, e53, W53, st53⟩ := stI X52 hx hZ e52 Ar53 (j := (1 : Int32)) hin53 (g := (mkF m 75 #[.val (.ref a), .val (.long x), .second, .val (.int (((x.toUInt64 >>> ((32 : Int32) &&& 0x3f).toInt64.toUInt64).toInt64).toInt32))] [(.int (x.toInt32)), (.int (1 : Int32)), (.ref b43)])) rfl rfl (hb hby d3_75)
      have V53 : Arv Z h53 b43 k43 .int (2 : Int32) [(.int (((x.toUInt64 >>> ((32 : Int32) &&& 0x3f).toInt64.toUInt64).toInt64).toInt32)), (.int (x.toInt32))] (.int (0 : Int32)) := Arv.set Ar53 q53 S53 M53 Hh53 G53 rfl W53 1 (by decide) (Nat.le_of_ble_eq_true rfl)
      have O53 := O49.wr W53 g_b43
      have N53 := Fr.snoc X53 N49 g_b43
      have K53 := K49.wr W53 (Or.inr sz_b43)
      refine own_by st53 ?_
      show own_Go p e below s _ _ (T53.setTop (mkF m 76 #[.val (.ref a), .val (.long x), .second, .val (.int (((x.toUInt64 >>> ((32 : Int32) &&& 0x3f).toInt64.toUInt64).toInt64).toInt32))] []))
      have f54 := (((f46.wr W47).wr W49).wr W53)
      have f55 := ((((Fw30.ext E43).other W47 (Or.inr (slot_ne (Or.inr (hw _ (List.mem_of_getElem? (i := 28) rfl))) (Or.inr (hw _ (List.mem_of_getElem? (i := 31) rfl))) (by decide) (t := .int) (t' := (.array .int)) (by decide) (by decide)))).other W49 (Or.inl ne_a_b43)).other W53 (Or.inl ne_a_b43))
      have f56 := (f51.other W53 (Or.inl ne_a_b43))
      have hs : own_sg x = (1 : Int32) := if_pos (hbig.elim (fun g => (own_big_pos g).2.2.1) (fun g => absurd (own_big_neg g).2.2.2.2 hc7_2))
      refine own_retV X53 hx hlk hret (hb hby d3_76) ?_ (by decide) (by decide)
      exact ⟨rfl, N53, by rw [e53]; exact K53, by rw [hs, e53]; exact ⟨b43, _, _, _, f54, f55, f56, V53, Or.inr ⟨rfl, _, _, rfl, rfl⟩⟩⟩
def Q_rm_Binit2 (Z : State) (a mg : Addr) (k : ClassId) (n sg u : Int32) (vs : List Value) (h0 : Heap) (n0 : Nat) (v : Option Value) (h : Heap) (L : List Loc) : Prop := v = none ∧ Fr n0 L ∧ Keep h0 h [a] ∧ own_Big Z h a sg u
set_option maxRecDepth 65536 in
set_option maxHeartbeats 40000000 in
theorem rm_Binit2 (l : Launch) (Z : State) (a0 : Array Value) (hw : ∀ d ∈ tables_1, d.before a0 Z = true) (ws : List Jvm.Cond) (a mg : Addr) (k : ClassId) (n sg u : Int32) (vs : List Value) (h0 : Heap) (n0 : Nat) (O0 : Old Z n0 h0) (E_a : Exa Z h0 a "java/math/BigInteger") (F_s : Fld Z h0 a "java/math/BigInteger" "signum" "I" (.int (0 : Int32))) (F_m : Fld Z h0 a "java/math/BigInteger" "mag" "[I" .null) (g_a : n0 ≤ a) (V_m : Arv Z h0 mg k .int n vs (.int (0 : Int32))) (M : own_Mag n vs u) (hma : mg ≠ a) :
    MetFree l (⟨"java/math/BigInteger", "<init>", "([II)V"⟩ : MethodName) (head1 (Jvm.Cond.code (⟨"java/math/BigInteger", "<init>", "([II)V"⟩ : MethodName) jdk_2097_method_25_code 3 none :: ws) ({ frames := 2, cells := 0, slots := 0, locals := 26 } : Room)) (fun ar U => ar = #[(.ref a), (.ref mg), (.int sg)] ∧ Z.Warmed39 U.vm ∧ U.heap = h0) (fun _ _ _ _ _ => True) (fun _ U o U' => ∃ v L, o = .returned v ∧ Q_rm_Binit2 Z a mg k n sg u vs h0 n0 v U'.heap L ∧ FrameEnd U o U' L ({ frames := 2, cells := 0, slots := 0, locals := 26 } : Room).cells ({ frames := 2, cells := 0, slots := 0, locals := 26 } : Room).slots) := by
  refine own_enter (Q := (Q_rm_Binit2 Z a mg k n sg u vs h0 n0)) pl_12 ?_
  intro p e s m below meth c s₁ X0 hx hZ hby hml hown hnm hret hlk e0
  have N0 := Fr.nil n0
  refine own_by (fun tz kz => castTop (g' := (mkF m 0 #[.val (.ref a), .val (.ref mg), .val (.int sg)] [])) (by first | (simp [entryFrame, mkF, argsToLocals, Value.category]; done) | rfl) kz) ?_
  have K0 := Keep.refl h0 [a]
  rcases M with ⟨rfl, m0, rfl, hu⟩ | ⟨rfl, m0, m1, rfl, hu⟩
  · show own_Go p e below s _ _ (s₁.setTop (mkF m 0 #[.val (.ref a), .val (.ref mg), .val (.int sg)] []))
    refine own_by (fun tz kz => XS.aloadN X0.here hx rfl (hb hby d12_0) rfl rfl kz) ?_
    show own_Go p e below s _ _ (s₁.setTop (mkF m 1 #[.val (.ref a), .val (.ref mg), .val (.int sg)] [(.ref a)]))
    obtain ⟨_, _, ⟨T1, L1, k1, n1⟩, -, X1, ⟨Lc1, hQ1, l1, y1, z1⟩, st1⟩ := X0.specialBack hx (y := (⟨"java/lang/Number", "<init>", "()V"⟩ : MethodName)) rfl hown (mvT hZ (hw _ (List.mem_of_getElem? (i := 18) rfl))) (mvT hZ (hw _ (List.mem_of_getElem? (i := 19) rfl))) (mvT hZ (hw _ (List.mem_of_getElem? (i := 23) rfl))) (by decide) (backOf (W := 0) (rm_Number l Z a0 hw [] a h0 n0) hZ (hw _ (List.mem_of_getElem? (i := 23) rfl)) (hw _ (List.mem_of_getElem? (i := 22) rfl)) (by decide) (by decide)) (g := (mkF m 1 #[.val (.ref a), .val (.ref mg), .val (.int sg)] [(.ref a)])) rfl (by rw [hml]; rfl) (Steps.refl _) (a := a) (argsL := []) (rest := []) (lenOf pd_3 rfl) rfl (by show 2 * 0 + _ ≤ _; exact Nat.le_of_eq rfl) (hb hby d12_1) (fun _ _ => ⟨rfl, e0, (by decide : 0 + 0 ≤ _), (by decide : 0 + 0 ≤ _)⟩)
    dsimp only [Pt.U, Pt.locs, Pt.cells, Pt.slots] at X1 l1 y1 z1 st1 hQ1
    rw [l1, y1, z1] at X1
    obtain ⟨rfl, Nq1, e1⟩ := hQ1
    have N1 := Fr.app N0 Nq1
    refine own_via st1 ?_
    show own_Go p e below s _ _ (T1.setTop (mkF m 4 #[.val (.ref a), .val (.ref mg), .val (.int sg)] []))
    refine own_by (fun tz kz => XS.aloadN X1.here hx rfl (hb hby d12_4) rfl rfl kz) ?_
    show own_Go p e below s _ _ (T1.setTop (mkF m 5 #[.val (.ref a), .val (.ref mg), .val (.int sg)] [(.ref a)]))
    refine own_by (fun tz kz => XS.aloadN X1.here hx rfl (hb hby d12_5) rfl rfl kz) ?_
    show own_Go p e below s _ _ (T1.setTop (mkF m 6 #[.val (.ref a), .val (.ref mg), .val (.int sg)] [(.ref mg), (.ref a)]))
    obtain ⟨c2, Ar2, q2, S2, M2, Hh2, G2⟩ := id V_m
    refine own_by (fun tz kz => X1.arraylength hx (by rw [e1]; exact Ar2.1) (State.isArrayOf_alike hZ.alike Ar2.2.1) (g := (mkF m 6 #[.val (.ref a), .val (.ref mg), .val (.int sg)] [(.ref mg), (.ref a)])) rfl rfl (hb hby d12_6) _ kz) ?_
    rw [len_of S2 M2]
    show own_Go p e below s _ _ (T1.setTop (mkF m 7 #[.val (.ref a), .val (.ref mg), .val (.int sg)] [(.int (1 : Int32)), (.ref a)]))
    refine own_by (fun tz kz => XS.ifYes X1.here hx rfl (pc0 := 7) (pc' := 14) rfl (hb hby d12_7) rfl ((if0 _ _).trans (feq (by decide : ¬ (1 : Int32) = (0 : Int32))).2) (by decide) (by decide) kz) ?_
    show own_Go p e below s _ _ (T1.setTop (mkF m 14 #[.val (.ref a), .val (.ref mg), .val (.int sg)] [(.ref a)]))
    refine own_by (fun tz kz => XS.iloadN X1.here hx rfl (hb hby d12_14) rfl  kz) ?_
    show own_Go p e below s _ _ (T1.setTop (mkF m 15 #[.val (.ref a), .val (.ref mg), .val (.int sg)] [(.int sg), (.ref a)]))
    obtain ⟨T3, h3, X3, e3, W3, st3⟩ := putF X1 hx hZ hown (host := "") (Or.inl (hw _ (List.mem_of_getElem? (i := 27) rfl))) Via.refl e1 F_s E_a (Or.inr ⟨(hw _ (List.mem_of_getElem? (i := 28) rfl)), rfl, hnm⟩) (hw _ (List.mem_of_getElem? (i := 13) rfl)) (ty := .int) (by decide) rfl rfl (g := (mkF m 15 #[.val (.ref a), .val (.ref mg), .val (.int sg)] [(.int sg), (.ref a)])) rfl rfl (hb hby d12_15)
    have Fw3 := F_s.same W3
    have O3 := O0.wr W3 g_a
    have N3 := Fr.snoc X3 N1 g_a
    have K3 := K0.wr W3 (Or.inl (List.mem_of_getElem? (i := 0) rfl))
    refine own_by st3 ?_
    show own_Go p e below s _ _ (T3.setTop (mkF m 18 #[.val (.ref a), .val (.ref mg), .val (.int sg)] []))
    refine own_by (fun tz kz => XS.aloadN X3.here hx rfl (hb hby d12_18) rfl rfl kz) ?_
    show own_Go p e below s _ _ (T3.setTop (mkF m 19 #[.val (.ref a), .val (.ref mg), .val (.int sg)] [(.ref a)]))
    refine own_by (fun tz kz => XS.aloadN X3.here hx rfl (hb hby d12_19) rfl rfl kz) ?_
    show own_Go p e below s _ _ (T3.setTop (mkF m 20 #[.val (.ref a), .val (.ref mg), .val (.int sg)] [(.ref mg), (.ref a)]))
    have f4 := (F_m.other W3 (Or.inr (slot_ne (Or.inr (hw _ (List.mem_of_getElem? (i := 31) rfl))) (Or.inr (hw _ (List.mem_of_getElem? (i := 28) rfl))) (by decide) (t := (.array .int)) (t' := .int) (by decide) (by decide))))
    have f5 := (E_a.wr W3)
    obtain ⟨T6, h6, X6, e6, W6, st6⟩ := putF X3 hx hZ hown (host := "") (Or.inl (hw _ (List.mem_of_getElem? (i := 30) rfl))) Via.refl e3 f4 f5 (Or.inr ⟨(hw _ (List.mem_of_getElem? (i := 31) rfl)), rfl, hnm⟩) (hw _ (List.mem_of_getElem? (i := 13) rfl)) (ty := (.array .int)) (by decide) rfl rfl (g := (mkF m 20 #[.val (.ref a), .val (.ref mg), .val (.int sg)] [(.ref mg), (.ref a)])) rfl rfl (hb hby d12_20)
    have Fw6 := f4.same W6
    have O6 := O3.wr W6 g_a
    have N6 := Fr.snoc X6 N3 g_a
    have K6 := K3.wr W6 (Or.inl (List.mem_of_getElem? (i := 0) rfl))
    refine own_by st6 ?_
    show own_Go p e below s _ _ (T6.setTop (mkF m 23 #[.val (.ref a), .val (.ref mg), .val (.int sg)] []))
    refine own_by (fun tz kz => XS.aloadN X6.here hx rfl (hb hby d12_23) rfl rfl kz) ?_
    show own_Go p e below s _ _ (T6.setTop (mkF m 24 #[.val (.ref a), .val (.ref mg), .val (.int sg)] [(.ref a)]))
    obtain ⟨T7, X7, e7, st7⟩ := getF X6 hx hZ hown (host := "") (Or.inl (hw _ (List.mem_of_getElem? (i := 30) rfl))) Via.refl e6 Fw6 (g := (mkF m 24 #[.val (.ref a), .val (.ref mg), .val (.int sg)] [(.ref a)])) rfl rfl (hb hby d12_24)
    refine own_by st7 ?_
    show own_Go p e below s _ _ (T7.setTop (mkF m 27 #[.val (.ref a), .val (.ref mg), .val (.int sg)] [(.ref mg)]))
    have f9 := ((V_m.other W3 hma).other W6 hma)
    obtain ⟨c8, Ar8, q8, S8, M8, Hh8, G8⟩ := id f9
    refine own_by (fun tz kz => X7.arraylength hx (by rw [e7]; exact Ar8.1) (State.isArrayOf_alike hZ.alike Ar8.2.1) (g := (mkF m 27 #[.val (.ref a), .val (.ref mg), .val (.int sg)] [(.ref mg)])) rfl rfl (hb hby d12_27) _ kz) ?_
    rw [len_of S8 M8]
    show own_Go p e below s _ _ (T7.setTop (mkF m 28 #[.val (.ref a), .val (.ref mg), .val (.int sg)] [(.int (1 : Int32))]))
    refine own_by (fun tz kz => X7.ldcInt hx hown (mvT hZ (hw _ (List.mem_of_getElem? (i := 74) rfl))) (g := (mkF m 28 #[.val (.ref a), .val (.ref mg), .val (.int sg)] [(.int (1 : Int32))])) rfl (hb hby d12_28) _ kz) ?_
    show own_Go p e below s _ _ (T7.setTop (mkF m 30 #[.val (.ref a), .val (.ref mg), .val (.int sg)] [(.int (67108864 : Int32)), (.int (1 : Int32))]))
    refine own_by (fun tz kz => XS.icmpYes X7.here hx rfl (pc0 := 30) (pc' := 37) rfl (hb hby d12_30) rfl (tlt (by decide : (1 : Int32) < (67108864 : Int32))).1 (by decide) (by decide) kz) ?_
    show own_Go p e below s _ _ (T7.setTop (mkF m 37 #[.val (.ref a), .val (.ref mg), .val (.int sg)] []))
    have f10 := (f5.wr W6)
    have f11 := (Fw3.other W6 (Or.inr (slot_ne (Or.inr (hw _ (List.mem_of_getElem? (i := 28) rfl))) (Or.inr (hw _ (List.mem_of_getElem? (i := 31) rfl))) (by decide) (t := .int) (t' := (.array .int)) (by decide) (by decide))))
    refine own_retV X7 hx hlk hret (hb hby d12_37) ?_ (by decide) (by decide)
    exact ⟨rfl, N6, by rw [e7]; exact K6, by rw [e7]; exact ⟨mg, _, _, _, f10, f11, Fw6, f9, Or.inl ⟨rfl, _, rfl, hu⟩⟩⟩
  · show own_Go p e below s _ _ (s₁.setTop (mkF m 0 #[.val (.ref a), .val (.ref mg), .val (.int sg)] []))
    refine own_by (fun tz kz => XS.aloadN X0.here hx rfl (hb hby d12_0) rfl rfl kz) ?_
    show own_Go p e below s _ _ (s₁.setTop (mkF m 1 #[.val (.ref a), .val (.ref mg), .val (.int sg)] [(.ref a)]))
    obtain ⟨_, _, ⟨T12, L12, k12, n12⟩, -, X12, ⟨Lc12, hQ12, l12, y12, z12⟩, st12⟩ := X0.specialBack hx (y := (⟨"java/lang/Number", "<init>", "()V"⟩ : MethodName)) rfl hown (mvT hZ (hw _ (List.mem_of_getElem? (i := 18) rfl))) (mvT hZ (hw _ (List.mem_of_getElem? (i := 19) rfl))) (mvT hZ (hw _ (List.mem_of_getElem? (i := 23) rfl))) (by decide) (backOf (W := 0) (rm_Number l Z a0 hw [] a h0 n0) hZ (hw _ (List.mem_of_getElem? (i := 23) rfl)) (hw _ (List.mem_of_getElem? (i := 22) rfl)) (by decide) (by decide)) (g := (mkF m 1 #[.val (.ref a), .val (.ref mg), .val (.int sg)] [(.ref a)])) rfl (by rw [hml]; rfl) (Steps.refl _) (a := a) (argsL := []) (rest := []) (lenOf pd_3 rfl) rfl (by show 2 * 0 + _ ≤ _; exact Nat.le_of_eq rfl) (hb hby d12_1) (fun _ _ => ⟨rfl, e0, (by decide : 0 + 0 ≤ _), (by decide : 0 + 0 ≤ _)⟩)
    dsimp only [Pt.U, Pt.locs, Pt.cells, Pt.slots] at X12 l12 y12 z12 st12 hQ12
    rw [l12, y12, z12] at X12
    obtain ⟨rfl, Nq12, e12⟩ := hQ12
    have N12 := Fr.app N0 Nq12
    refine own_via st12 ?_
    show own_Go p e below s _ _ (T12.setTop (mkF m 4 #[.val (.ref a), .val (.ref mg), .val (.int sg)] []))
    refine own_by (fun tz kz => XS.aloadN X12.here hx rfl (hb hby d12_4) rfl rfl kz) ?_
    show own_Go p e below s _ _ (T12.setTop (mkF m 5 #[.val (.ref a), .val (.ref mg), .val (.int sg)] [(.ref a)]))
    refine own_by (fun tz kz => XS.aloadN X12.here hx rfl (hb hby d12_5) rfl rfl kz) ?_
    show own_Go p e below s _ _ (T12.setTop (mkF m 6 #[.val (.ref a), .val (.ref mg), .val (.int sg)] [(.ref mg), (.ref a)]))
    obtain ⟨c13, Ar13, q13, S13, M13, Hh13, G13⟩ := id V_m
    refine own_by (fun tz kz => X12.arraylength hx (by rw [e12]; exact Ar13.1) (State.isArrayOf_alike hZ.alike Ar13.2.1) (g := (mkF m 6 #[.val (.ref a), .val (.ref mg), .val (.int sg)] [(.ref mg), (.ref a)])) rfl rfl (hb hby d12_6) _ kz) ?_
    rw [len_of S13 M13]
    show own_Go p e below s _ _ (T12.setTop (mkF m 7 #[.val (.ref a), .val (.ref mg), .val (.int sg)] [(.int (2 : Int32)), (.ref a)]))
    refine own_by (fun tz kz => XS.ifYes X12.here hx rfl (pc0 := 7) (pc' := 14) rfl (hb hby d12_7) rfl ((if0 _ _).trans (feq (by decide : ¬ (2 : Int32) = (0 : Int32))).2) (by decide) (by decide) kz) ?_
    show own_Go p e below s _ _ (T12.setTop (mkF m 14 #[.val (.ref a), .val (.ref mg), .val (.int sg)] [(.ref a)]))
    refine own_by (fun tz kz => XS.iloadN X12.here hx rfl (hb hby d12_14) rfl  kz) ?_
    show own_Go p e below s _ _ (T12.setTop (mkF m 15 #[.val (.ref a), .val (.ref mg), .val (.int sg)] [(.int sg), (.ref a)]))
    obtain ⟨T14, h14, X14, e14, W14, st14⟩ := putF X12 hx hZ hown (host := "") (Or.inl (hw _ (List.mem_of_getElem? (i := 27) rfl))) Via.refl e12 F_s E_a (Or.inr ⟨(hw _ (List.mem_of_getElem? (i := 28) rfl)), rfl, hnm⟩) (hw _ (List.mem_of_getElem? (i := 13) rfl)) (ty := .int) (by decide) rfl rfl (g := (mkF m 15 #[.val (.ref a), .val (.ref mg), .val (.int sg)] [(.int sg), (.ref a)])) rfl rfl (hb hby d12_15)
    have Fw14 := F_s.same W14
    have O14 := O0.wr W14 g_a
    have N14 := Fr.snoc X14 N12 g_a
    have K14 := K0.wr W14 (Or.inl (List.mem_of_getElem? (i := 0) rfl))
    refine own_by st14 ?_
    show own_Go p e below s _ _ (T14.setTop (mkF m 18 #[.val (.ref a), .val (.ref mg), .val (.int sg)] []))
    refine own_by (fun tz kz => XS.aloadN X14.here hx rfl (hb hby d12_18) rfl rfl kz) ?_
    show own_Go p e below s _ _ (T14.setTop (mkF m 19 #[.val (.ref a), .val (.ref mg), .val (.int sg)] [(.ref a)]))
    refine own_by (fun tz kz => XS.aloadN X14.here hx rfl (hb hby d12_19) rfl rfl kz) ?_
    show own_Go p e below s _ _ (T14.setTop (mkF m 20 #[.val (.ref a), .val (.ref mg), .val (.int sg)] [(.ref mg), (.ref a)]))
    have f15 := (F_m.other W14 (Or.inr (slot_ne (Or.inr (hw _ (List.mem_of_getElem? (i := 31) rfl))) (Or.inr (hw _ (List.mem_of_getElem? (i := 28) rfl))) (by decide) (t := (.array .int)) (t' := .int) (by decide) (by decide))))
    have f16 := (E_a.wr W14)
    obtain ⟨T17, h17, X17, e17, W17, st17⟩ := putF X14 hx hZ hown (host := "") (Or.inl (hw _ (List.mem_of_getElem? (i := 30) rfl))) Via.refl e14 f15 f16 (Or.inr ⟨(hw _ (List.mem_of_getElem? (i := 31) rfl)), rfl, hnm⟩) (hw _ (List.mem_of_getElem? (i := 13) rfl)) (ty := (.array .int)) (by decide) rfl rfl (g := (mkF m 20 #[.val (.ref a), .val (.ref mg), .val (.int sg)] [(.ref mg), (.ref a)])) rfl rfl (hb hby d12_20)
    have Fw17 := f15.same W17
    have O17 := O14.wr W17 g_a
    have N17 := Fr.snoc X17 N14 g_a
    have K17 := K14.wr W17 (Or.inl (List.mem_of_getElem? (i := 0) rfl))
    refine own_by st17 ?_
    show own_Go p e below s _ _ (T17.setTop (mkF m 23 #[.val (.ref a), .val (.ref mg), .val (.int sg)] []))
    refine own_by (fun tz kz => XS.aloadN X17.here hx rfl (hb hby d12_23) rfl rfl kz) ?_
    show own_Go p e below s _ _ (T17.setTop (mkF m 24 #[.val (.ref a), .val (.ref mg), .val (.int sg)] [(.ref a)]))
    obtain ⟨T18, X18, e18, st18⟩ := getF X17 hx hZ hown (host := "") (Or.inl (hw _ (List.mem_of_getElem? (i := 30) rfl))) Via.refl e17 Fw17 (g := (mkF m 24 #[.val (.ref a), .val (.ref mg), .val (.int sg)] [(.ref a)])) rfl rfl (hb hby d12_24)
    refine own_by st18 ?_
    show own_Go p e below s _ _ (T18.setTop (mkF m 27 #[.val (.ref a), .val (.ref mg), .val (.int sg)] [(.ref mg)]))
    have f20 := ((V_m.other W14 hma).other W17 hma)
    obtain ⟨c19, Ar19, q19, S19, M19, Hh19, G19⟩ := id f20
    refine own_by (fun tz kz => X18.arraylength hx (by rw [e18]; exact Ar19.1) (State.isArrayOf_alike hZ.alike Ar19.2.1) (g := (mkF m 27 #[.val (.ref a), .val (.ref mg), .val (.int sg)] [(.ref mg)])) rfl rfl (hb hby d12_27) _ kz) ?_
    rw [len_of S19 M19]
    show own_Go p e below s _ _ (T18.setTop (mkF m 28 #[.val (.ref a), .val (.ref mg), .val (.int sg)] [(.int (2 : Int32))]))
    refine own_by (fun tz kz => X18.ldcInt hx hown (mvT hZ (hw _ (List.mem_of_getElem? (i := 74) rfl))) (g := (mkF m 28 #[.val (.ref a), .val (.ref mg), .val (.int sg)] [(.int (2 : Int32))])) rfl (hb hby d12_28) _ kz) ?_
    show own_Go p e below s _ _ (T18.setTop (mkF m 30 #[.val (.ref a), .val (.ref mg), .val (.int sg)] [(.int (67108864 : Int32)), (.int (2 : Int32))]))
    refine own_by (fun tz kz => XS.icmpYes X18.here hx rfl (pc0 := 30) (pc' := 37) rfl (hb hby d12_30) rfl (tlt (by decide : (2 : Int32) < (67108864 : Int32))).1 (by decide) (by decide) kz) ?_
    show own_Go p e below s _ _ (T18.setTop (mkF m 37 #[.val (.ref a), .val (.ref mg), .val (.int sg)] []))
    have f21 := (f16.wr W17)
    have f22 := (Fw14.other W17 (Or.inr (slot_ne (Or.inr (hw _ (List.mem_of_getElem? (i := 28) rfl))) (Or.inr (hw _ (List.mem_of_getElem? (i := 31) rfl))) (by decide) (t := .int) (t' := (.array .int)) (by decide) (by decide))))
    refine own_retV X18 hx hlk hret (hb hby d12_37) ?_ (by decide) (by decide)
    exact ⟨rfl, N17, by rw [e18]; exact K17, by rw [e18]; exact ⟨mg, _, _, _, f21, f22, Fw17, f20, Or.inr ⟨rfl, _, _, rfl, hu⟩⟩⟩
def Q_rm_valueOf (Z : State) (x : Int64) (pa na : Addr) (pc nc : Cell) (h0 : Heap) (n0 : Nat) (v : Option Value) (h : Heap) (L : List Loc) : Prop := ∃ b, v = some (.ref b) ∧ Fr n0 L ∧ Keep h0 h [] ∧ own_Big Z h b (own_sg x) (own_un x)
set_option maxRecDepth 65536 in
set_option maxHeartbeats 40000000 in
theorem rm_valueOf (l : Launch) (Z : State) (a0 : Array Value) (hw : ∀ d ∈ tables_1, d.before a0 Z = true) (ws : List Jvm.Cond) (x : Int64) (pa na : Addr) (pc nc : Cell) (h0 : Heap) (n0 : Nat) (O0 : Old Z n0 h0) (S_pos : Sta Z Z.heap "java/math/BigInteger" "posConst" "[Ljava/math/BigInteger;" (.ref pa)) (S_neg : Sta Z Z.heap "java/math/BigInteger" "negConst" "[Ljava/math/BigInteger;" (.ref na)) (T_pos : own_Tab Z pa pc (1 : Int32)) (T_neg : own_Tab Z na nc (-1 : Int32)) (hx0 : ¬ x = (0 : Int64)) :
    MetFree l (⟨"java/math/BigInteger", "valueOf", "(J)Ljava/math/BigInteger;"⟩ : MethodName) (head1 (Jvm.Cond.code (⟨"java/math/BigInteger", "valueOf", "(J)Ljava/math/BigInteger;"⟩ : MethodName) jdk_2097_method_29_code 2 (some (.object "java/math/BigInteger")) :: ws) ({ frames := 3, cells := 2, slots := 8, locals := 44 } : Room)) (fun ar U => ar = #[(.long x)] ∧ Z.Warmed39 U.vm ∧ U.heap = h0) (fun _ _ _ _ _ => True) (fun _ U o U' => ∃ v L, o = .returned v ∧ Q_rm_valueOf Z x pa na pc nc h0 n0 v U'.heap L ∧ FrameEnd U o U' L ({ frames := 3, cells := 2, slots := 8, locals := 44 } : Room).cells ({ frames := 3, cells := 2, slots := 8, locals := 44 } : Room).slots) := by
  refine own_enter (Q := (Q_rm_valueOf Z x pa na pc nc h0 n0)) pl_2 ?_
  intro p e s m below meth c s₁ X0 hx hZ hby hml hown hnm hret hlk e0
  have N0 := Fr.nil n0
  refine own_by (fun tz kz => castTop (g' := (mkF m 0 #[.val (.long x), .second] [])) (by first | (simp [entryFrame, mkF, argsToLocals, Value.category]; done) | rfl) kz) ?_
  have K0 := Keep.refl h0 []
  show own_Go p e below s _ _ (s₁.setTop (mkF m 0 #[.val (.long x), .second] []))
  refine own_by (fun tz kz => XS.lloadN X0.here hx rfl (hb hby d2_0) rfl kz) ?_
  show own_Go p e below s _ _ (s₁.setTop (mkF m 1 #[.val (.long x), .second] [(.long x)]))
  refine own_by (fun tz kz => XS.lconst X0.here hx rfl (hb hby d2_1) kz) ?_
  show own_Go p e below s _ _ (s₁.setTop (mkF m 2 #[.val (.long x), .second] [(.long (0 : Int64)), (.long x)]))
  refine own_by (fun tz kz => XS.lcmp X0.here hx rfl (hb hby d2_2) rfl kz) ?_
  show own_Go p e below s _ _ (s₁.setTop (mkF m 3 #[.val (.long x), .second] [(.int (lcmpW x (0 : Int64)))]))
  refine own_by (fun tz kz => XS.ifYes X0.here hx rfl (pc0 := 3) (pc' := 10) rfl (hb hby d2_3) rfl ((if0 _ _).trans (feq (fun q => hx0 ((lw_eq x (0 : Int64)).mp q))).2) (by decide) (by decide) kz) ?_
  show own_Go p e below s _ _ (s₁.setTop (mkF m 10 #[.val (.long x), .second] []))
  refine own_by (fun tz kz => XS.lloadN X0.here hx rfl (hb hby d2_10) rfl kz) ?_
  show own_Go p e below s _ _ (s₁.setTop (mkF m 11 #[.val (.long x), .second] [(.long x)]))
  refine own_by (fun tz kz => XS.lconst X0.here hx rfl (hb hby d2_11) kz) ?_
  show own_Go p e below s _ _ (s₁.setTop (mkF m 12 #[.val (.long x), .second] [(.long (0 : Int64)), (.long x)]))
  refine own_by (fun tz kz => XS.lcmp X0.here hx rfl (hb hby d2_12) rfl kz) ?_
  show own_Go p e below s _ _ (s₁.setTop (mkF m 13 #[.val (.long x), .second] [(.int (lcmpW x (0 : Int64)))]))
  by_cases hc13_1 : (0 : Int64) < x
  · refine own_by (fun tz kz => XS.ifNo X0.here hx rfl (hb hby d2_13) rfl ((if0 _ _).trans (tlt ((lw_gt x (0 : Int64)).mpr hc13_1)).2.2.2) kz) ?_
    show own_Go p e below s _ _ (s₁.setTop (mkF m 16 #[.val (.long x), .second] []))
    refine own_by (fun tz kz => XS.lloadN X0.here hx rfl (hb hby d2_16) rfl kz) ?_
    show own_Go p e below s _ _ (s₁.setTop (mkF m 17 #[.val (.long x), .second] [(.long x)]))
    refine own_by (fun tz kz => X0.ldc2Long hx hown (mvT hZ (hw _ (List.mem_of_getElem? (i := 9) rfl))) (g := (mkF m 17 #[.val (.long x), .second] [(.long x)])) rfl (hb hby d2_17) _ kz) ?_
    show own_Go p e below s _ _ (s₁.setTop (mkF m 20 #[.val (.long x), .second] [(.long (16 : Int64)), (.long x)]))
    refine own_by (fun tz kz => XS.lcmp X0.here hx rfl (hb hby d2_20) rfl kz) ?_
    show own_Go p e below s _ _ (s₁.setTop (mkF m 21 #[.val (.long x), .second] [(.int (lcmpW x (16 : Int64)))]))
    by_cases hc21_2 : (16 : Int64) < x
    · refine own_by (fun tz kz => XS.ifYes X0.here hx rfl (pc0 := 21) (pc' := 31) rfl (hb hby d2_21) rfl ((if0 _ _).trans (tlt ((lw_gt x (16 : Int64)).mpr hc21_2)).2.2.1) (by decide) (by decide) kz) ?_
      show own_Go p e below s _ _ (s₁.setTop (mkF m 31 #[.val (.long x), .second] []))
      refine own_by (fun tz kz => XS.lloadN X0.here hx rfl (hb hby d2_31) rfl kz) ?_
      show own_Go p e below s _ _ (s₁.setTop (mkF m 32 #[.val (.long x), .second] [(.long x)]))
      refine own_by (fun tz kz => XS.lconst X0.here hx rfl (hb hby d2_32) kz) ?_
      show own_Go p e below s _ _ (s₁.setTop (mkF m 33 #[.val (.long x), .second] [(.long (0 : Int64)), (.long x)]))
      refine own_by (fun tz kz => XS.lcmp X0.here hx rfl (hb hby d2_33) rfl kz) ?_
      show own_Go p e below s _ _ (s₁.setTop (mkF m 34 #[.val (.long x), .second] [(.int (lcmpW x (0 : Int64)))]))
      refine own_by (fun tz kz => XS.ifYes X0.here hx rfl (pc0 := 34) (pc' := 53) rfl (hb hby d2_34) rfl ((if0 _ _).trans (flt (fun q => (own_big_pos hc21_2).2.2.2 ((lw_lt x (0 : Int64)).mp q))).2.1) (by decide) (by decide) kz) ?_
      show own_Go p e below s _ _ (s₁.setTop (mkF m 53 #[.val (.long x), .second] []))
      obtain ⟨T3, h3, X3, e3, E3, A3, D3, -, st3⟩ := newO X0 hx hZ hown (hw _ (List.mem_of_getElem? (i := 12) rfl)) (hw _ (List.mem_of_getElem? (i := 13) rfl)) (hw _ (List.mem_of_getElem? (i := 7) rfl)) e0 (g := (mkF m 53 #[.val (.long x), .second] [])) rfl (hb hby d2_53) (by decide) (by decide)
      obtain ⟨b3, g3⟩ : ∃ z, z = h0.size := ⟨_, rfl⟩
      rw [← g3] at A3 D3 st3
      have g_b3 : n0 ≤ b3 := by rw [g3]; exact O0.1 ▸ O0.2.1
      have sz_b3 : h0.size ≤ b3 := by rw [g3]; exact K0.1
      have O3 := O0.ext E3
      have K3 := K0.ext E3
      refine own_by st3 ?_
      have F3_signum : Fld Z h3 b3 "java/math/BigInteger" "signum" "I" (.int (0 : Int32)) := D3 (Or.inr (hw _ (List.mem_of_getElem? (i := 28) rfl))) (ty := .int) (by decide)
      have F3_mag : Fld Z h3 b3 "java/math/BigInteger" "mag" "[I" .null := D3 (Or.inr (hw _ (List.mem_of_getElem? (i := 31) rfl))) (ty := (.array .int)) (by decide)
      show own_Go p e below s _ _ (T3.setTop (mkF m 56 #[.val (.long x), .second] [(.ref b3)]))
      refine own_by (fun tz kz => XS.dup X3.here hx rfl (hb hby d2_56) rfl rfl kz) ?_
      show own_Go p e below s _ _ (T3.setTop (mkF m 57 #[.val (.long x), .second] [(.ref b3), (.ref b3)]))
      refine own_by (fun tz kz => XS.lloadN X3.here hx rfl (hb hby d2_57) rfl kz) ?_
      show own_Go p e below s _ _ (T3.setTop (mkF m 58 #[.val (.long x), .second] [(.long x), (.ref b3), (.ref b3)]))
      obtain ⟨_, _, ⟨T4, L4, k4, n4⟩, -, X4, ⟨Lc4, hQ4, l4, y4, z4⟩, st4⟩ := X3.specialBack hx (y := (⟨"java/math/BigInteger", "<init>", "(J)V"⟩ : MethodName)) rfl hown (mvT hZ (hw _ (List.mem_of_getElem? (i := 14) rfl))) (mvT hZ (hw _ (List.mem_of_getElem? (i := 15) rfl))) (mvT hZ (hw _ (List.mem_of_getElem? (i := 17) rfl))) (by decide) (backOf (W := 1) (rm_Binit l Z a0 hw [] b3 x h3 n0 O3 A3 F3_signum F3_mag g_b3 (Or.inl hc21_2)) hZ (hw _ (List.mem_of_getElem? (i := 17) rfl)) (hw _ (List.mem_of_getElem? (i := 7) rfl)) (by decide) (by decide)) (g := (mkF m 58 #[.val (.long x), .second] [(.long x), (.ref b3), (.ref b3)])) rfl (by rw [hml]; rfl) (Steps.refl _) (a := b3) (argsL := [(.long x)]) (rest := [(.ref b3)]) (lenOf pd_2 rfl) rfl (by show 2 * 0 + _ ≤ _; exact Nat.le_of_eq rfl) (hb hby d2_58) (fun _ _ => ⟨rfl, e3, (by decide : 1 + 1 ≤ _), (by decide : 6 + 2 ≤ _)⟩)
      dsimp only [Pt.U, Pt.locs, Pt.cells, Pt.slots] at X4 l4 y4 z4 st4 hQ4
      rw [l4, y4, z4] at X4
      obtain ⟨rfl, Nq4, Kq4, Bq4⟩ := hQ4
      have N4 := Fr.app N0 Nq4
      have e4 : T4.heap = T4.heap := rfl
      refine own_via st4 ?_
      have O4 := O3.keep Kq4 (allS g_b3 all0)
      have K4 := K3.trans Kq4 (allS (Or.inr sz_b3) all0)
      show own_Go p e below s _ _ (T4.setTop (mkF m 61 #[.val (.long x), .second] [(.ref b3)]))
      have hun : own_un x = (0 : Int32) := if_neg (fun q => ((Or.inl hc21_2) : (16 : Int64) < x ∨ x < (-16 : Int64)).elim (fun g => q.elim (own_big_pos g).1 (own_big_pos g).2.1) (fun g => q.elim (own_big_neg g).1 (own_big_neg g).2.2.1))
      refine own_retA X4 hx hlk (t := (.object "java/math/BigInteger")) hret rfl rfl (hb hby d2_61) ?_ (by decide) (by decide)
      exact ⟨b3, rfl, N4, by rw [e4]; exact K4, by rw [e4, hun]; exact Bq4⟩
    · refine own_by (fun tz kz => XS.ifNo X0.here hx rfl (hb hby d2_21) rfl ((if0 _ _).trans (flt (fun q => hc21_2 ((lw_gt x (16 : Int64)).mp q))).2.2.1) kz) ?_
      show own_Go p e below s _ _ (s₁.setTop (mkF m 24 #[.val (.long x), .second] []))
      obtain ⟨T5, X5, e5, st5⟩ := getS2 X0 hx hZ hown (host := "") (Or.inl (hw _ (List.mem_of_getElem? (i := 10) rfl))) Via.refl e0 (S_pos.ext O0.2) (g := (mkF m 24 #[.val (.long x), .second] [])) rfl (hb hby d2_24)
      refine own_by st5 ?_
      show own_Go p e below s _ _ (T5.setTop (mkF m 27 #[.val (.long x), .second] [(.ref pa)]))
      refine own_by (fun tz kz => XS.lloadN X5.here hx rfl (hb hby d2_27) rfl kz) ?_
      show own_Go p e below s _ _ (T5.setTop (mkF m 28 #[.val (.long x), .second] [(.long x), (.ref pa)]))
      refine own_by (fun tz kz => XS.l2i X5.here hx rfl (hb hby d2_28) rfl kz) ?_
      show own_Go p e below s _ _ (T5.setTop (mkF m 29 #[.val (.long x), .second] [(.int (x.toInt32)), (.ref pa)]))
      have sm := (own_small_pos hc13_1 hc21_2)
      have hin := inb_of (j := (x.toInt32)) T_pos.2.1 (own_inb17 sm.1 sm.2.1)
      obtain ⟨bx, hbx, hB⟩ := T_pos.2.2 _ sm.1 sm.2.1
      refine own_by (fun tz kz => X5.aaload hx (j := (x.toInt32)) (v := (.ref bx)) (by rw [e5]; exact (T_pos.1.ext O0.2).1) (State.isArrayOf_alike hZ.alike T_pos.1.2.1) rfl T_pos.1.2.2 hin hbx (g := (mkF m 29 #[.val (.long x), .second] [(.int (x.toInt32)), (.ref pa)])) rfl rfl (hb hby d2_29) _ kz) ?_
      show own_Go p e below s _ _ (T5.setTop (mkF m 30 #[.val (.long x), .second] [(.ref bx)]))
      have hun : own_un x = if x.toInt32 = (1 : Int32) then (1 : Int32) else (0 : Int32) := (own_ifc (sm.2.2.1.trans ⟨Or.inl, fun q => q.elim id (fun q => absurd q sm.2.2.2)⟩) _ _).symm
      have hsg : own_sg x = (1 : Int32) := if_pos hc13_1
      refine own_retA X5 hx hlk (t := (.object "java/math/BigInteger")) hret rfl rfl (hb hby d2_30) ?_ (by decide) (by decide)
      exact ⟨bx, rfl, N0, by rw [e5]; exact K0, by rw [e5, hun, hsg]; exact own_Big.ext hB O0.2⟩
  · refine own_by (fun tz kz => XS.ifYes X0.here hx rfl (pc0 := 13) (pc' := 31) rfl (hb hby d2_13) rfl ((if0 _ _).trans (flt (fun q => hc13_1 ((lw_gt x (0 : Int64)).mp q))).2.2.2) (by decide) (by decide) kz) ?_
    show own_Go p e below s _ _ (s₁.setTop (mkF m 31 #[.val (.long x), .second] []))
    refine own_by (fun tz kz => XS.lloadN X0.here hx rfl (hb hby d2_31) rfl kz) ?_
    show own_Go p e below s _ _ (s₁.setTop (mkF m 32 #[.val (.long x), .second] [(.long x)]))
    refine own_by (fun tz kz => XS.lconst X0.here hx rfl (hb hby d2_32) kz) ?_
    show own_Go p e below s _ _ (s₁.setTop (mkF m 33 #[.val (.long x), .second] [(.long (0 : Int64)), (.long x)]))
    refine own_by (fun tz kz => XS.lcmp X0.here hx rfl (hb hby d2_33) rfl kz) ?_
    show own_Go p e below s _ _ (s₁.setTop (mkF m 34 #[.val (.long x), .second] [(.int (lcmpW x (0 : Int64)))]))
    refine own_by (fun tz kz => XS.ifNo X0.here hx rfl (hb hby d2_34) rfl ((if0 _ _).trans (tlt ((lw_lt x (0 : Int64)).mpr (own_neg hx0 hc13_1))).2.1) kz) ?_
    show own_Go p e below s _ _ (s₁.setTop (mkF m 37 #[.val (.long x), .second] []))
    refine own_by (fun tz kz => XS.lloadN X0.here hx rfl (hb hby d2_37) rfl kz) ?_
    show own_Go p e below s _ _ (s₁.setTop (mkF m 38 #[.val (.long x), .second] [(.long x)]))
    refine own_by (fun tz kz => X0.ldc2Long hx hown (mvT hZ (hw _ (List.mem_of_getElem? (i := 11) rfl))) (g := (mkF m 38 #[.val (.long x), .second] [(.long x)])) rfl (hb hby d2_38) _ kz) ?_
    show own_Go p e below s _ _ (s₁.setTop (mkF m 41 #[.val (.long x), .second] [(.long (-16 : Int64)), (.long x)]))
    refine own_by (fun tz kz => XS.lcmp X0.here hx rfl (hb hby d2_41) rfl kz) ?_
    show own_Go p e below s _ _ (s₁.setTop (mkF m 42 #[.val (.long x), .second] [(.int (lcmpW x (-16 : Int64)))]))
    by_cases hc42_6 : x < (-16 : Int64)
    · refine own_by (fun tz kz => XS.ifYes X0.here hx rfl (pc0 := 42) (pc' := 53) rfl (hb hby d2_42) rfl ((if0 _ _).trans (tlt ((lw_lt x (-16 : Int64)).mpr hc42_6)).1) (by decide) (by decide) kz) ?_
      show own_Go p e below s _ _ (s₁.setTop (mkF m 53 #[.val (.long x), .second] []))
      obtain ⟨T7, h7, X7, e7, E7, A7, D7, -, st7⟩ := newO X0 hx hZ hown (hw _ (List.mem_of_getElem? (i := 12) rfl)) (hw _ (List.mem_of_getElem? (i := 13) rfl)) (hw _ (List.mem_of_getElem? (i := 7) rfl)) e0 (g := (mkF m 53 #[.val (.long x), .second] [])) rfl (hb hby d2_53) (by decide) (by decide)
      obtain ⟨b7, g7⟩ : ∃ z, z = h0.size := ⟨_, rfl⟩
      rw [← g7] at A7 D7 st7
      have g_b7 : n0 ≤ b7 := by rw [g7]; exact O0.1 ▸ O0.2.1
      have sz_b7 : h0.size ≤ b7 := by rw [g7]; exact K0.1
      have O7 := O0.ext E7
      have K7 := K0.ext E7
      refine own_by st7 ?_
      have F7_signum : Fld Z h7 b7 "java/math/BigInteger" "signum" "I" (.int (0 : Int32)) := D7 (Or.inr (hw _ (List.mem_of_getElem? (i := 28) rfl))) (ty := .int) (by decide)
      have F7_mag : Fld Z h7 b7 "java/math/BigInteger" "mag" "[I" .null := D7 (Or.inr (hw _ (List.mem_of_getElem? (i := 31) rfl))) (ty := (.array .int)) (by decide)
      show own_Go p e below s _ _ (T7.setTop (mkF m 56 #[.val (.long x), .second] [(.ref b7)]))
      refine own_by (fun tz kz => XS.dup X7.here hx rfl (hb hby d2_56) rfl rfl kz) ?_
      show own_Go p e below s _ _ (T7.setTop (mkF m 57 #[.val (.long x), .second] [(.ref b7), (.ref b7)]))
      refine own_by (fun tz kz => XS.lloadN X7.here hx rfl (hb hby d2_57) rfl kz) ?_
      show own_Go p e below s _ _ (T7.setTop (mkF m 58 #[.val (.long x), .second] [(.long x), (.ref b7), (.ref b7)]))
      obtain ⟨_, _, ⟨T8, L8, k8, n8⟩, -, X8, ⟨Lc8, hQ8, l8, y8, z8⟩, st8⟩ := X7.specialBack hx (y := (⟨"java/math/BigInteger", "<init>", "(J)V"⟩ : MethodName)) rfl hown (mvT hZ (hw _ (List.mem_of_getElem? (i := 14) rfl))) (mvT hZ (hw _ (List.mem_of_getElem? (i := 15) rfl))) (mvT hZ (hw _ (List.mem_of_getElem? (i := 17) rfl))) (by decide) (backOf (W := 1) (rm_Binit l Z a0 hw [] b7 x h7 n0 O7 A7 F7_signum F7_mag g_b7 (Or.inr hc42_6)) hZ (hw _ (List.mem_of_getElem? (i := 17) rfl)) (hw _ (List.mem_of_getElem? (i := 7) rfl)) (by decide) (by decide)) (g := (mkF m 58 #[.val (.long x), .second] [(.long x), (.ref b7), (.ref b7)])) rfl (by rw [hml]; rfl) (Steps.refl _) (a := b7) (argsL := [(.long x)]) (rest := [(.ref b7)]) (lenOf pd_2 rfl) rfl (by show 2 * 0 + _ ≤ _; exact Nat.le_of_eq rfl) (hb hby d2_58) (fun _ _ => ⟨rfl, e7, (by decide : 1 + 1 ≤ _), (by decide : 6 + 2 ≤ _)⟩)
      dsimp only [Pt.U, Pt.locs, Pt.cells, Pt.slots] at X8 l8 y8 z8 st8 hQ8
      rw [l8, y8, z8] at X8
      obtain ⟨rfl, Nq8, Kq8, Bq8⟩ := hQ8
      have N8 := Fr.app N0 Nq8
      have e8 : T8.heap = T8.heap := rfl
      refine own_via st8 ?_
      have O8 := O7.keep Kq8 (allS g_b7 all0)
      have K8 := K7.trans Kq8 (allS (Or.inr sz_b7) all0)
      show own_Go p e below s _ _ (T8.setTop (mkF m 61 #[.val (.long x), .second] [(.ref b7)]))
      have hun : own_un x = (0 : Int32) := if_neg (fun q => ((Or.inr hc42_6) : (16 : Int64) < x ∨ x < (-16 : Int64)).elim (fun g => q.elim (own_big_pos g).1 (own_big_pos g).2.1) (fun g => q.elim (own_big_neg g).1 (own_big_neg g).2.2.1))
      refine own_retA X8 hx hlk (t := (.object "java/math/BigInteger")) hret rfl rfl (hb hby d2_61) ?_ (by decide) (by decide)
      exact ⟨b7, rfl, N8, by rw [e8]; exact K8, by rw [e8, hun]; exact Bq8⟩
    · refine own_by (fun tz kz => XS.ifNo X0.here hx rfl (hb hby d2_42) rfl ((if0 _ _).trans (flt (fun q => hc42_6 ((lw_lt x (-16 : Int64)).mp q))).1) kz) ?_
      show own_Go p e below s _ _ (s₁.setTop (mkF m 45 #[.val (.long x), .second] []))
      obtain ⟨T9, X9, e9, st9⟩ := getS2 X0 hx hZ hown (host := "") (Or.inl (hw _ (List.mem_of_getElem? (i := 85) rfl))) Via.refl e0 (S_neg.ext O0.2) (g := (mkF m 45 #[.val (.long x), .second] [])) rfl (hb hby d2_45)
      refine own_by st9 ?_
      show own_Go p e below s _ _ (T9.setTop (mkF m 48 #[.val (.long x), .second] [(.ref na)]))
      refine own_by (fun tz kz => XS.lloadN X9.here hx rfl (hb hby d2_48) rfl kz) ?_
      show own_Go p e below s _ _ (T9.setTop (mkF m 49 #[.val (.long x), .second] [(.long x), (.ref na)]))
      refine own_by (fun tz kz => XS.lneg X9.here hx rfl (hb hby d2_49) rfl kz) ?_
      show own_Go p e below s _ _ (T9.setTop (mkF m 50 #[.val (.long x), .second] [(.long (-x)), (.ref na)]))
      refine own_by (fun tz kz => XS.l2i X9.here hx rfl (hb hby d2_50) rfl kz) ?_
      show own_Go p e below s _ _ (T9.setTop (mkF m 51 #[.val (.long x), .second] [(.int ((-x).toInt32)), (.ref na)]))
      have sm := (own_small_neg (own_neg hx0 hc13_1) hc42_6)
      have hin := inb_of (j := ((-x).toInt32)) T_neg.2.1 (own_inb17 sm.1 sm.2.1)
      obtain ⟨bx, hbx, hB⟩ := T_neg.2.2 _ sm.1 sm.2.1
      refine own_by (fun tz kz => X9.aaload hx (j := ((-x).toInt32)) (v := (.ref bx)) (by rw [e9]; exact (T_neg.1.ext O0.2).1) (State.isArrayOf_alike hZ.alike T_neg.1.2.1) rfl T_neg.1.2.2 hin hbx (g := (mkF m 51 #[.val (.long x), .second] [(.int ((-x).toInt32)), (.ref na)])) rfl rfl (hb hby d2_51) _ kz) ?_
      show own_Go p e below s _ _ (T9.setTop (mkF m 52 #[.val (.long x), .second] [(.ref bx)]))
      have hun : own_un x = if (-x).toInt32 = (1 : Int32) then (1 : Int32) else (0 : Int32) := (own_ifc (sm.2.2.1.trans ⟨Or.inr, fun q => q.elim (fun q => absurd q sm.2.2.2.1) id⟩) _ _).symm
      have hsg : own_sg x = (-1 : Int32) := if_neg hc13_1
      refine own_retA X9 hx hlk (t := (.object "java/math/BigInteger")) hret rfl rfl (hb hby d2_52) ?_ (by decide) (by decide)
      exact ⟨bx, rfl, N0, by rw [e9]; exact K0, by rw [e9, hun, hsg]; exact own_Big.ext hB O0.2⟩
def Q_rm_signum (Z : State) (a : Addr) (r : Int32) (h0 : Heap) (n0 : Nat) (v : Option Value) (h : Heap) (L : List Loc) : Prop := v = some (.int r) ∧ Fr n0 L ∧ h = h0
set_option maxRecDepth 65536 in
set_option maxHeartbeats 40000000 in
theorem rm_signum (l : Launch) (Z : State) (a0 : Array Value) (hw : ∀ d ∈ tables_1, d.before a0 Z = true) (ws : List Jvm.Cond) (a : Addr) (r : Int32) (h0 : Heap) (n0 : Nat) (F : Fld Z h0 a "java/math/BigInteger" "signum" "I" (.int r)) :
    MetFree l (⟨"java/math/BigInteger", "signum", "()I"⟩ : MethodName) (head1 (Jvm.Cond.code (⟨"java/math/BigInteger", "signum", "()I"⟩ : MethodName) jdk_2097_method_81_code 1 (some .int) :: ws) ({ frames := 0, cells := 0, slots := 0, locals := 0 } : Room)) (fun ar U => ar = #[(.ref a)] ∧ Z.Warmed39 U.vm ∧ U.heap = h0) (fun _ _ _ _ _ => True) (fun _ U o U' => ∃ v L, o = .returned v ∧ Q_rm_signum Z a r h0 n0 v U'.heap L ∧ FrameEnd U o U' L ({ frames := 0, cells := 0, slots := 0, locals := 0 } : Room).cells ({ frames := 0, cells := 0, slots := 0, locals := 0 } : Room).slots) := by
  refine own_enter (Q := (Q_rm_signum Z a r h0 n0)) pl_10 ?_
  intro p e s m below meth c s₁ X0 hx hZ hby hml hown hnm hret hlk e0
  have N0 := Fr.nil n0
  refine own_by (fun tz kz => castTop (g' := (mkF m 0 #[.val (.ref a)] [])) (by first | (simp [entryFrame, mkF, argsToLocals, Value.category]; done) | rfl) kz) ?_
  show own_Go p e below s _ _ (s₁.setTop (mkF m 0 #[.val (.ref a)] []))
  refine own_by (fun tz kz => XS.aloadN X0.here hx rfl (hb hby d10_0) rfl rfl kz) ?_
  show own_Go p e below s _ _ (s₁.setTop (mkF m 1 #[.val (.ref a)] [(.ref a)]))
  obtain ⟨T1, X1, e1, st1⟩ := getF X0 hx hZ hown (host := "") (Or.inl (hw _ (List.mem_of_getElem? (i := 27) rfl))) Via.refl e0 F (g := (mkF m 1 #[.val (.ref a)] [(.ref a)])) rfl rfl (hb hby d10_1)
  refine own_by st1 ?_
  show own_Go p e below s _ _ (T1.setTop (mkF m 4 #[.val (.ref a)] [(.int r)]))
  refine own_retI X1 hx hlk (t := .int) hret (by simp) rfl (hb hby d10_4) ?_ (by decide) (by decide)
  exact ⟨rfl, N0, e1⟩
def Q_rm_negate (Z : State) (b mg : Addr) (k : ClassId) (n sg u : Int32) (vs : List Value) (h0 : Heap) (n0 : Nat) (v : Option Value) (h : Heap) (L : List Loc) : Prop := ∃ c, v = some (.ref c) ∧ Fr n0 L ∧ Keep h0 h [] ∧ own_Big Z h c (-sg) u
set_option maxRecDepth 65536 in
set_option maxHeartbeats 40000000 in
theorem rm_negate (l : Launch) (Z : State) (a0 : Array Value) (hw : ∀ d ∈ tables_1, d.before a0 Z = true) (ws : List Jvm.Cond) (b mg : Addr) (k : ClassId) (n sg u : Int32) (vs : List Value) (h0 : Heap) (n0 : Nat) (O0 : Old Z n0 h0) (E_b : Exa Z h0 b "java/math/BigInteger") (Fs_b : Fld Z h0 b "java/math/BigInteger" "signum" "I" (.int sg)) (Fm_b : Fld Z h0 b "java/math/BigInteger" "mag" "[I" (.ref mg)) (V_b : Arv Z h0 mg k .int n vs (.int (0 : Int32))) (M : own_Mag n vs u) :
    MetFree l (⟨"java/math/BigInteger", "negate", "()Ljava/math/BigInteger;"⟩ : MethodName) (head1 (Jvm.Cond.code (⟨"java/math/BigInteger", "negate", "()Ljava/math/BigInteger;"⟩ : MethodName) jdk_2097_method_80_code 1 (some (.object "java/math/BigInteger")) :: ws) ({ frames := 3, cells := 1, slots := 6, locals := 44 } : Room)) (fun ar U => ar = #[(.ref b)] ∧ Z.Warmed39 U.vm ∧ U.heap = h0) (fun _ _ _ _ _ => True) (fun _ U o U' => ∃ v L, o = .returned v ∧ Q_rm_negate Z b mg k n sg u vs h0 n0 v U'.heap L ∧ FrameEnd U o U' L ({ frames := 3, cells := 1, slots := 6, locals := 44 } : Room).cells ({ frames := 3, cells := 1, slots := 6, locals := 44 } : Room).slots) := by
  refine own_enter (Q := (Q_rm_negate Z b mg k n sg u vs h0 n0)) pl_11 ?_
  intro p e s m below meth c s₁ X0 hx hZ hby hml hown hnm hret hlk e0
  have N0 := Fr.nil n0
  refine own_by (fun tz kz => castTop (g' := (mkF m 0 #[.val (.ref b)] [])) (by first | (simp [entryFrame, mkF, argsToLocals, Value.category]; done) | rfl) kz) ?_
  have K0 := Keep.refl h0 []
  show own_Go p e below s _ _ (s₁.setTop (mkF m 0 #[.val (.ref b)] []))
  obtain ⟨T1, h1, X1, e1, E1, A1, D1, -, st1⟩ := newO X0 hx hZ hown (hw _ (List.mem_of_getElem? (i := 12) rfl)) (hw _ (List.mem_of_getElem? (i := 13) rfl)) (hw _ (List.mem_of_getElem? (i := 7) rfl)) e0 (g := (mkF m 0 #[.val (.ref b)] [])) rfl (hb hby d11_0) (by decide) (by decide)
  obtain ⟨b1, g1⟩ : ∃ z, z = h0.size := ⟨_, rfl⟩
  have ne_b_b1 : b ≠ b1 := by rw [g1]; exact Nat.ne_of_lt E_b.lt
  have ne_mg_b1 : mg ≠ b1 := by rw [g1]; exact Nat.ne_of_lt (Arv.lt V_b)
  rw [← g1] at A1 D1 st1
  have g_b1 : n0 ≤ b1 := by rw [g1]; exact O0.1 ▸ O0.2.1
  have sz_b1 : h0.size ≤ b1 := by rw [g1]; exact K0.1
  have O1 := O0.ext E1
  have K1 := K0.ext E1
  refine own_by st1 ?_
  have F1_signum : Fld Z h1 b1 "java/math/BigInteger" "signum" "I" (.int (0 : Int32)) := D1 (Or.inr (hw _ (List.mem_of_getElem? (i := 28) rfl))) (ty := .int) (by decide)
  have F1_mag : Fld Z h1 b1 "java/math/BigInteger" "mag" "[I" .null := D1 (Or.inr (hw _ (List.mem_of_getElem? (i := 31) rfl))) (ty := (.array .int)) (by decide)
  show own_Go p e below s _ _ (T1.setTop (mkF m 3 #[.val (.ref b)] [(.ref b1)]))
  refine own_by (fun tz kz => XS.dup X1.here hx rfl (hb hby d11_3) rfl rfl kz) ?_
  show own_Go p e below s _ _ (T1.setTop (mkF m 4 #[.val (.ref b)] [(.ref b1), (.ref b1)]))
  refine own_by (fun tz kz => XS.aloadN X1.here hx rfl (hb hby d11_4) rfl rfl kz) ?_
  show own_Go p e below s _ _ (T1.setTop (mkF m 5 #[.val (.ref b)] [(.ref b), (.ref b1), (.ref b1)]))
  have f2 := (Fm_b.ext E1)
  obtain ⟨T3, X3, e3, st3⟩ := getF X1 hx hZ hown (host := "") (Or.inl (hw _ (List.mem_of_getElem? (i := 30) rfl))) Via.refl e1 f2 (g := (mkF m 5 #[.val (.ref b)] [(.ref b), (.ref b1), (.ref b1)])) rfl rfl (hb hby d11_5)
  refine own_by st3 ?_
  show own_Go p e below s _ _ (T3.setTop (mkF m 8 #[.val (.ref b)] [(.ref mg), (.ref b1), (.ref b1)]))
  refine own_by (fun tz kz => XS.aloadN X3.here hx rfl (hb hby d11_8) rfl rfl kz) ?_
  show own_Go p e below s _ _ (T3.setTop (mkF m 9 #[.val (.ref b)] [(.ref b), (.ref mg), (.ref b1), (.ref b1)]))
  have f4 := (Fs_b.ext E1)
  obtain ⟨T5, X5, e5, st5⟩ := getF X3 hx hZ hown (host := "") (Or.inl (hw _ (List.mem_of_getElem? (i := 27) rfl))) Via.refl e3 f4 (g := (mkF m 9 #[.val (.ref b)] [(.ref b), (.ref mg), (.ref b1), (.ref b1)])) rfl rfl (hb hby d11_9)
  refine own_by st5 ?_
  show own_Go p e below s _ _ (T5.setTop (mkF m 12 #[.val (.ref b)] [(.int sg), (.ref mg), (.ref b1), (.ref b1)]))
  refine own_by (fun tz kz => XS.ineg X5.here hx rfl (hb hby d11_12) rfl kz) ?_
  show own_Go p e below s _ _ (T5.setTop (mkF m 13 #[.val (.ref b)] [(.int (-sg)), (.ref mg), (.ref b1), (.ref b1)]))
  have f6 := (Arv.ext V_b E1)
  obtain ⟨_, _, ⟨T7, L7, k7, n7⟩, -, X7, ⟨Lc7, hQ7, l7, y7, z7⟩, st7⟩ := X5.specialBack hx (y := (⟨"java/math/BigInteger", "<init>", "([II)V"⟩ : MethodName)) rfl hown (mvT hZ (hw _ (List.mem_of_getElem? (i := 71) rfl))) (mvT hZ (hw _ (List.mem_of_getElem? (i := 72) rfl))) (mvT hZ (hw _ (List.mem_of_getElem? (i := 73) rfl))) (by decide) (backOf (W := 1) (rm_Binit2 l Z a0 hw [] b1 mg k n (-sg) u vs h1 n0 O1 A1 F1_signum F1_mag g_b1 f6 M ne_mg_b1) hZ (hw _ (List.mem_of_getElem? (i := 73) rfl)) (hw _ (List.mem_of_getElem? (i := 7) rfl)) (by decide) (by decide)) (g := (mkF m 13 #[.val (.ref b)] [(.int (-sg)), (.ref mg), (.ref b1), (.ref b1)])) rfl (by rw [hml]; rfl) (Steps.refl _) (a := b1) (argsL := [(.ref mg), (.int (-sg))]) (rest := [(.ref b1)]) (lenOf pd_8 rfl) rfl (by show 2 * 0 + _ ≤ _; exact Nat.le_of_eq rfl) (hb hby d11_13) (fun _ _ => ⟨rfl, e5, (by decide : 1 + 0 ≤ _), (by decide : 6 + 0 ≤ _)⟩)
  dsimp only [Pt.U, Pt.locs, Pt.cells, Pt.slots] at X7 l7 y7 z7 st7 hQ7
  rw [l7, y7, z7] at X7
  obtain ⟨rfl, Nq7, Kq7, Bq7⟩ := hQ7
  have N7 := Fr.app N0 Nq7
  have e7 : T7.heap = T7.heap := rfl
  refine own_via st7 ?_
  have O7 := O1.keep Kq7 (allS g_b1 all0)
  have K7 := K1.trans Kq7 (allS (Or.inr sz_b1) all0)
  show own_Go p e below s _ _ (T7.setTop (mkF m 16 #[.val (.ref b)] [(.ref b1)]))
  refine own_retA X7 hx hlk (t := (.object "java/math/BigInteger")) hret rfl rfl (hb hby d11_16) ?_ (by decide) (by decide)
  exact ⟨b1, rfl, N7, by rw [e7]; exact K7, by rw [e7]; exact Bq7⟩
def Q_rm_abs (Z : State) (b : Addr) (sg u : Int32) (h0 : Heap) (n0 : Nat) (v : Option Value) (h : Heap) (L : List Loc) : Prop := ∃ c, v = some (.ref c) ∧ Fr n0 L ∧ Keep h0 h [] ∧ own_Big Z h c (1 : Int32) u
set_option maxRecDepth 65536 in
set_option maxHeartbeats 40000000 in
theorem rm_abs (l : Launch) (Z : State) (a0 : Array Value) (hw : ∀ d ∈ tables_1, d.before a0 Z = true) (ws : List Jvm.Cond) (b : Addr) (sg u : Int32) (h0 : Heap) (n0 : Nat) (O0 : Old Z n0 h0) (B_b : own_Big Z h0 b sg u) (hsg : sg = (1 : Int32) ∨ sg = (-1 : Int32)) :
    MetFree l (⟨"java/math/BigInteger", "abs", "()Ljava/math/BigInteger;"⟩ : MethodName) (head1 (Jvm.Cond.code (⟨"java/math/BigInteger", "abs", "()Ljava/math/BigInteger;"⟩ : MethodName) jdk_2097_method_79_code 1 (some (.object "java/math/BigInteger")) :: ws) ({ frames := 4, cells := 1, slots := 6, locals := 56 } : Room)) (fun ar U => ar = #[(.ref b)] ∧ Z.Warmed39 U.vm ∧ U.heap = h0) (fun _ _ _ _ _ => True) (fun _ U o U' => ∃ v L, o = .returned v ∧ Q_rm_abs Z b sg u h0 n0 v U'.heap L ∧ FrameEnd U o U' L ({ frames := 4, cells := 1, slots := 6, locals := 56 } : Room).cells ({ frames := 4, cells := 1, slots := 6, locals := 56 } : Room).slots) := by
  refine own_enter (Q := (Q_rm_abs Z b sg u h0 n0)) pl_8 ?_
  intro p e s m below meth c s₁ X0 hx hZ hby hml hown hnm hret hlk e0
  have N0 := Fr.nil n0
  refine own_by (fun tz kz => castTop (g' := (mkF m 0 #[.val (.ref b)] [])) (by first | (simp [entryFrame, mkF, argsToLocals, Value.category]; done) | rfl) kz) ?_
  have K0 := Keep.refl h0 []
  obtain ⟨mg, k, n, vs, E_b, Fs_b, Fm_b, V_b, M⟩ := B_b
  rcases hsg with rfl | rfl
  · show own_Go p e below s _ _ (s₁.setTop (mkF m 0 #[.val (.ref b)] []))
    refine own_by (fun tz kz => XS.aloadN X0.here hx rfl (hb hby d8_0) rfl rfl kz) ?_
    show own_Go p e below s _ _ (s₁.setTop (mkF m 1 #[.val (.ref b)] [(.ref b)]))
    obtain ⟨T1, X1, e1, st1⟩ := getF X0 hx hZ hown (host := "") (Or.inl (hw _ (List.mem_of_getElem? (i := 27) rfl))) Via.refl e0 Fs_b (g := (mkF m 1 #[.val (.ref b)] [(.ref b)])) rfl rfl (hb hby d8_1)
    refine own_by st1 ?_
    show own_Go p e below s _ _ (T1.setTop (mkF m 4 #[.val (.ref b)] [(.int (1 : Int32))]))
    refine own_by (fun tz kz => XS.ifNo X1.here hx rfl (hb hby d8_4) rfl ((if0 _ _).trans (flt (by decide : ¬ (1 : Int32) < (0 : Int32))).1) kz) ?_
    show own_Go p e below s _ _ (T1.setTop (mkF m 7 #[.val (.ref b)] []))
    refine own_by (fun tz kz => XS.aloadN X1.here hx rfl (hb hby d8_7) rfl rfl kz) ?_
    show own_Go p e below s _ _ (T1.setTop (mkF m 8 #[.val (.ref b)] [(.ref b)]))
    refine own_by (fun tz kz => XS.goto X1.here hx rfl (pc0 := 8) (pc' := 15) rfl (hb hby d8_8) (by decide) (by decide) kz) ?_
    show own_Go p e below s _ _ (T1.setTop (mkF m 15 #[.val (.ref b)] [(.ref b)]))
    refine own_retA X1 hx hlk (t := (.object "java/math/BigInteger")) hret rfl rfl (hb hby d8_15) ?_ (by decide) (by decide)
    exact ⟨b, rfl, N0, by rw [e1]; exact K0, by rw [e1]; exact ⟨mg, k, n, vs, E_b, Fs_b, Fm_b, V_b, M⟩⟩
  · show own_Go p e below s _ _ (s₁.setTop (mkF m 0 #[.val (.ref b)] []))
    refine own_by (fun tz kz => XS.aloadN X0.here hx rfl (hb hby d8_0) rfl rfl kz) ?_
    show own_Go p e below s _ _ (s₁.setTop (mkF m 1 #[.val (.ref b)] [(.ref b)]))
    obtain ⟨T2, X2, e2, st2⟩ := getF X0 hx hZ hown (host := "") (Or.inl (hw _ (List.mem_of_getElem? (i := 27) rfl))) Via.refl e0 Fs_b (g := (mkF m 1 #[.val (.ref b)] [(.ref b)])) rfl rfl (hb hby d8_1)
    refine own_by st2 ?_
    show own_Go p e below s _ _ (T2.setTop (mkF m 4 #[.val (.ref b)] [(.int (-1 : Int32))]))
    refine own_by (fun tz kz => XS.ifYes X2.here hx rfl (pc0 := 4) (pc' := 11) rfl (hb hby d8_4) rfl ((if0 _ _).trans (tlt (by decide : (-1 : Int32) < (0 : Int32))).1) (by decide) (by decide) kz) ?_
    show own_Go p e below s _ _ (T2.setTop (mkF m 11 #[.val (.ref b)] []))
    refine own_by (fun tz kz => XS.aloadN X2.here hx rfl (hb hby d8_11) rfl rfl kz) ?_
    show own_Go p e below s _ _ (T2.setTop (mkF m 12 #[.val (.ref b)] [(.ref b)]))
    obtain ⟨cq3, kq3, q3a, q3b, q3c⟩ := isOf hZ e2 E_b
    obtain ⟨_, _, ⟨T3, L3, k3, n3⟩, -, X3, ⟨Lc3, hQ3, l3, y3, z3⟩, st3⟩ := X2.virtualBack hx (y := (⟨"java/math/BigInteger", "negate", "()Ljava/math/BigInteger;"⟩ : MethodName)) (z := (⟨"java/math/BigInteger", "negate", "()Ljava/math/BigInteger;"⟩ : MethodName)) hown (mvT hZ (hw _ (List.mem_of_getElem? (i := 66) rfl))) (mvT hZ (hw _ (List.mem_of_getElem? (i := 67) rfl))) (notFace_of_selects (args := #[]) (mvT hZ (hw _ (List.mem_of_getElem? (i := 69) rfl)))) (mvT hZ (hw _ (List.mem_of_getElem? (i := 69) rfl))) (mvT hZ (hw _ (List.mem_of_getElem? (i := 68) rfl))) (by decide) (backOf (W := 0) (rm_negate l Z a0 hw [] b mg k n (-1 : Int32) u vs h0 n0 O0 E_b Fs_b Fm_b V_b M) hZ (hw _ (List.mem_of_getElem? (i := 70) rfl)) (hw _ (List.mem_of_getElem? (i := 7) rfl)) (by decide) (by decide)) q3a q3c (g := (mkF m 12 #[.val (.ref b)] [(.ref b)])) rfl (by rw [hml]; rfl) (Steps.refl _) (argsL := []) (rest := []) (lenOf pd_5 rfl) rfl (by show 2 * 0 + _ ≤ _; exact Nat.le_of_eq rfl) (hb hby d8_12) (fun _ _ => ⟨rfl, e2, (by decide : 0 + 1 ≤ _), (by decide : 0 + 6 ≤ _)⟩)
    dsimp only [Pt.U, Pt.locs, Pt.cells, Pt.slots] at X3 l3 y3 z3 st3 hQ3
    rw [l3, y3, z3] at X3
    obtain ⟨c3, rfl, Nq3, Kq3, Bq3⟩ := hQ3
    have N3 := Fr.app N0 Nq3
    have e3 : T3.heap = T3.heap := rfl
    refine own_via st3 ?_
    have O3 := O0.keep Kq3 all0
    have K3 := K0.trans Kq3 all0
    show own_Go p e below s _ _ (T3.setTop (mkF m 15 #[.val (.ref b)] [(.ref c3)]))
    refine own_retA X3 hx hlk (t := (.object "java/math/BigInteger")) hret rfl rfl (hb hby d8_15) ?_ (by decide) (by decide)
    exact ⟨c3, rfl, N3, by rw [e3]; exact K3, by rw [e3]; exact Bq3⟩
def Q_rm_eqOne (Z : State) (a one om : Addr) (ko : ClassId) (u : Int32) (h0 : Heap) (n0 : Nat) (v : Option Value) (h : Heap) (L : List Loc) : Prop := v = some (.int u) ∧ Fr n0 L ∧ h = h0
set_option maxRecDepth 65536 in
set_option maxHeartbeats 40000000 in
theorem rm_eqOne (l : Launch) (Z : State) (a0 : Array Value) (hw : ∀ d ∈ tables_1, d.before a0 Z = true) (ws : List Jvm.Cond) (a one om : Addr) (ko : ClassId) (u : Int32) (h0 : Heap) (n0 : Nat) (O0 : Old Z n0 h0) (S_ONE : Sta Z Z.heap "java/math/BigInteger" "ONE" "Ljava/math/BigInteger;" (.ref one)) (E_one : Exa Z Z.heap one "java/math/BigInteger") (Fs_one : Fld Z Z.heap one "java/math/BigInteger" "signum" "I" (.int (1 : Int32))) (Fm_one : Fld Z Z.heap one "java/math/BigInteger" "mag" "[I" (.ref om)) (V_one : Arv Z Z.heap om ko .int (1 : Int32) [.int (1 : Int32)] (.int (0 : Int32))) (B_a : own_Big Z h0 a (1 : Int32) u) :
    MetFree l (⟨"java/math/BigInteger", "equals", "(Ljava/lang/Object;)Z"⟩ : MethodName) (head1 (Jvm.Cond.code (⟨"java/math/BigInteger", "equals", "(Ljava/lang/Object;)Z"⟩ : MethodName) jdk_2097_method_124_code 7 (some .boolean) :: ws) ({ frames := 0, cells := 0, slots := 0, locals := 0 } : Room)) (fun ar U => ar = #[(.ref a), (.ref one)] ∧ Z.Warmed39 U.vm ∧ U.heap = h0) (fun _ _ _ _ _ => True) (fun _ U o U' => ∃ v L, o = .returned v ∧ Q_rm_eqOne Z a one om ko u h0 n0 v U'.heap L ∧ FrameEnd U o U' L ({ frames := 0, cells := 0, slots := 0, locals := 0 } : Room).cells ({ frames := 0, cells := 0, slots := 0, locals := 0 } : Room).slots) := by
  refine own_enter (Q := (Q_rm_eqOne Z a one om ko u h0 n0)) pl_9 ?_
  intro p e s m below meth c s₁ X0 hx hZ hby hml hown hnm hret hlk e0
  have N0 := Fr.nil n0
  refine own_by (fun tz kz => castTop (g' := (mkF m 0 #[.val (.ref a), .val (.ref one), .unset, .unset, .unset, .unset, .unset] [])) (by first | (simp [entryFrame, mkF, argsToLocals, Value.category]; done) | rfl) kz) ?_
  obtain ⟨mg, k, n, vs, E_a, Fs_a, Fm_a, V_a, M⟩ := B_a
  have M' := M
  rcases M with ⟨rfl, m0, rfl, hu⟩ | ⟨rfl, m0, m1, rfl, hu⟩
  · show own_Go p e below s _ _ (s₁.setTop (mkF m 0 #[.val (.ref a), .val (.ref one), .unset, .unset, .unset, .unset, .unset] []))
    refine own_by (fun tz kz => XS.aloadN X0.here hx rfl (hb hby d9_0) rfl rfl kz) ?_
    show own_Go p e below s _ _ (s₁.setTop (mkF m 1 #[.val (.ref a), .val (.ref one), .unset, .unset, .unset, .unset, .unset] [(.ref one)]))
    refine own_by (fun tz kz => XS.aloadN X0.here hx rfl (hb hby d9_1) rfl rfl kz) ?_
    show own_Go p e below s _ _ (s₁.setTop (mkF m 2 #[.val (.ref a), .val (.ref one), .unset, .unset, .unset, .unset, .unset] [(.ref a), (.ref one)]))
    by_cases hc2_1 : one = a
    · refine own_by (fun tz kz => Jvm.RoadKit.acmp (g := (mkF m 2 #[.val (.ref a), .val (.ref one), .unset, .unset, .unset, .unset, .unset] [(.ref a), (.ref one)])) X0 hx rfl rfl rfl (pc0 := 2) (pc' := 5) (same := true) rfl (hb hby d9_2) rfl (decide_eq_true (congrArg Value.ref hc2_1)) (by decide) (by decide) kz) ?_
      show own_Go p e below s _ _ (s₁.setTop (mkF m 5 #[.val (.ref a), .val (.ref one), .unset, .unset, .unset, .unset, .unset] []))
      refine own_by (fun tz kz => XS.iconst X0.here hx rfl (hb hby d9_5) kz) ?_
      show own_Go p e below s _ _ (s₁.setTop (mkF m 6 #[.val (.ref a), .val (.ref one), .unset, .unset, .unset, .unset, .unset] [(.int (1 : Int32))]))
      refine own_retI X0 hx hlk (t := .boolean) hret (by simp) rfl (hb hby d9_6) ?_ (by decide) (by decide)
      exact ⟨congrArg (fun z => some (Value.int z)) (own_one Fm_a (hc2_1 ▸ (Fm_one.ext O0.2)) V_a (Arv.ext V_one O0.2) M').symm, N0, e0⟩
    · refine own_by (fun tz kz => Jvm.RoadKit.acmp (g := (mkF m 2 #[.val (.ref a), .val (.ref one), .unset, .unset, .unset, .unset, .unset] [(.ref a), (.ref one)])) X0 hx rfl rfl rfl (pc0 := 2) (pc' := 7) (same := false) rfl (hb hby d9_2) rfl (decide_eq_false fun q => hc2_1 (Value.ref.inj q)) (by decide) (by decide) kz) ?_
      show own_Go p e below s _ _ (s₁.setTop (mkF m 7 #[.val (.ref a), .val (.ref one), .unset, .unset, .unset, .unset, .unset] []))
      refine own_by (fun tz kz => XS.aloadN X0.here hx rfl (hb hby d9_7) rfl rfl kz) ?_
      show own_Go p e below s _ _ (s₁.setTop (mkF m 8 #[.val (.ref a), .val (.ref one), .unset, .unset, .unset, .unset, .unset] [(.ref one)]))
      obtain ⟨T2, X2, e2, st2⟩ := instY X0 hx hZ hown (hw _ (List.mem_of_getElem? (i := 12) rfl)) e0 (Ins.self (E_one.ext O0.2)) (g := (mkF m 8 #[.val (.ref a), .val (.ref one), .unset, .unset, .unset, .unset, .unset] [(.ref one)])) rfl rfl (hb hby d9_8)
      refine own_by st2 ?_
      show own_Go p e below s _ _ (T2.setTop (mkF m 11 #[.val (.ref a), .val (.ref one), .unset, .unset, .unset, .unset, .unset] [(.int (1 : Int32))]))
      refine own_by (fun tz kz => XS.ifNo X2.here hx rfl (hb hby d9_11) rfl ((if0 _ _).trans (feq (by decide : ¬ (1 : Int32) = (0 : Int32))).1) kz) ?_
      show own_Go p e below s _ _ (T2.setTop (mkF m 14 #[.val (.ref a), .val (.ref one), .unset, .unset, .unset, .unset, .unset] []))
      refine own_by (fun tz kz => XS.aloadN X2.here hx rfl (hb hby d9_14) rfl rfl kz) ?_
      show own_Go p e below s _ _ (T2.setTop (mkF m 15 #[.val (.ref a), .val (.ref one), .unset, .unset, .unset, .unset, .unset] [(.ref one)]))
      obtain ⟨T3, X3, e3, st3⟩ := castY X2 hx hZ hown (hw _ (List.mem_of_getElem? (i := 12) rfl)) e2 (Ins.self (E_one.ext O0.2)) (g := (mkF m 15 #[.val (.ref a), .val (.ref one), .unset, .unset, .unset, .unset, .unset] [(.ref one)])) rfl rfl (hb hby d9_15)
      refine own_by st3 ?_
      show own_Go p e below s _ _ (T3.setTop (mkF m 18 #[.val (.ref a), .val (.ref one), .unset, .unset, .unset, .unset, .unset] [(.ref one)]))
      refine own_by (fun tz kz => XS.astoreN X3.here hx rfl (hb hby d9_18) rfl rfl (l' := #[.val (.ref a), .val (.ref one), .val (.ref one), .unset, .unset, .unset, .unset]) rfl kz) ?_
      show own_Go p e below s _ _ (T3.setTop (mkF m 19 #[.val (.ref a), .val (.ref one), .val (.ref one), .unset, .unset, .unset, .unset] []))
      refine own_by (fun tz kz => XS.goto X3.here hx rfl (pc0 := 19) (pc' := 24) rfl (hb hby d9_19) (by decide) (by decide) kz) ?_
      show own_Go p e below s _ _ (T3.setTop (mkF m 24 #[.val (.ref a), .val (.ref one), .val (.ref one), .unset, .unset, .unset, .unset] []))
      refine own_by (fun tz kz => XS.aloadN X3.here hx rfl (hb hby d9_24) rfl rfl kz) ?_
      show own_Go p e below s _ _ (T3.setTop (mkF m 25 #[.val (.ref a), .val (.ref one), .val (.ref one), .unset, .unset, .unset, .unset] [(.ref one)]))
      obtain ⟨T4, X4, e4, st4⟩ := getF X3 hx hZ hown (host := "") (Or.inl (hw _ (List.mem_of_getElem? (i := 27) rfl))) Via.refl e3 (Fs_one.ext O0.2) (g := (mkF m 25 #[.val (.ref a), .val (.ref one), .val (.ref one), .unset, .unset, .unset, .unset] [(.ref one)])) rfl rfl (hb hby d9_25)
      refine own_by st4 ?_
      show own_Go p e below s _ _ (T4.setTop (mkF m 28 #[.val (.ref a), .val (.ref one), .val (.ref one), .unset, .unset, .unset, .unset] [(.int (1 : Int32))]))
      refine own_by (fun tz kz => XS.aloadN X4.here hx rfl (hb hby d9_28) rfl rfl kz) ?_
      show own_Go p e below s _ _ (T4.setTop (mkF m 29 #[.val (.ref a), .val (.ref one), .val (.ref one), .unset, .unset, .unset, .unset] [(.ref a), (.int (1 : Int32))]))
      obtain ⟨T5, X5, e5, st5⟩ := getF X4 hx hZ hown (host := "") (Or.inl (hw _ (List.mem_of_getElem? (i := 27) rfl))) Via.refl e4 Fs_a (g := (mkF m 29 #[.val (.ref a), .val (.ref one), .val (.ref one), .unset, .unset, .unset, .unset] [(.ref a), (.int (1 : Int32))])) rfl rfl (hb hby d9_29)
      refine own_by st5 ?_
      show own_Go p e below s _ _ (T5.setTop (mkF m 32 #[.val (.ref a), .val (.ref one), .val (.ref one), .unset, .unset, .unset, .unset] [(.int (1 : Int32)), (.int (1 : Int32))]))
      refine own_by (fun tz kz => XS.icmpYes X5.here hx rfl (pc0 := 32) (pc' := 37) rfl (hb hby d9_32) rfl (teq (by decide : (1 : Int32) = (1 : Int32))).1 (by decide) (by decide) kz) ?_
      show own_Go p e below s _ _ (T5.setTop (mkF m 37 #[.val (.ref a), .val (.ref one), .val (.ref one), .unset, .unset, .unset, .unset] []))
      refine own_by (fun tz kz => XS.aloadN X5.here hx rfl (hb hby d9_37) rfl rfl kz) ?_
      show own_Go p e below s _ _ (T5.setTop (mkF m 38 #[.val (.ref a), .val (.ref one), .val (.ref one), .unset, .unset, .unset, .unset] [(.ref a)]))
      obtain ⟨T6, X6, e6, st6⟩ := getF X5 hx hZ hown (host := "") (Or.inl (hw _ (List.mem_of_getElem? (i := 30) rfl))) Via.refl e5 Fm_a (g := (mkF m 38 #[.val (.ref a), .val (.ref one), .val (.ref one), .unset, .unset, .unset, .unset] [(.ref a)])) rfl rfl (hb hby d9_38)
      refine own_by st6 ?_
      show own_Go p e below s _ _ (T6.setTop (mkF m 41 #[.val (.ref a), .val (.ref one), .val (.ref one), .unset, .unset, .unset, .unset] [(.ref mg)]))
      refine own_by (fun tz kz => XS.astoreN X6.here hx rfl (hb hby d9_41) rfl rfl (l' := #[.val (.ref a), .val (.ref one), .val (.ref one), .val (.ref mg), .unset, .unset, .unset]) rfl kz) ?_
      show own_Go p e below s _ _ (T6.setTop (mkF m 42 #[.val (.ref a), .val (.ref one), .val (.ref one), .val (.ref mg), .unset, .unset, .unset] []))
      refine own_by (fun tz kz => XS.aloadN X6.here hx rfl (hb hby d9_42) rfl rfl kz) ?_
      show own_Go p e below s _ _ (T6.setTop (mkF m 43 #[.val (.ref a), .val (.ref one), .val (.ref one), .val (.ref mg), .unset, .unset, .unset] [(.ref mg)]))
      obtain ⟨c7, Ar7, q7, S7, M7, Hh7, G7⟩ := id V_a
      refine own_by (fun tz kz => X6.arraylength hx (by rw [e6]; exact Ar7.1) (State.isArrayOf_alike hZ.alike Ar7.2.1) (g := (mkF m 43 #[.val (.ref a), .val (.ref one), .val (.ref one), .val (.ref mg), .unset, .unset, .unset] [(.ref mg)])) rfl rfl (hb hby d9_43) _ kz) ?_
      rw [len_of S7 M7]
      show own_Go p e below s _ _ (T6.setTop (mkF m 44 #[.val (.ref a), .val (.ref one), .val (.ref one), .val (.ref mg), .unset, .unset, .unset] [(.int (1 : Int32))]))
      refine own_by (fun tz kz => XS.istore X6.here hx rfl (hb hby d9_44) rfl (l' := #[.val (.ref a), .val (.ref one), .val (.ref one), .val (.ref mg), .val (.int (1 : Int32)), .unset, .unset]) rfl kz) ?_
      show own_Go p e below s _ _ (T6.setTop (mkF m 46 #[.val (.ref a), .val (.ref one), .val (.ref one), .val (.ref mg), .val (.int (1 : Int32)), .unset, .unset] []))
      refine own_by (fun tz kz => XS.aloadN X6.here hx rfl (hb hby d9_46) rfl rfl kz) ?_
      show own_Go p e below s _ _ (T6.setTop (mkF m 47 #[.val (.ref a), .val (.ref one), .val (.ref one), .val (.ref mg), .val (.int (1 : Int32)), .unset, .unset] [(.ref one)]))
      obtain ⟨T8, X8, e8, st8⟩ := getF X6 hx hZ hown (host := "") (Or.inl (hw _ (List.mem_of_getElem? (i := 30) rfl))) Via.refl e6 (Fm_one.ext O0.2) (g := (mkF m 47 #[.val (.ref a), .val (.ref one), .val (.ref one), .val (.ref mg), .val (.int (1 : Int32)), .unset, .unset] [(.ref one)])) rfl rfl (hb hby d9_47)
      refine own_by st8 ?_
      show own_Go p e below s _ _ (T8.setTop (mkF m 50 #[.val (.ref a), .val (.ref one), .val (.ref one), .val (.ref mg), .val (.int (1 : Int32)), .unset, .unset] [(.ref om)]))
      refine own_by (fun tz kz => XS.astore X8.here hx rfl (hb hby d9_50) rfl rfl (l' := #[.val (.ref a), .val (.ref one), .val (.ref one), .val (.ref mg), .val (.int (1 : Int32)), .val (.ref om), .unset]) rfl kz) ?_
      show own_Go p e below s _ _ (T8.setTop (mkF m 52 #[.val (.ref a), .val (.ref one), .val (.ref one), .val (.ref mg), .val (.int (1 : Int32)), .val (.ref om), .unset] []))
      refine own_by (fun tz kz => XS.iload X8.here hx rfl (hb hby d9_52) rfl  kz) ?_
      show own_Go p e below s _ _ (T8.setTop (mkF m 54 #[.val (.ref a), .val (.ref one), .val (.ref one), .val (.ref mg), .val (.int (1 : Int32)), .val (.ref om), .unset] [(.int (1 : Int32))]))
      refine own_by (fun tz kz => XS.aload X8.here hx rfl (hb hby d9_54) rfl rfl kz) ?_
      show own_Go p e below s _ _ (T8.setTop (mkF m 56 #[.val (.ref a), .val (.ref one), .val (.ref one), .val (.ref mg), .val (.int (1 : Int32)), .val (.ref om), .unset] [(.ref om), (.int (1 : Int32))]))
      obtain ⟨c9, Ar9, q9, S9, M9, Hh9, G9⟩ := id (Arv.ext V_one O0.2)
      refine own_by (fun tz kz => X8.arraylength hx (by rw [e8]; exact Ar9.1) (State.isArrayOf_alike hZ.alike Ar9.2.1) (g := (mkF m 56 #[.val (.ref a), .val (.ref one), .val (.ref one), .val (.ref mg), .val (.int (1 : Int32)), .val (.ref om), .unset] [(.ref om), (.int (1 : Int32))])) rfl rfl (hb hby d9_56) _ kz) ?_
      rw [len_of S9 M9]
      show own_Go p e below s _ _ (T8.setTop (mkF m 57 #[.val (.ref a), .val (.ref one), .val (.ref one), .val (.ref mg), .val (.int (1 : Int32)), .val (.ref om), .unset] [(.int (1 : Int32)), (.int (1 : Int32))]))
      refine own_by (fun tz kz => XS.icmpYes X8.here hx rfl (pc0 := 57) (pc' := 62) rfl (hb hby d9_57) rfl (teq (by decide : (1 : Int32) = (1 : Int32))).1 (by decide) (by decide) kz) ?_
      show own_Go p e below s _ _ (T8.setTop (mkF m 62 #[.val (.ref a), .val (.ref one), .val (.ref one), .val (.ref mg), .val (.int (1 : Int32)), .val (.ref om), .unset] []))
      refine own_by (fun tz kz => XS.iconst X8.here hx rfl (hb hby d9_62) kz) ?_
      show own_Go p e below s _ _ (T8.setTop (mkF m 63 #[.val (.ref a), .val (.ref one), .val (.ref one), .val (.ref mg), .val (.int (1 : Int32)), .val (.ref om), .unset] [(.int (0 : Int32))]))
      refine own_by (fun tz kz => XS.istore X8.here hx rfl (hb hby d9_63) rfl (l' := #[.val (.ref a), .val (.ref one), .val (.ref one), .val (.ref mg), .val (.int (1 : Int32)), .val (.ref om), .val (.int (0 : Int32))]) rfl kz) ?_
      show own_Go p e below s _ _ (T8.setTop (mkF m 65 #[.val (.ref a), .val (.ref one), .val (.ref one), .val (.ref mg), .val (.int (1 : Int32)), .val (.ref om), .val (.int (0 : Int32))] []))
      refine own_by (fun tz kz => XS.iload X8.here hx rfl (hb hby d9_65) rfl  kz) ?_
      show own_Go p e below s _ _ (T8.setTop (mkF m 67 #[.val (.ref a), .val (.ref one), .val (.ref one), .val (.ref mg), .val (.int (1 : Int32)), .val (.ref om), .val (.int (0 : Int32))] [(.int (0 : Int32))]))
      refine own_by (fun tz kz => XS.iload X8.here hx rfl (hb hby d9_67) rfl  kz) ?_
      show own_Go p e below s _ _ (T8.setTop (mkF m 69 #[.val (.ref a), .val (.ref one), .val (.ref one), .val (.ref mg), .val (.int (1 : Int32)), .val (.ref om), .val (.int (0 : Int32))] [(.int (1 : Int32)), (.int (0 : Int32))]))
      refine own_by (fun tz kz => XS.icmpNo X8.here hx rfl (hb hby d9_69) rfl (tlt (by decide : (0 : Int32) < (1 : Int32))).2.1 kz) ?_
      show own_Go p e below s _ _ (T8.setTop (mkF m 72 #[.val (.ref a), .val (.ref one), .val (.ref one), .val (.ref mg), .val (.int (1 : Int32)), .val (.ref om), .val (.int (0 : Int32))] []))
      refine own_by (fun tz kz => XS.aload X8.here hx rfl (hb hby d9_72) rfl rfl kz) ?_
      show own_Go p e below s _ _ (T8.setTop (mkF m 74 #[.val (.ref a), .val (.ref one), .val (.ref one), .val (.ref mg), .val (.int (1 : Int32)), .val (.ref om), .val (.int (0 : Int32))] [(.ref om)]))
      refine own_by (fun tz kz => XS.iload X8.here hx rfl (hb hby d9_74) rfl  kz) ?_
      show own_Go p e below s _ _ (T8.setTop (mkF m 76 #[.val (.ref a), .val (.ref one), .val (.ref one), .val (.ref mg), .val (.int (1 : Int32)), .val (.ref om), .val (.int (0 : Int32))] [(.int (0 : Int32)), (.ref om)]))
      obtain ⟨c10, Ar10, q10, S10, M10, Hh10, G10⟩ := id (Arv.ext V_one O0.2)
      have hin10 : ¬ ((0 : Int32) < 0 ∨ c10.slots.size ≤ ((0 : Int32)).toNatClampNeg) := inb_of S10 ⟨by decide, by decide⟩
      have hat10 := Has.at Hh10 hin10 (v := (.int (1 : Int32))) rfl
      refine own_by (fun tz kz => X8.iaload hx (j := (0 : Int32)) (v := (.int (1 : Int32))) (by rw [e8]; exact Ar10.1) (State.isArrayOf_alike hZ.alike Ar10.2.1) Ar10.2.2 hin10 hat10 (g := (mkF m 76 #[.val (.ref a), .val (.ref one), .val (.ref one), .val (.ref mg), .val (.int (1 : Int32)), .val (.ref om), .val (.int (0 : Int32))] [(.int (0 : Int32)), (.ref om)])) rfl rfl (hb hby d9_76) _ kz) ?_
      show own_Go p e below s _ _ (T8.setTop (mkF m 77 #[.val (.ref a), .val (.ref one), .val (.ref one), .val (.ref mg), .val (.int (1 : Int32)), .val (.ref om), .val (.int (0 : Int32))] [(.int (1 : Int32))]))
      refine own_by (fun tz kz => XS.aloadN X8.here hx rfl (hb hby d9_77) rfl rfl kz) ?_
      show own_Go p e below s _ _ (T8.setTop (mkF m 78 #[.val (.ref a), .val (.ref one), .val (.ref one), .val (.ref mg), .val (.int (1 : Int32)), .val (.ref om), .val (.int (0 : Int32))] [(.ref mg), (.int (1 : Int32))]))
      refine own_by (fun tz kz => XS.iload X8.here hx rfl (hb hby d9_78) rfl  kz) ?_
      show own_Go p e below s _ _ (T8.setTop (mkF m 80 #[.val (.ref a), .val (.ref one), .val (.ref one), .val (.ref mg), .val (.int (1 : Int32)), .val (.ref om), .val (.int (0 : Int32))] [(.int (0 : Int32)), (.ref mg), (.int (1 : Int32))]))
      obtain ⟨c11, Ar11, q11, S11, M11, Hh11, G11⟩ := id V_a
      have hin11 : ¬ ((0 : Int32) < 0 ∨ c11.slots.size ≤ ((0 : Int32)).toNatClampNeg) := inb_of S11 ⟨by decide, by decide⟩
      have hat11 := Has.at Hh11 hin11 (v := (.int m0)) rfl
      refine own_by (fun tz kz => X8.iaload hx (j := (0 : Int32)) (v := (.int m0)) (by rw [e8]; exact Ar11.1) (State.isArrayOf_alike hZ.alike Ar11.2.1) Ar11.2.2 hin11 hat11 (g := (mkF m 80 #[.val (.ref a), .val (.ref one), .val (.ref one), .val (.ref mg), .val (.int (1 : Int32)), .val (.ref om), .val (.int (0 : Int32))] [(.int (0 : Int32)), (.ref mg), (.int (1 : Int32))])) rfl rfl (hb hby d9_80) _ kz) ?_
      show own_Go p e below s _ _ (T8.setTop (mkF m 81 #[.val (.ref a), .val (.ref one), .val (.ref one), .val (.ref mg), .val (.int (1 : Int32)), .val (.ref om), .val (.int (0 : Int32))] [(.int m0), (.int (1 : Int32))]))
      by_cases hc81_12 : (1 : Int32) = m0
      · refine own_by (fun tz kz => XS.icmpYes X8.here hx rfl (pc0 := 81) (pc' := 86) rfl (hb hby d9_81) rfl (teq hc81_12).1 (by decide) (by decide) kz) ?_
        show own_Go p e below s _ _ (T8.setTop (mkF m 86 #[.val (.ref a), .val (.ref one), .val (.ref one), .val (.ref mg), .val (.int (1 : Int32)), .val (.ref om), .val (.int (0 : Int32))] []))
        refine own_by (fun tz kz => XS.iinc X8.here hx rfl (hb hby d9_86) rfl (l' := #[.val (.ref a), .val (.ref one), .val (.ref one), .val (.ref mg), .val (.int (1 : Int32)), .val (.ref om), .val (.int ((0 : Int32) + (1 : Int32)))]) rfl kz) ?_
        show own_Go p e below s _ _ (T8.setTop (mkF m 89 #[.val (.ref a), .val (.ref one), .val (.ref one), .val (.ref mg), .val (.int (1 : Int32)), .val (.ref om), .val (.int ((0 : Int32) + (1 : Int32)))] []))
        refine own_by (fun tz kz => XS.goto X8.here hx rfl (pc0 := 89) (pc' := 65) rfl (hb hby d9_89) (by decide) (by decide) kz) ?_
        show own_Go p e below s _ _ (T8.setTop (mkF m 65 #[.val (.ref a), .val (.ref one), .val (.ref one), .val (.ref mg), .val (.int (1 : Int32)), .val (.ref om), .val (.int ((0 : Int32) + (1 : Int32)))] []))
        refine own_by (fun tz kz => XS.iload X8.here hx rfl (hb hby d9_65) rfl  kz) ?_
        show own_Go p e below s _ _ (T8.setTop (mkF m 67 #[.val (.ref a), .val (.ref one), .val (.ref one), .val (.ref mg), .val (.int (1 : Int32)), .val (.ref om), .val (.int ((0 : Int32) + (1 : Int32)))] [(.int ((0 : Int32) + (1 : Int32)))]))
        refine own_by (fun tz kz => XS.iload X8.here hx rfl (hb hby d9_67) rfl  kz) ?_
        show own_Go p e below s _ _ (T8.setTop (mkF m 69 #[.val (.ref a), .val (.ref one), .val (.ref one), .val (.ref mg), .val (.int (1 : Int32)), .val (.ref om), .val (.int ((0 : Int32) + (1 : Int32)))] [(.int (1 : Int32)), (.int ((0 : Int32) + (1 : Int32)))]))
        refine own_by (fun tz kz => XS.icmpYes X8.here hx rfl (pc0 := 69) (pc' := 92) rfl (hb hby d9_69) rfl (flt (by decide : ¬ ((0 : Int32) + (1 : Int32)) < (1 : Int32))).2.1 (by decide) (by decide) kz) ?_
        show own_Go p e below s _ _ (T8.setTop (mkF m 92 #[.val (.ref a), .val (.ref one), .val (.ref one), .val (.ref mg), .val (.int (1 : Int32)), .val (.ref om), .val (.int ((0 : Int32) + (1 : Int32)))] []))
        refine own_by (fun tz kz => XS.iconst X8.here hx rfl (hb hby d9_92) kz) ?_
        show own_Go p e below s _ _ (T8.setTop (mkF m 93 #[.val (.ref a), .val (.ref one), .val (.ref one), .val (.ref mg), .val (.int (1 : Int32)), .val (.ref om), .val (.int ((0 : Int32) + (1 : Int32)))] [(.int (1 : Int32))]))
        refine own_retI X8 hx hlk (t := .boolean) hret (by simp) rfl (hb hby d9_93) ?_ (by decide) (by decide)
        exact ⟨congrArg (fun z => some (Value.int z)) (hu.trans (if_pos hc81_12.symm)).symm, N0, e8⟩
      · refine own_by (fun tz kz => XS.icmpNo X8.here hx rfl (hb hby d9_81) rfl (feq hc81_12).1 kz) ?_
        show own_Go p e below s _ _ (T8.setTop (mkF m 84 #[.val (.ref a), .val (.ref one), .val (.ref one), .val (.ref mg), .val (.int (1 : Int32)), .val (.ref om), .val (.int (0 : Int32))] []))
        refine own_by (fun tz kz => XS.iconst X8.here hx rfl (hb hby d9_84) kz) ?_
        show own_Go p e below s _ _ (T8.setTop (mkF m 85 #[.val (.ref a), .val (.ref one), .val (.ref one), .val (.ref mg), .val (.int (1 : Int32)), .val (.ref om), .val (.int (0 : Int32))] [(.int (0 : Int32))]))
        refine own_retI X8 hx hlk (t := .boolean) hret (by simp) rfl (hb hby d9_85) ?_ (by decide) (by decide)
        exact ⟨congrArg (fun z => some (Value.int z)) (hu.trans (if_neg (fun q => hc81_12 q.symm))).symm, N0, e8⟩
  · show own_Go p e below s _ _ (s₁.setTop (mkF m 0 #[.val (.ref a), .val (.ref one), .unset, .unset, .unset, .unset, .unset] []))
    refine own_by (fun tz kz => XS.aloadN X0.here hx rfl (hb hby d9_0) rfl rfl kz) ?_
    show own_Go p e below s _ _ (s₁.setTop (mkF m 1 #[.val (.ref a), .val (.ref one), .unset, .unset, .unset, .unset, .unset] [(.ref one)]))
    refine own_by (fun tz kz => XS.aloadN X0.here hx rfl (hb hby d9_1) rfl rfl kz) ?_
    show own_Go p e below s _ _ (s₁.setTop (mkF m 2 #[.val (.ref a), .val (.ref one), .unset, .unset, .unset, .unset, .unset] [(.ref a), (.ref one)]))
    by_cases hc2_13 : one = a
    · refine own_by (fun tz kz => Jvm.RoadKit.acmp (g := (mkF m 2 #[.val (.ref a), .val (.ref one), .unset, .unset, .unset, .unset, .unset] [(.ref a), (.ref one)])) X0 hx rfl rfl rfl (pc0 := 2) (pc' := 5) (same := true) rfl (hb hby d9_2) rfl (decide_eq_true (congrArg Value.ref hc2_13)) (by decide) (by decide) kz) ?_
      show own_Go p e below s _ _ (s₁.setTop (mkF m 5 #[.val (.ref a), .val (.ref one), .unset, .unset, .unset, .unset, .unset] []))
      refine own_by (fun tz kz => XS.iconst X0.here hx rfl (hb hby d9_5) kz) ?_
      show own_Go p e below s _ _ (s₁.setTop (mkF m 6 #[.val (.ref a), .val (.ref one), .unset, .unset, .unset, .unset, .unset] [(.int (1 : Int32))]))
      refine own_retI X0 hx hlk (t := .boolean) hret (by simp) rfl (hb hby d9_6) ?_ (by decide) (by decide)
      exact ⟨congrArg (fun z => some (Value.int z)) (own_one Fm_a (hc2_13 ▸ (Fm_one.ext O0.2)) V_a (Arv.ext V_one O0.2) M').symm, N0, e0⟩
    · refine own_by (fun tz kz => Jvm.RoadKit.acmp (g := (mkF m 2 #[.val (.ref a), .val (.ref one), .unset, .unset, .unset, .unset, .unset] [(.ref a), (.ref one)])) X0 hx rfl rfl rfl (pc0 := 2) (pc' := 7) (same := false) rfl (hb hby d9_2) rfl (decide_eq_false fun q => hc2_13 (Value.ref.inj q)) (by decide) (by decide) kz) ?_
      show own_Go p e below s _ _ (s₁.setTop (mkF m 7 #[.val (.ref a), .val (.ref one), .unset, .unset, .unset, .unset, .unset] []))
      refine own_by (fun tz kz => XS.aloadN X0.here hx rfl (hb hby d9_7) rfl rfl kz) ?_
      show own_Go p e below s _ _ (s₁.setTop (mkF m 8 #[.val (.ref a), .val (.ref one), .unset, .unset, .unset, .unset, .unset] [(.ref one)]))
      obtain ⟨T14, X14, e14, st14⟩ := instY X0 hx hZ hown (hw _ (List.mem_of_getElem? (i := 12) rfl)) e0 (Ins.self (E_one.ext O0.2)) (g := (mkF m 8 #[.val (.ref a), .val (.ref one), .unset, .unset, .unset, .unset, .unset] [(.ref one)])) rfl rfl (hb hby d9_8)
      refine own_by st14 ?_
      show own_Go p e below s _ _ (T14.setTop (mkF m 11 #[.val (.ref a), .val (.ref one), .unset, .unset, .unset, .unset, .unset] [(.int (1 : Int32))]))
      refine own_by (fun tz kz => XS.ifNo X14.here hx rfl (hb hby d9_11) rfl ((if0 _ _).trans (feq (by decide : ¬ (1 : Int32) = (0 : Int32))).1) kz) ?_
      show own_Go p e below s _ _ (T14.setTop (mkF m 14 #[.val (.ref a), .val (.ref one), .unset, .unset, .unset, .unset, .unset] []))
      refine own_by (fun tz kz => XS.aloadN X14.here hx rfl (hb hby d9_14) rfl rfl kz) ?_
      show own_Go p e below s _ _ (T14.setTop (mkF m 15 #[.val (.ref a), .val (.ref one), .unset, .unset, .unset, .unset, .unset] [(.ref one)]))
      obtain ⟨T15, X15, e15, st15⟩ := castY X14 hx hZ hown (hw _ (List.mem_of_getElem? (i := 12) rfl)) e14 (Ins.self (E_one.ext O0.2)) (g := (mkF m 15 #[.val (.ref a), .val (.ref one), .unset, .unset, .unset, .unset, .unset] [(.ref one)])) rfl rfl (hb hby d9_15)
      refine own_by st15 ?_
      show own_Go p e below s _ _ (T15.setTop (mkF m 18 #[.val (.ref a), .val (.ref one), .unset, .unset, .unset, .unset, .unset] [(.ref one)]))
      refine own_by (fun tz kz => XS.astoreN X15.here hx rfl (hb hby d9_18) rfl rfl (l' := #[.val (.ref a), .val (.ref one), .val (.ref one), .unset, .unset, .unset, .unset]) rfl kz) ?_
      show own_Go p e below s _ _ (T15.setTop (mkF m 19 #[.val (.ref a), .val (.ref one), .val (.ref one), .unset, .unset, .unset, .unset] []))
      refine own_by (fun tz kz => XS.goto X15.here hx rfl (pc0 := 19) (pc' := 24) rfl (hb hby d9_19) (by decide) (by decide) kz) ?_
      show own_Go p e below s _ _ (T15.setTop (mkF m 24 #[.val (.ref a), .val (.ref one), .val (.ref one), .unset, .unset, .unset, .unset] []))
      refine own_by (fun tz kz => XS.aloadN X15.here hx rfl (hb hby d9_24) rfl rfl kz) ?_
      show own_Go p e below s _ _ (T15.setTop (mkF m 25 #[.val (.ref a), .val (.ref one), .val (.ref one), .unset, .unset, .unset, .unset] [(.ref one)]))
      obtain ⟨T16, X16, e16, st16⟩ := getF X15 hx hZ hown (host := "") (Or.inl (hw _ (List.mem_of_getElem? (i := 27) rfl))) Via.refl e15 (Fs_one.ext O0.2) (g := (mkF m 25 #[.val (.ref a), .val (.ref one), .val (.ref one), .unset, .unset, .unset, .unset] [(.ref one)])) rfl rfl (hb hby d9_25)
      refine own_by st16 ?_
      show own_Go p e below s _ _ (T16.setTop (mkF m 28 #[.val (.ref a), .val (.ref one), .val (.ref one), .unset, .unset, .unset, .unset] [(.int (1 : Int32))]))
      refine own_by (fun tz kz => XS.aloadN X16.here hx rfl (hb hby d9_28) rfl rfl kz) ?_
      show own_Go p e below s _ _ (T16.setTop (mkF m 29 #[.val (.ref a), .val (.ref one), .val (.ref one), .unset, .unset, .unset, .unset] [(.ref a), (.int (1 : Int32))]))
      obtain ⟨T17, X17, e17, st17⟩ := getF X16 hx hZ hown (host := "") (Or.inl (hw _ (List.mem_of_getElem? (i := 27) rfl))) Via.refl e16 Fs_a (g := (mkF m 29 #[.val (.ref a), .val (.ref one), .val (.ref one), .unset, .unset, .unset, .unset] [(.ref a), (.int (1 : Int32))])) rfl rfl (hb hby d9_29)
      refine own_by st17 ?_
      show own_Go p e below s _ _ (T17.setTop (mkF m 32 #[.val (.ref a), .val (.ref one), .val (.ref one), .unset, .unset, .unset, .unset] [(.int (1 : Int32)), (.int (1 : Int32))]))
      refine own_by (fun tz kz => XS.icmpYes X17.here hx rfl (pc0 := 32) (pc' := 37) rfl (hb hby d9_32) rfl (teq (by decide : (1 : Int32) = (1 : Int32))).1 (by decide) (by decide) kz) ?_
      show own_Go p e below s _ _ (T17.setTop (mkF m 37 #[.val (.ref a), .val (.ref one), .val (.ref one), .unset, .unset, .unset, .unset] []))
      refine own_by (fun tz kz => XS.aloadN X17.here hx rfl (hb hby d9_37) rfl rfl kz) ?_
      show own_Go p e below s _ _ (T17.setTop (mkF m 38 #[.val (.ref a), .val (.ref one), .val (.ref one), .unset, .unset, .unset, .unset] [(.ref a)]))
      obtain ⟨T18, X18, e18, st18⟩ := getF X17 hx hZ hown (host := "") (Or.inl (hw _ (List.mem_of_getElem? (i := 30) rfl))) Via.refl e17 Fm_a (g := (mkF m 38 #[.val (.ref a), .val (.ref one), .val (.ref one), .unset, .unset, .unset, .unset] [(.ref a)])) rfl rfl (hb hby d9_38)
      refine own_by st18 ?_
      show own_Go p e below s _ _ (T18.setTop (mkF m 41 #[.val (.ref a), .val (.ref one), .val (.ref one), .unset, .unset, .unset, .unset] [(.ref mg)]))
      refine own_by (fun tz kz => XS.astoreN X18.here hx rfl (hb hby d9_41) rfl rfl (l' := #[.val (.ref a), .val (.ref one), .val (.ref one), .val (.ref mg), .unset, .unset, .unset]) rfl kz) ?_
      show own_Go p e below s _ _ (T18.setTop (mkF m 42 #[.val (.ref a), .val (.ref one), .val (.ref one), .val (.ref mg), .unset, .unset, .unset] []))
      refine own_by (fun tz kz => XS.aloadN X18.here hx rfl (hb hby d9_42) rfl rfl kz) ?_
      show own_Go p e below s _ _ (T18.setTop (mkF m 43 #[.val (.ref a), .val (.ref one), .val (.ref one), .val (.ref mg), .unset, .unset, .unset] [(.ref mg)]))
      obtain ⟨c19, Ar19, q19, S19, M19, Hh19, G19⟩ := id V_a
      refine own_by (fun tz kz => X18.arraylength hx (by rw [e18]; exact Ar19.1) (State.isArrayOf_alike hZ.alike Ar19.2.1) (g := (mkF m 43 #[.val (.ref a), .val (.ref one), .val (.ref one), .val (.ref mg), .unset, .unset, .unset] [(.ref mg)])) rfl rfl (hb hby d9_43) _ kz) ?_
      rw [len_of S19 M19]
      show own_Go p e below s _ _ (T18.setTop (mkF m 44 #[.val (.ref a), .val (.ref one), .val (.ref one), .val (.ref mg), .unset, .unset, .unset] [(.int (2 : Int32))]))
      refine own_by (fun tz kz => XS.istore X18.here hx rfl (hb hby d9_44) rfl (l' := #[.val (.ref a), .val (.ref one), .val (.ref one), .val (.ref mg), .val (.int (2 : Int32)), .unset, .unset]) rfl kz) ?_
      show own_Go p e below s _ _ (T18.setTop (mkF m 46 #[.val (.ref a), .val (.ref one), .val (.ref one), .val (.ref mg), .val (.int (2 : Int32)), .unset, .unset] []))
      refine own_by (fun tz kz => XS.aloadN X18.here hx rfl (hb hby d9_46) rfl rfl kz) ?_
      show own_Go p e below s _ _ (T18.setTop (mkF m 47 #[.val (.ref a), .val (.ref one), .val (.ref one), .val (.ref mg), .val (.int (2 : Int32)), .unset, .unset] [(.ref one)]))
      obtain ⟨T20, X20, e20, st20⟩ := getF X18 hx hZ hown (host := "") (Or.inl (hw _ (List.mem_of_getElem? (i := 30) rfl))) Via.refl e18 (Fm_one.ext O0.2) (g := (mkF m 47 #[.val (.ref a), .val (.ref one), .val (.ref one), .val (.ref mg), .val (.int (2 : Int32)), .unset, .unset] [(.ref one)])) rfl rfl (hb hby d9_47)
      refine own_by st20 ?_
      show own_Go p e below s _ _ (T20.setTop (mkF m 50 #[.val (.ref a), .val (.ref one), .val (.ref one), .val (.ref mg), .val (.int (2 : Int32)), .unset, .unset] [(.ref om)]))
      refine own_by (fun tz kz => XS.astore X20.here hx rfl (hb hby d9_50) rfl rfl (l' := #[.val (.ref a), .val (.ref one), .val (.ref one), .val (.ref mg), .val (.int (2 : Int32)), .val (.ref om), .unset]) rfl kz) ?_
      show own_Go p e below s _ _ (T20.setTop (mkF m 52 #[.val (.ref a), .val (.ref one), .val (.ref one), .val (.ref mg), .val (.int (2 : Int32)), .val (.ref om), .unset] []))
      refine own_by (fun tz kz => XS.iload X20.here hx rfl (hb hby d9_52) rfl  kz) ?_
      show own_Go p e below s _ _ (T20.setTop (mkF m 54 #[.val (.ref a), .val (.ref one), .val (.ref one), .val (.ref mg), .val (.int (2 : Int32)), .val (.ref om), .unset] [(.int (2 : Int32))]))
      refine own_by (fun tz kz => XS.aload X20.here hx rfl (hb hby d9_54) rfl rfl kz) ?_
      show own_Go p e below s _ _ (T20.setTop (mkF m 56 #[.val (.ref a), .val (.ref one), .val (.ref one), .val (.ref mg), .val (.int (2 : Int32)), .val (.ref om), .unset] [(.ref om), (.int (2 : Int32))]))
      obtain ⟨c21, Ar21, q21, S21, M21, Hh21, G21⟩ := id (Arv.ext V_one O0.2)
      refine own_by (fun tz kz => X20.arraylength hx (by rw [e20]; exact Ar21.1) (State.isArrayOf_alike hZ.alike Ar21.2.1) (g := (mkF m 56 #[.val (.ref a), .val (.ref one), .val (.ref one), .val (.ref mg), .val (.int (2 : Int32)), .val (.ref om), .unset] [(.ref om), (.int (2 : Int32))])) rfl rfl (hb hby d9_56) _ kz) ?_
      rw [len_of S21 M21]
      show own_Go p e below s _ _ (T20.setTop (mkF m 57 #[.val (.ref a), .val (.ref one), .val (.ref one), .val (.ref mg), .val (.int (2 : Int32)), .val (.ref om), .unset] [(.int (1 : Int32)), (.int (2 : Int32))]))
      refine own_by (fun tz kz => XS.icmpNo X20.here hx rfl (hb hby d9_57) rfl (feq (by decide : ¬ (2 : Int32) = (1 : Int32))).1 kz) ?_
      show own_Go p e below s _ _ (T20.setTop (mkF m 60 #[.val (.ref a), .val (.ref one), .val (.ref one), .val (.ref mg), .val (.int (2 : Int32)), .val (.ref om), .unset] []))
      refine own_by (fun tz kz => XS.iconst X20.here hx rfl (hb hby d9_60) kz) ?_
      show own_Go p e below s _ _ (T20.setTop (mkF m 61 #[.val (.ref a), .val (.ref one), .val (.ref one), .val (.ref mg), .val (.int (2 : Int32)), .val (.ref om), .unset] [(.int (0 : Int32))]))
      refine own_retI X20 hx hlk (t := .boolean) hret (by simp) rfl (hb hby d9_61) ?_ (by decide) (by decide)
      exact ⟨congrArg (fun z => some (Value.int z)) hu.symm, N0, e20⟩
def Q_rm_Sinit (Z : State) (a : Addr) (h0 : Heap) (n0 : Nat) (v : Option Value) (h : Heap) (L : List Loc) : Prop := v = none ∧ Fr n0 L ∧ Keep h0 h [a] ∧ Fld Z h a "com/example/liftwise/liftwise/eval/arithmetic/Solver$Sides" "lower" "I" (.int (0 : Int32)) ∧ Fld Z h a "com/example/liftwise/liftwise/eval/arithmetic/Solver$Sides" "upper" "I" (.int (0 : Int32)) ∧ Fld Z h a "com/example/liftwise/liftwise/eval/arithmetic/Solver$Sides" "lowerUnit" "Z" (.int (1 : Int32)) ∧ Fld Z h a "com/example/liftwise/liftwise/eval/arithmetic/Solver$Sides" "upperUnit" "Z" (.int (1 : Int32))
set_option maxRecDepth 65536 in
set_option maxHeartbeats 40000000 in
theorem rm_Sinit (l : Launch) (Z : State) (a0 : Array Value) (hw : ∀ d ∈ tables_1, d.before a0 Z = true) (ws : List Jvm.Cond) (a : Addr) (h0 : Heap) (n0 : Nat) (O0 : Old Z n0 h0) (E_a : Exa Z h0 a "com/example/liftwise/liftwise/eval/arithmetic/Solver$Sides") (F_lower : Fld Z h0 a "com/example/liftwise/liftwise/eval/arithmetic/Solver$Sides" "lower" "I" (.int (0 : Int32))) (F_upper : Fld Z h0 a "com/example/liftwise/liftwise/eval/arithmetic/Solver$Sides" "upper" "I" (.int (0 : Int32))) (F_lowerUnit : Fld Z h0 a "com/example/liftwise/liftwise/eval/arithmetic/Solver$Sides" "lowerUnit" "Z" (.int (0 : Int32))) (F_upperUnit : Fld Z h0 a "com/example/liftwise/liftwise/eval/arithmetic/Solver$Sides" "upperUnit" "Z" (.int (0 : Int32))) (g_a : n0 ≤ a) :
    MetFree l (⟨"com/example/liftwise/liftwise/eval/arithmetic/Solver$Sides", "<init>", "()V"⟩ : MethodName) (head1 (Jvm.Cond.code (⟨"com/example/liftwise/liftwise/eval/arithmetic/Solver$Sides", "<init>", "()V"⟩ : MethodName) prog_74_method_1_code 1 none :: ws) ({ frames := 1, cells := 0, slots := 0, locals := 12 } : Room)) (fun ar U => ar = #[(.ref a)] ∧ Z.Warmed39 U.vm ∧ U.heap = h0) (fun _ _ _ _ _ => True) (fun _ U o U' => ∃ v L, o = .returned v ∧ Q_rm_Sinit Z a h0 n0 v U'.heap L ∧ FrameEnd U o U' L ({ frames := 1, cells := 0, slots := 0, locals := 12 } : Room).cells ({ frames := 1, cells := 0, slots := 0, locals := 12 } : Room).slots) := by
  refine own_enter (Q := (Q_rm_Sinit Z a h0 n0)) pl_6 ?_
  intro p e s m below meth c s₁ X0 hx hZ hby hml hown hnm hret hlk e0
  have N0 := Fr.nil n0
  refine own_by (fun tz kz => castTop (g' := (mkF m 0 #[.val (.ref a)] [])) (by first | (simp [entryFrame, mkF, argsToLocals, Value.category]; done) | rfl) kz) ?_
  have K0 := Keep.refl h0 [a]
  show own_Go p e below s _ _ (s₁.setTop (mkF m 0 #[.val (.ref a)] []))
  refine own_by (fun tz kz => XS.aloadN X0.here hx rfl (hb hby d6_0) rfl rfl kz) ?_
  show own_Go p e below s _ _ (s₁.setTop (mkF m 1 #[.val (.ref a)] [(.ref a)]))
  obtain ⟨T1, X1, e1, st1⟩ := initO X0 hx hZ hown (hw _ (List.mem_of_getElem? (i := 38) rfl)) (hw _ (List.mem_of_getElem? (i := 25) rfl)) (hw _ (List.mem_of_getElem? (i := 26) rfl)) e0 (g := (mkF m 1 #[.val (.ref a)] [(.ref a)])) rfl (by rw [hml]; rfl) rfl (hb hby d6_1) (by decide) (W := 0) (by show 2 * 0 + _ ≤ _; exact Nat.le_of_eq rfl) (by decide)
  refine own_by st1 ?_
  show own_Go p e below s _ _ (T1.setTop (mkF m 4 #[.val (.ref a)] []))
  refine own_by (fun tz kz => XS.aloadN X1.here hx rfl (hb hby d6_4) rfl rfl kz) ?_
  show own_Go p e below s _ _ (T1.setTop (mkF m 5 #[.val (.ref a)] [(.ref a)]))
  refine own_by (fun tz kz => XS.iconst X1.here hx rfl (hb hby d6_5) kz) ?_
  show own_Go p e below s _ _ (T1.setTop (mkF m 6 #[.val (.ref a)] [(.int (1 : Int32)), (.ref a)]))
  obtain ⟨T2, h2, X2, e2, W2, st2⟩ := putFN X1 hx hZ hown (hw _ (List.mem_of_getElem? (i := 39) rfl)) Via.refl e1 F_lowerUnit E_a (Or.inl (hw _ (List.mem_of_getElem? (i := 40) rfl))) (hw _ (List.mem_of_getElem? (i := 33) rfl)) (ty := .boolean) (v' := (.int (1 : Int32))) (by decide) rfl rfl (g := (mkF m 6 #[.val (.ref a)] [(.int (1 : Int32)), (.ref a)])) rfl rfl (hb hby d6_6)
  have Fw2 := F_lowerUnit.same W2
  have O2 := O0.wr W2 g_a
  have N2 := Fr.snoc X2 N0 g_a
  have K2 := K0.wr W2 (Or.inl (List.mem_of_getElem? (i := 0) rfl))
  refine own_by st2 ?_
  show own_Go p e below s _ _ (T2.setTop (mkF m 9 #[.val (.ref a)] []))
  refine own_by (fun tz kz => XS.aloadN X2.here hx rfl (hb hby d6_9) rfl rfl kz) ?_
  show own_Go p e below s _ _ (T2.setTop (mkF m 10 #[.val (.ref a)] [(.ref a)]))
  refine own_by (fun tz kz => XS.iconst X2.here hx rfl (hb hby d6_10) kz) ?_
  show own_Go p e below s _ _ (T2.setTop (mkF m 11 #[.val (.ref a)] [(.int (1 : Int32)), (.ref a)]))
  have f3 := (F_upperUnit.other W2 (Or.inr (slot_ne (Or.inl (hw _ (List.mem_of_getElem? (i := 42) rfl))) (Or.inl (hw _ (List.mem_of_getElem? (i := 40) rfl))) (by decide) (t := .boolean) (t' := .boolean) (by decide) (by decide))))
  have f4 := (E_a.wr W2)
  obtain ⟨T5, h5, X5, e5, W5, st5⟩ := putFN X2 hx hZ hown (hw _ (List.mem_of_getElem? (i := 41) rfl)) Via.refl e2 f3 f4 (Or.inl (hw _ (List.mem_of_getElem? (i := 42) rfl))) (hw _ (List.mem_of_getElem? (i := 33) rfl)) (ty := .boolean) (v' := (.int (1 : Int32))) (by decide) rfl rfl (g := (mkF m 11 #[.val (.ref a)] [(.int (1 : Int32)), (.ref a)])) rfl rfl (hb hby d6_11)
  have Fw5 := f3.same W5
  have O5 := O2.wr W5 g_a
  have N5 := Fr.snoc X5 N2 g_a
  have K5 := K2.wr W5 (Or.inl (List.mem_of_getElem? (i := 0) rfl))
  refine own_by st5 ?_
  show own_Go p e below s _ _ (T5.setTop (mkF m 14 #[.val (.ref a)] []))
  have f6 := ((F_lower.other W2 (Or.inr (slot_ne (Or.inl (hw _ (List.mem_of_getElem? (i := 65) rfl))) (Or.inl (hw _ (List.mem_of_getElem? (i := 40) rfl))) (by decide) (t := .int) (t' := .boolean) (by decide) (by decide)))).other W5 (Or.inr (slot_ne (Or.inl (hw _ (List.mem_of_getElem? (i := 65) rfl))) (Or.inl (hw _ (List.mem_of_getElem? (i := 42) rfl))) (by decide) (t := .int) (t' := .boolean) (by decide) (by decide))))
  have f7 := ((F_upper.other W2 (Or.inr (slot_ne (Or.inl (hw _ (List.mem_of_getElem? (i := 76) rfl))) (Or.inl (hw _ (List.mem_of_getElem? (i := 40) rfl))) (by decide) (t := .int) (t' := .boolean) (by decide) (by decide)))).other W5 (Or.inr (slot_ne (Or.inl (hw _ (List.mem_of_getElem? (i := 76) rfl))) (Or.inl (hw _ (List.mem_of_getElem? (i := 42) rfl))) (by decide) (t := .int) (t' := .boolean) (by decide) (by decide))))
  have f8 := (Fw2.other W5 (Or.inr (slot_ne (Or.inl (hw _ (List.mem_of_getElem? (i := 40) rfl))) (Or.inl (hw _ (List.mem_of_getElem? (i := 42) rfl))) (by decide) (t := .boolean) (t' := .boolean) (by decide) (by decide))))
  refine own_retV X5 hx hlk hret (hb hby d6_14) ?_ (by decide) (by decide)
  exact ⟨rfl, N5, by rw [e5]; exact K5, by rw [e5]; exact f6, by rw [e5]; exact f7, by rw [e5]; exact f8, by rw [e5]; exact Fw5⟩
def Q_rm_add (Z : State) (a b one om : Addr) (ko : ClassId) (sg un l0 u0 lu uu l1 u1 lu1 uu1 : Int32) (h0 : Heap) (n0 : Nat) (v : Option Value) (h : Heap) (L : List Loc) : Prop := v = none ∧ Fr n0 L ∧ Keep h0 h [a] ∧ Fld Z h a "com/example/liftwise/liftwise/eval/arithmetic/Solver$Sides" "lower" "I" (.int l1) ∧ Fld Z h a "com/example/liftwise/liftwise/eval/arithmetic/Solver$Sides" "upper" "I" (.int u1) ∧ Fld Z h a "com/example/liftwise/liftwise/eval/arithmetic/Solver$Sides" "lowerUnit" "Z" (.int lu1) ∧ Fld Z h a "com/example/liftwise/liftwise/eval/arithmetic/Solver$Sides" "upperUnit" "Z" (.int uu1)
set_option maxRecDepth 65536 in
set_option maxHeartbeats 40000000 in
theorem rm_add (l : Launch) (Z : State) (a0 : Array Value) (hw : ∀ d ∈ tables_1, d.before a0 Z = true) (ws : List Jvm.Cond) (a b one om : Addr) (ko : ClassId) (sg un l0 u0 lu uu l1 u1 lu1 uu1 : Int32) (h0 : Heap) (n0 : Nat) (O0 : Old Z n0 h0) (S_ONE : Sta Z Z.heap "java/math/BigInteger" "ONE" "Ljava/math/BigInteger;" (.ref one)) (E_one : Exa Z Z.heap one "java/math/BigInteger") (Fs_one : Fld Z Z.heap one "java/math/BigInteger" "signum" "I" (.int (1 : Int32))) (Fm_one : Fld Z Z.heap one "java/math/BigInteger" "mag" "[I" (.ref om)) (V_one : Arv Z Z.heap om ko .int (1 : Int32) [.int (1 : Int32)] (.int (0 : Int32))) (E_a : Exa Z h0 a "com/example/liftwise/liftwise/eval/arithmetic/Solver$Sides") (F_lower : Fld Z h0 a "com/example/liftwise/liftwise/eval/arithmetic/Solver$Sides" "lower" "I" (.int l0)) (F_upper : Fld Z h0 a "com/example/liftwise/liftwise/eval/arithmetic/Solver$Sides" "upper" "I" (.int u0)) (F_lowerUnit : Fld Z h0 a "com/example/liftwise/liftwise/eval/arithmetic/Solver$Sides" "lowerUnit" "Z" (.int lu)) (F_upperUnit : Fld Z h0 a "com/example/liftwise/liftwise/eval/arithmetic/Solver$Sides" "upperUnit" "Z" (.int uu)) (g_a : n0 ≤ a) (B_b : own_Big Z h0 b sg un) (hsg : sg = (1 : Int32) ∨ sg = (-1 : Int32)) (hun : un = (0 : Int32) ∨ un = (1 : Int32)) (hlu : lu = (0 : Int32) ∨ lu = (1 : Int32)) (huu : uu = (0 : Int32) ∨ uu = (1 : Int32)) (hl1 : l1 = if (0 : Int32) < sg then l0 + (1 : Int32) else l0) (hu1 : u1 = if (0 : Int32) < sg then u0 else u0 + (1 : Int32)) (hl2 : lu1 = if (0 : Int32) < sg then (lu &&& un) else lu) (hu2 : uu1 = if (0 : Int32) < sg then uu else (uu &&& un)) :
    MetFree l (⟨"com/example/liftwise/liftwise/eval/arithmetic/Solver$Sides", "add", "(Ljava/math/BigInteger;)V"⟩ : MethodName) (head1 (Jvm.Cond.code (⟨"com/example/liftwise/liftwise/eval/arithmetic/Solver$Sides", "add", "(Ljava/math/BigInteger;)V"⟩ : MethodName) prog_74_method_2_code 3 none :: ws) ({ frames := 5, cells := 1, slots := 6, locals := 70 } : Room)) (fun ar U => ar = #[(.ref a), (.ref b)] ∧ Z.Warmed39 U.vm ∧ U.heap = h0) (fun _ _ _ _ _ => True) (fun _ U o U' => ∃ v L, o = .returned v ∧ Q_rm_add Z a b one om ko sg un l0 u0 lu uu l1 u1 lu1 uu1 h0 n0 v U'.heap L ∧ FrameEnd U o U' L ({ frames := 5, cells := 1, slots := 6, locals := 70 } : Room).cells ({ frames := 5, cells := 1, slots := 6, locals := 70 } : Room).slots) := by
  refine own_enter (Q := (Q_rm_add Z a b one om ko sg un l0 u0 lu uu l1 u1 lu1 uu1 h0 n0)) pl_7 ?_
  intro p e s m below meth c s₁ X0 hx hZ hby hml hown hnm hret hlk e0
  have N0 := Fr.nil n0
  refine own_by (fun tz kz => castTop (g' := (mkF m 0 #[.val (.ref a), .val (.ref b), .unset] [])) (by first | (simp [entryFrame, mkF, argsToLocals, Value.category]; done) | rfl) kz) ?_
  have K0 := Keep.refl h0 [a]
  have B_b' := B_b
  obtain ⟨mb, kb, nb, vb, E_b, Fs_b, -, -, Mb⟩ := B_b'
  show own_Go p e below s _ _ (s₁.setTop (mkF m 0 #[.val (.ref a), .val (.ref b), .unset] []))
  refine own_by (fun tz kz => XS.aloadN X0.here hx rfl (hb hby d7_0) rfl rfl kz) ?_
  show own_Go p e below s _ _ (s₁.setTop (mkF m 1 #[.val (.ref a), .val (.ref b), .unset] [(.ref b)]))
  obtain ⟨cq1, kq1, q1a, q1b, q1c⟩ := isOf hZ e0 E_b
  obtain ⟨_, _, ⟨T1, L1, k1, n1⟩, -, X1, ⟨Lc1, hQ1, l1, y1, z1⟩, st1⟩ := X0.virtualBack hx (y := (⟨"java/math/BigInteger", "abs", "()Ljava/math/BigInteger;"⟩ : MethodName)) (z := (⟨"java/math/BigInteger", "abs", "()Ljava/math/BigInteger;"⟩ : MethodName)) hown (mvT hZ (hw _ (List.mem_of_getElem? (i := 48) rfl))) (mvT hZ (hw _ (List.mem_of_getElem? (i := 49) rfl))) (notFace_of_selects (args := #[]) (mvT hZ (hw _ (List.mem_of_getElem? (i := 51) rfl)))) (mvT hZ (hw _ (List.mem_of_getElem? (i := 51) rfl))) (mvT hZ (hw _ (List.mem_of_getElem? (i := 50) rfl))) (by decide) (backOf (W := 0) (rm_abs l Z a0 hw [] b sg un h0 n0 O0 B_b hsg) hZ (hw _ (List.mem_of_getElem? (i := 52) rfl)) (hw _ (List.mem_of_getElem? (i := 7) rfl)) (by decide) (by decide)) q1a q1c (g := (mkF m 1 #[.val (.ref a), .val (.ref b), .unset] [(.ref b)])) rfl (by rw [hml]; rfl) (Steps.refl _) (argsL := []) (rest := []) (lenOf pd_5 rfl) rfl (by show 2 * 0 + _ ≤ _; exact Nat.le_of_eq rfl) (hb hby d7_1) (fun _ _ => ⟨rfl, e0, (by decide : 0 + 1 ≤ _), (by decide : 0 + 6 ≤ _)⟩)
  dsimp only [Pt.U, Pt.locs, Pt.cells, Pt.slots] at X1 l1 y1 z1 st1 hQ1
  rw [l1, y1, z1] at X1
  obtain ⟨c1, rfl, Nq1, Kq1, Bq1⟩ := hQ1
  have N1 := Fr.app N0 Nq1
  have e1 : T1.heap = T1.heap := rfl
  refine own_via st1 ?_
  have O1 := O0.keep Kq1 all0
  have K1 := K0.trans Kq1 all0
  have Ec1 := (Bq1).elim fun _ h => h.elim fun _ h => h.elim fun _ h => h.elim fun _ h => h.1
  show own_Go p e below s _ _ (T1.setTop (mkF m 4 #[.val (.ref a), .val (.ref b), .unset] [(.ref c1)]))
  obtain ⟨T2, X2, e2, st2⟩ := getS2 X1 hx hZ hown (host := "") (Or.inl (hw _ (List.mem_of_getElem? (i := 53) rfl))) Via.refl e1 (S_ONE.ext O1.2) (g := (mkF m 4 #[.val (.ref a), .val (.ref b), .unset] [(.ref c1)])) rfl (hb hby d7_4)
  refine own_by st2 ?_
  show own_Go p e below s _ _ (T2.setTop (mkF m 7 #[.val (.ref a), .val (.ref b), .unset] [(.ref one), (.ref c1)]))
  obtain ⟨cq3, kq3, q3a, q3b, q3c⟩ := isOf hZ e2 Ec1
  obtain ⟨_, _, ⟨T3, L3, k3, n3⟩, -, X3, ⟨Lc3, hQ3, l3, y3, z3⟩, st3⟩ := X2.virtualBack hx (y := (⟨"java/math/BigInteger", "equals", "(Ljava/lang/Object;)Z"⟩ : MethodName)) (z := (⟨"java/math/BigInteger", "equals", "(Ljava/lang/Object;)Z"⟩ : MethodName)) hown (mvT hZ (hw _ (List.mem_of_getElem? (i := 54) rfl))) (mvT hZ (hw _ (List.mem_of_getElem? (i := 55) rfl))) (notFace_of_selects (args := #[]) (mvT hZ (hw _ (List.mem_of_getElem? (i := 57) rfl)))) (mvT hZ (hw _ (List.mem_of_getElem? (i := 57) rfl))) (mvT hZ (hw _ (List.mem_of_getElem? (i := 56) rfl))) (by decide) (backOf (W := 0) (rm_eqOne l Z a0 hw [] c1 one om ko un T1.heap n0 O1 S_ONE E_one Fs_one Fm_one V_one Bq1) hZ (hw _ (List.mem_of_getElem? (i := 58) rfl)) (hw _ (List.mem_of_getElem? (i := 7) rfl)) (by decide) (by decide)) q3a q3c (g := (mkF m 7 #[.val (.ref a), .val (.ref b), .unset] [(.ref one), (.ref c1)])) rfl (by rw [hml]; rfl) (Steps.refl _) (argsL := [(.ref one)]) (rest := []) (lenOf pd_6 rfl) rfl (by show 2 * 0 + _ ≤ _; exact Nat.le_of_eq rfl) (hb hby d7_7) (fun _ _ => ⟨rfl, e2, (by decide : (0 + 1) + 0 ≤ _), (by decide : (0 + 6) + 0 ≤ _)⟩)
  dsimp only [Pt.U, Pt.locs, Pt.cells, Pt.slots] at X3 l3 y3 z3 st3 hQ3
  rw [l3, y3, z3] at X3
  obtain ⟨rfl, Nq3, e3⟩ := hQ3
  have N3 := Fr.app N1 Nq3
  refine own_via st3 ?_
  show own_Go p e below s _ _ (T3.setTop (mkF m 10 #[.val (.ref a), .val (.ref b), .unset] [(.int un)]))
  refine own_by (fun tz kz => XS.istoreN X3.here hx rfl (hb hby d7_10) rfl (l' := #[.val (.ref a), .val (.ref b), .val (.int un)]) rfl kz) ?_
  show own_Go p e below s _ _ (T3.setTop (mkF m 11 #[.val (.ref a), .val (.ref b), .val (.int un)] []))
  refine own_by (fun tz kz => XS.aloadN X3.here hx rfl (hb hby d7_11) rfl rfl kz) ?_
  show own_Go p e below s _ _ (T3.setTop (mkF m 12 #[.val (.ref a), .val (.ref b), .val (.int un)] [(.ref b)]))
  have f4 := (Fs_b.keep Kq1 nin0)
  have f5 := (E_b.keep Kq1)
  obtain ⟨cq6, kq6, q6a, q6b, q6c⟩ := isOf hZ e3 f5
  obtain ⟨_, _, ⟨T6, L6, k6, n6⟩, -, X6, ⟨Lc6, hQ6, l6, y6, z6⟩, st6⟩ := X3.virtualBack hx (y := (⟨"java/math/BigInteger", "signum", "()I"⟩ : MethodName)) (z := (⟨"java/math/BigInteger", "signum", "()I"⟩ : MethodName)) hown (mvT hZ (hw _ (List.mem_of_getElem? (i := 59) rfl))) (mvT hZ (hw _ (List.mem_of_getElem? (i := 60) rfl))) (notFace_of_selects (args := #[]) (mvT hZ (hw _ (List.mem_of_getElem? (i := 62) rfl)))) (mvT hZ (hw _ (List.mem_of_getElem? (i := 62) rfl))) (mvT hZ (hw _ (List.mem_of_getElem? (i := 61) rfl))) (by decide) (backOf (W := 0) (rm_signum l Z a0 hw [] b sg T1.heap n0 f4) hZ (hw _ (List.mem_of_getElem? (i := 63) rfl)) (hw _ (List.mem_of_getElem? (i := 7) rfl)) (by decide) (by decide)) q6a q6c (g := (mkF m 12 #[.val (.ref a), .val (.ref b), .val (.int un)] [(.ref b)])) rfl (by rw [hml]; rfl) (Steps.refl _) (argsL := []) (rest := []) (lenOf pd_7 rfl) rfl (by show 2 * 0 + _ ≤ _; exact Nat.le_of_eq rfl) (hb hby d7_12) (fun _ _ => ⟨rfl, e3, (by decide : (0 + 1) + 0 ≤ _), (by decide : (0 + 6) + 0 ≤ _)⟩)
  dsimp only [Pt.U, Pt.locs, Pt.cells, Pt.slots] at X6 l6 y6 z6 st6 hQ6
  rw [l6, y6, z6] at X6
  obtain ⟨rfl, Nq6, e6⟩ := hQ6
  have N6 := Fr.app N3 Nq6
  refine own_via st6 ?_
  show own_Go p e below s _ _ (T6.setTop (mkF m 15 #[.val (.ref a), .val (.ref b), .val (.int un)] [(.int sg)]))
  by_cases hc15_7 : (0 : Int32) < sg
  · refine own_by (fun tz kz => XS.ifNo X6.here hx rfl (hb hby d7_15) rfl ((if0 _ _).trans (tlt hc15_7).2.2.2) kz) ?_
    show own_Go p e below s _ _ (T6.setTop (mkF m 18 #[.val (.ref a), .val (.ref b), .val (.int un)] []))
    refine own_by (fun tz kz => XS.aloadN X6.here hx rfl (hb hby d7_18) rfl rfl kz) ?_
    show own_Go p e below s _ _ (T6.setTop (mkF m 19 #[.val (.ref a), .val (.ref b), .val (.int un)] [(.ref a)]))
    refine own_by (fun tz kz => XS.dup X6.here hx rfl (hb hby d7_19) rfl rfl kz) ?_
    show own_Go p e below s _ _ (T6.setTop (mkF m 20 #[.val (.ref a), .val (.ref b), .val (.int un)] [(.ref a), (.ref a)]))
    have f8 := (F_lower.keep Kq1 nin0)
    obtain ⟨T9, X9, e9, st9⟩ := getF X6 hx hZ hown (host := "") (Or.inl (hw _ (List.mem_of_getElem? (i := 64) rfl))) Via.refl e6 f8 (g := (mkF m 20 #[.val (.ref a), .val (.ref b), .val (.int un)] [(.ref a), (.ref a)])) rfl rfl (hb hby d7_20)
    refine own_by st9 ?_
    show own_Go p e below s _ _ (T9.setTop (mkF m 23 #[.val (.ref a), .val (.ref b), .val (.int un)] [(.int l0), (.ref a)]))
    refine own_by (fun tz kz => XS.iconst X9.here hx rfl (hb hby d7_23) kz) ?_
    show own_Go p e below s _ _ (T9.setTop (mkF m 24 #[.val (.ref a), .val (.ref b), .val (.int un)] [(.int (1 : Int32)), (.int l0), (.ref a)]))
    refine own_by (fun tz kz => XS.iadd X9.here hx rfl (hb hby d7_24) rfl kz) ?_
    show own_Go p e below s _ _ (T9.setTop (mkF m 25 #[.val (.ref a), .val (.ref b), .val (.int un)] [(.int (l0 + (1 : Int32))), (.ref a)]))
    have f10 := (E_a.keep Kq1)
    obtain ⟨T11, h11, X11, e11, W11, st11⟩ := putF X9 hx hZ hown (host := "") (Or.inl (hw _ (List.mem_of_getElem? (i := 64) rfl))) Via.refl e9 f8 f10 (Or.inl (hw _ (List.mem_of_getElem? (i := 65) rfl))) (hw _ (List.mem_of_getElem? (i := 33) rfl)) (ty := .int) (by decide) rfl rfl (g := (mkF m 25 #[.val (.ref a), .val (.ref b), .val (.int un)] [(.int (l0 + (1 : Int32))), (.ref a)])) rfl rfl (hb hby d7_25)
    have Fw11 := f8.same W11
    have O11 := O1.wr W11 g_a
    have N11 := Fr.snoc X11 N6 g_a
    have K11 := K1.wr W11 (Or.inl (List.mem_of_getElem? (i := 0) rfl))
    refine own_by st11 ?_
    show own_Go p e below s _ _ (T11.setTop (mkF m 28 #[.val (.ref a), .val (.ref b), .val (.int un)] []))
    refine own_by (fun tz kz => XS.aloadN X11.here hx rfl (hb hby d7_28) rfl rfl kz) ?_
    show own_Go p e below s _ _ (T11.setTop (mkF m 29 #[.val (.ref a), .val (.ref b), .val (.int un)] [(.ref a)]))
    refine own_by (fun tz kz => XS.dup X11.here hx rfl (hb hby d7_29) rfl rfl kz) ?_
    show own_Go p e below s _ _ (T11.setTop (mkF m 30 #[.val (.ref a), .val (.ref b), .val (.int un)] [(.ref a), (.ref a)]))
    have f12 := ((F_lowerUnit.keep Kq1 nin0).other W11 (Or.inr (slot_ne (Or.inl (hw _ (List.mem_of_getElem? (i := 40) rfl))) (Or.inl (hw _ (List.mem_of_getElem? (i := 65) rfl))) (by decide) (t := .boolean) (t' := .int) (by decide) (by decide))))
    obtain ⟨T13, X13, e13, st13⟩ := getF X11 hx hZ hown (host := "") (Or.inl (hw _ (List.mem_of_getElem? (i := 39) rfl))) Via.refl e11 f12 (g := (mkF m 30 #[.val (.ref a), .val (.ref b), .val (.int un)] [(.ref a), (.ref a)])) rfl rfl (hb hby d7_30)
    refine own_by st13 ?_
    show own_Go p e below s _ _ (T13.setTop (mkF m 33 #[.val (.ref a), .val (.ref b), .val (.int un)] [(.int lu), (.ref a)]))
    refine own_by (fun tz kz => XS.iloadN X13.here hx rfl (hb hby d7_33) rfl  kz) ?_
    show own_Go p e below s _ _ (T13.setTop (mkF m 34 #[.val (.ref a), .val (.ref b), .val (.int un)] [(.int un), (.int lu), (.ref a)]))
    refine own_by (fun tz kz => XS.iand X13.here hx rfl (hb hby d7_34) rfl kz) ?_
    show own_Go p e below s _ _ (T13.setTop (mkF m 35 #[.val (.ref a), .val (.ref b), .val (.int un)] [(.int (lu &&& un)), (.ref a)]))
    have f14 := (f10.wr W11)
    obtain ⟨T15, h15, X15, e15, W15, st15⟩ := putFN X13 hx hZ hown (hw _ (List.mem_of_getElem? (i := 39) rfl)) Via.refl e13 f12 f14 (Or.inl (hw _ (List.mem_of_getElem? (i := 40) rfl))) (hw _ (List.mem_of_getElem? (i := 33) rfl)) (ty := .boolean) (v' := (.int (lu &&& un))) (by decide) (own_and01 hlu hun).1 (own_and01 hlu hun).2.1 (g := (mkF m 35 #[.val (.ref a), .val (.ref b), .val (.int un)] [(.int (lu &&& un)), (.ref a)])) rfl rfl (hb hby d7_35)
    have Fw15 := f12.same W15
    have O15 := O11.wr W15 g_a
    have N15 := Fr.snoc X15 N11 g_a
    have K15 := K11.wr W15 (Or.inl (List.mem_of_getElem? (i := 0) rfl))
    refine own_by st15 ?_
    show own_Go p e below s _ _ (T15.setTop (mkF m 38 #[.val (.ref a), .val (.ref b), .val (.int un)] []))
    refine own_by (fun tz kz => XS.goto X15.here hx rfl (pc0 := 38) (pc' := 61) rfl (hb hby d7_38) (by decide) (by decide) kz) ?_
    show own_Go p e below s _ _ (T15.setTop (mkF m 61 #[.val (.ref a), .val (.ref b), .val (.int un)] []))
    have f16 := (Fw11.other W15 (Or.inr (slot_ne (Or.inl (hw _ (List.mem_of_getElem? (i := 65) rfl))) (Or.inl (hw _ (List.mem_of_getElem? (i := 40) rfl))) (by decide) (t := .int) (t' := .boolean) (by decide) (by decide))))
    have f17 := (((F_upper.keep Kq1 nin0).other W11 (Or.inr (slot_ne (Or.inl (hw _ (List.mem_of_getElem? (i := 76) rfl))) (Or.inl (hw _ (List.mem_of_getElem? (i := 65) rfl))) (by decide) (t := .int) (t' := .int) (by decide) (by decide)))).other W15 (Or.inr (slot_ne (Or.inl (hw _ (List.mem_of_getElem? (i := 76) rfl))) (Or.inl (hw _ (List.mem_of_getElem? (i := 40) rfl))) (by decide) (t := .int) (t' := .boolean) (by decide) (by decide))))
    have f18 := (((F_upperUnit.keep Kq1 nin0).other W11 (Or.inr (slot_ne (Or.inl (hw _ (List.mem_of_getElem? (i := 42) rfl))) (Or.inl (hw _ (List.mem_of_getElem? (i := 65) rfl))) (by decide) (t := .boolean) (t' := .int) (by decide) (by decide)))).other W15 (Or.inr (slot_ne (Or.inl (hw _ (List.mem_of_getElem? (i := 42) rfl))) (Or.inl (hw _ (List.mem_of_getElem? (i := 40) rfl))) (by decide) (t := .boolean) (t' := .boolean) (by decide) (by decide))))
    refine own_retV X15 hx hlk hret (hb hby d7_61) ?_ (by decide) (by decide)
    exact ⟨rfl, N15, by rw [e15]; exact K15, by rw [e15, hl1.trans (if_pos hc15_7)]; exact f16, by rw [e15, hu1.trans (if_pos hc15_7)]; exact f17, by rw [e15, hl2.trans (if_pos hc15_7)]; exact Fw15, by rw [e15, hu2.trans (if_pos hc15_7)]; exact f18⟩
  · refine own_by (fun tz kz => XS.ifYes X6.here hx rfl (pc0 := 15) (pc' := 41) rfl (hb hby d7_15) rfl ((if0 _ _).trans (flt hc15_7).2.2.2) (by decide) (by decide) kz) ?_
    show own_Go p e below s _ _ (T6.setTop (mkF m 41 #[.val (.ref a), .val (.ref b), .val (.int un)] []))
    refine own_by (fun tz kz => XS.aloadN X6.here hx rfl (hb hby d7_41) rfl rfl kz) ?_
    show own_Go p e below s _ _ (T6.setTop (mkF m 42 #[.val (.ref a), .val (.ref b), .val (.int un)] [(.ref a)]))
    refine own_by (fun tz kz => XS.dup X6.here hx rfl (hb hby d7_42) rfl rfl kz) ?_
    show own_Go p e below s _ _ (T6.setTop (mkF m 43 #[.val (.ref a), .val (.ref b), .val (.int un)] [(.ref a), (.ref a)]))
    have f19 := (F_upper.keep Kq1 nin0)
    obtain ⟨T20, X20, e20, st20⟩ := getF X6 hx hZ hown (host := "") (Or.inl (hw _ (List.mem_of_getElem? (i := 75) rfl))) Via.refl e6 f19 (g := (mkF m 43 #[.val (.ref a), .val (.ref b), .val (.int un)] [(.ref a), (.ref a)])) rfl rfl (hb hby d7_43)
    refine own_by st20 ?_
    show own_Go p e below s _ _ (T20.setTop (mkF m 46 #[.val (.ref a), .val (.ref b), .val (.int un)] [(.int u0), (.ref a)]))
    refine own_by (fun tz kz => XS.iconst X20.here hx rfl (hb hby d7_46) kz) ?_
    show own_Go p e below s _ _ (T20.setTop (mkF m 47 #[.val (.ref a), .val (.ref b), .val (.int un)] [(.int (1 : Int32)), (.int u0), (.ref a)]))
    refine own_by (fun tz kz => XS.iadd X20.here hx rfl (hb hby d7_47) rfl kz) ?_
    show own_Go p e below s _ _ (T20.setTop (mkF m 48 #[.val (.ref a), .val (.ref b), .val (.int un)] [(.int (u0 + (1 : Int32))), (.ref a)]))
    have f21 := (E_a.keep Kq1)
    obtain ⟨T22, h22, X22, e22, W22, st22⟩ := putF X20 hx hZ hown (host := "") (Or.inl (hw _ (List.mem_of_getElem? (i := 75) rfl))) Via.refl e20 f19 f21 (Or.inl (hw _ (List.mem_of_getElem? (i := 76) rfl))) (hw _ (List.mem_of_getElem? (i := 33) rfl)) (ty := .int) (by decide) rfl rfl (g := (mkF m 48 #[.val (.ref a), .val (.ref b), .val (.int un)] [(.int (u0 + (1 : Int32))), (.ref a)])) rfl rfl (hb hby d7_48)
    have Fw22 := f19.same W22
    have O22 := O1.wr W22 g_a
    have N22 := Fr.snoc X22 N6 g_a
    have K22 := K1.wr W22 (Or.inl (List.mem_of_getElem? (i := 0) rfl))
    refine own_by st22 ?_
    show own_Go p e below s _ _ (T22.setTop (mkF m 51 #[.val (.ref a), .val (.ref b), .val (.int un)] []))
    refine own_by (fun tz kz => XS.aloadN X22.here hx rfl (hb hby d7_51) rfl rfl kz) ?_
    show own_Go p e below s _ _ (T22.setTop (mkF m 52 #[.val (.ref a), .val (.ref b), .val (.int un)] [(.ref a)]))
    refine own_by (fun tz kz => XS.dup X22.here hx rfl (hb hby d7_52) rfl rfl kz) ?_
    show own_Go p e below s _ _ (T22.setTop (mkF m 53 #[.val (.ref a), .val (.ref b), .val (.int un)] [(.ref a), (.ref a)]))
    have f23 := ((F_upperUnit.keep Kq1 nin0).other W22 (Or.inr (slot_ne (Or.inl (hw _ (List.mem_of_getElem? (i := 42) rfl))) (Or.inl (hw _ (List.mem_of_getElem? (i := 76) rfl))) (by decide) (t := .boolean) (t' := .int) (by decide) (by decide))))
    obtain ⟨T24, X24, e24, st24⟩ := getF X22 hx hZ hown (host := "") (Or.inl (hw _ (List.mem_of_getElem? (i := 41) rfl))) Via.refl e22 f23 (g := (mkF m 53 #[.val (.ref a), .val (.ref b), .val (.int un)] [(.ref a), (.ref a)])) rfl rfl (hb hby d7_53)
    refine own_by st24 ?_
    show own_Go p e below s _ _ (T24.setTop (mkF m 56 #[.val (.ref a), .val (.ref b), .val (.int un)] [(.int uu), (.ref a)]))
    refine own_by (fun tz kz => XS.iloadN X24.here hx rfl (hb hby d7_56) rfl  kz) ?_
    show own_Go p e below s _ _ (T24.setTop (mkF m 57 #[.val (.ref a), .val (.ref b), .val (.int un)] [(.int un), (.int uu), (.ref a)]))
    refine own_by (fun tz kz => XS.iand X24.here hx rfl (hb hby d7_57) rfl kz) ?_
    show own_Go p e below s _ _ (T24.setTop (mkF m 58 #[.val (.ref a), .val (.ref b), .val (.int un)] [(.int (uu &&& un)), (.ref a)]))
    have f25 := (f21.wr W22)
    obtain ⟨T26, h26, X26, e26, W26, st26⟩ := putFN X24 hx hZ hown (hw _ (List.mem_of_getElem? (i := 41) rfl)) Via.refl e24 f23 f25 (Or.inl (hw _ (List.mem_of_getElem? (i := 42) rfl))) (hw _ (List.mem_of_getElem? (i := 33) rfl)) (ty := .boolean) (v' := (.int (uu &&& un))) (by decide) (own_and01 huu hun).1 (own_and01 huu hun).2.1 (g := (mkF m 58 #[.val (.ref a), .val (.ref b), .val (.int un)] [(.int (uu &&& un)), (.ref a)])) rfl rfl (hb hby d7_58)
    have Fw26 := f23.same W26
    have O26 := O22.wr W26 g_a
    have N26 := Fr.snoc X26 N22 g_a
    have K26 := K22.wr W26 (Or.inl (List.mem_of_getElem? (i := 0) rfl))
    refine own_by st26 ?_
    show own_Go p e below s _ _ (T26.setTop (mkF m 61 #[.val (.ref a), .val (.ref b), .val (.int un)] []))
    have f27 := (((F_lower.keep Kq1 nin0).other W22 (Or.inr (slot_ne (Or.inl (hw _ (List.mem_of_getElem? (i := 65) rfl))) (Or.inl (hw _ (List.mem_of_getElem? (i := 76) rfl))) (by decide) (t := .int) (t' := .int) (by decide) (by decide)))).other W26 (Or.inr (slot_ne (Or.inl (hw _ (List.mem_of_getElem? (i := 65) rfl))) (Or.inl (hw _ (List.mem_of_getElem? (i := 42) rfl))) (by decide) (t := .int) (t' := .boolean) (by decide) (by decide))))
    have f28 := (Fw22.other W26 (Or.inr (slot_ne (Or.inl (hw _ (List.mem_of_getElem? (i := 76) rfl))) (Or.inl (hw _ (List.mem_of_getElem? (i := 42) rfl))) (by decide) (t := .int) (t' := .boolean) (by decide) (by decide))))
    have f29 := (((F_lowerUnit.keep Kq1 nin0).other W22 (Or.inr (slot_ne (Or.inl (hw _ (List.mem_of_getElem? (i := 40) rfl))) (Or.inl (hw _ (List.mem_of_getElem? (i := 76) rfl))) (by decide) (t := .boolean) (t' := .int) (by decide) (by decide)))).other W26 (Or.inr (slot_ne (Or.inl (hw _ (List.mem_of_getElem? (i := 40) rfl))) (Or.inl (hw _ (List.mem_of_getElem? (i := 42) rfl))) (by decide) (t := .boolean) (t' := .boolean) (by decide) (by decide))))
    refine own_retV X26 hx hlk hret (hb hby d7_61) ?_ (by decide) (by decide)
    exact ⟨rfl, N26, by rw [e26]; exact K26, by rw [e26, hl1.trans (if_neg hc15_7)]; exact f27, by rw [e26, hu1.trans (if_neg hc15_7)]; exact f28, by rw [e26, hl2.trans (if_neg hc15_7)]; exact f29, by rw [e26, hu2.trans (if_neg hc15_7)]; exact Fw26⟩
def own_nz (c : Int64) : Int64 := if c = (0 : Int64) then (1 : Int64) else c
theorem own_nz_ne (c : Int64) : ¬ own_nz c = (0 : Int64) := by
  unfold own_nz
  by_cases h : c = (0 : Int64)
  · rw [if_pos h]; decide
  · rw [if_neg h]; exact h
def own_up (x : Int64) (l : Int32) : Int32 := if (0 : Int32) < own_sg x then l + (1 : Int32) else l
def own_dn (x : Int64) (u : Int32) : Int32 := if (0 : Int32) < own_sg x then u else u + (1 : Int32)
def own_lu (x : Int64) (l : Int32) : Int32 := if (0 : Int32) < own_sg x then (l &&& own_un x) else l
def own_uu (x : Int64) (u : Int32) : Int32 := if (0 : Int32) < own_sg x then u else (u &&& own_un x)
theorem own_lu_or (x : Int64) {l : Int32} (h : l = (0 : Int32) ∨ l = (1 : Int32)) : own_lu x l = (0 : Int32) ∨ own_lu x l = (1 : Int32) := by
  unfold own_lu
  by_cases q : (0 : Int32) < own_sg x
  · rw [if_pos q]; exact (own_and01 h (own_un_or x)).2.2
  · rw [if_neg q]; exact h
theorem own_uu_or (x : Int64) {l : Int32} (h : l = (0 : Int32) ∨ l = (1 : Int32)) : own_uu x l = (0 : Int32) ∨ own_uu x l = (1 : Int32) := by
  unfold own_uu
  by_cases q : (0 : Int32) < own_sg x
  · rw [if_pos q]; exact h
  · rw [if_neg q]; exact (own_and01 h (own_un_or x)).2.2
def own_ps (z : Int32) (a : Int64) : Int32 := if z = (0 : Int32) then (0 : Int32) else if (0 : Int64) < a then (1 : Int32) else (0 : Int32)
theorem own_ps0 (a : Int64) : own_ps (0 : Int32) a = (0 : Int32) := rfl
theorem own_two (x : Int64) : ((∀ l, own_up x l = l + (1 : Int32)) ∧ (∀ u, own_dn x u = u) ∧ own_ps (1 : Int32) x = (1 : Int32)) ∨ ((∀ l, own_up x l = l) ∧ (∀ u, own_dn x u = u + (1 : Int32)) ∧ own_ps (1 : Int32) x = (0 : Int32)) := by
  by_cases h : (0 : Int64) < x
  · have e : own_sg x = (1 : Int32) := if_pos h
    refine Or.inl ⟨fun l => ?_, fun u => ?_, ?_⟩
    · unfold own_up; rw [e]; exact if_pos (by decide)
    · unfold own_dn; rw [e]; exact if_pos (by decide)
    · exact (if_neg (by decide)).trans (if_pos h)
  · have e : own_sg x = (-1 : Int32) := if_neg h
    refine Or.inr ⟨fun l => ?_, fun u => ?_, ?_⟩
    · unfold own_up; rw [e]; exact if_neg (by decide)
    · unfold own_dn; rw [e]; exact if_neg (by decide)
    · exact (if_neg (by decide)).trans (if_neg h)
theorem own_rel0 (x0 x1 x2 x3 : Int64)  : ((0 : Int32) = (0 : Int32) ↔ ((((0 : Int32) + (0 : Int32)) + (0 : Int32)) + (0 : Int32)) = (0 : Int32)) ∧ ((0 : Int32) = (0 : Int32) ↔ ((0 : Int32) - ((((0 : Int32) + (0 : Int32)) + (0 : Int32)) + (0 : Int32))) = (0 : Int32)) := by
  decide
theorem own_rel1 (x0 x1 x2 x3 : Int64) {Q0 : Int32} (h0 : Q0 = own_ps (1 : Int32) x0) : ((own_up x0 (0 : Int32)) = (0 : Int32) ↔ (((Q0 + (0 : Int32)) + (0 : Int32)) + (0 : Int32)) = (0 : Int32)) ∧ ((own_dn x0 (0 : Int32)) = (0 : Int32) ↔ ((1 : Int32) - (((Q0 + (0 : Int32)) + (0 : Int32)) + (0 : Int32))) = (0 : Int32)) := by
  subst h0
  rcases own_two x0 with ⟨a0, b0, c0⟩ | ⟨a0, b0, c0⟩ <;> simp only [a0, b0, c0, own_ps0] <;> decide
theorem own_rel2 (x0 x1 x2 x3 : Int64) {Q0 : Int32} (h0 : Q0 = own_ps (1 : Int32) x0) {Q1 : Int32} (h1 : Q1 = own_ps (1 : Int32) x1) : ((own_up x1 (own_up x0 (0 : Int32))) = (0 : Int32) ↔ (((Q0 + Q1) + (0 : Int32)) + (0 : Int32)) = (0 : Int32)) ∧ ((own_dn x1 (own_dn x0 (0 : Int32))) = (0 : Int32) ↔ ((2 : Int32) - (((Q0 + Q1) + (0 : Int32)) + (0 : Int32))) = (0 : Int32)) := by
  subst h0
  subst h1
  rcases own_two x0 with ⟨a0, b0, c0⟩ | ⟨a0, b0, c0⟩ <;> rcases own_two x1 with ⟨a1, b1, c1⟩ | ⟨a1, b1, c1⟩ <;> simp only [a0, b0, c0, a1, b1, c1, own_ps0] <;> decide
theorem own_rel3 (x0 x1 x2 x3 : Int64) {Q0 : Int32} (h0 : Q0 = own_ps (1 : Int32) x0) {Q1 : Int32} (h1 : Q1 = own_ps (1 : Int32) x1) {Q2 : Int32} (h2 : Q2 = own_ps (1 : Int32) x2) : ((own_up x2 (own_up x1 (own_up x0 (0 : Int32)))) = (0 : Int32) ↔ (((Q0 + Q1) + Q2) + (0 : Int32)) = (0 : Int32)) ∧ ((own_dn x2 (own_dn x1 (own_dn x0 (0 : Int32)))) = (0 : Int32) ↔ ((3 : Int32) - (((Q0 + Q1) + Q2) + (0 : Int32))) = (0 : Int32)) := by
  subst h0
  subst h1
  subst h2
  rcases own_two x0 with ⟨a0, b0, c0⟩ | ⟨a0, b0, c0⟩ <;> rcases own_two x1 with ⟨a1, b1, c1⟩ | ⟨a1, b1, c1⟩ <;> rcases own_two x2 with ⟨a2, b2, c2⟩ | ⟨a2, b2, c2⟩ <;> simp only [a0, b0, c0, a1, b1, c1, a2, b2, c2, own_ps0] <;> decide
theorem own_rel4 (x0 x1 x2 x3 : Int64) {Q0 : Int32} (h0 : Q0 = own_ps (1 : Int32) x0) {Q1 : Int32} (h1 : Q1 = own_ps (1 : Int32) x1) {Q2 : Int32} (h2 : Q2 = own_ps (1 : Int32) x2) {Q3 : Int32} (h3 : Q3 = own_ps (1 : Int32) x3) : ((own_up x3 (own_up x2 (own_up x1 (own_up x0 (0 : Int32))))) = (0 : Int32) ↔ (((Q0 + Q1) + Q2) + Q3) = (0 : Int32)) ∧ ((own_dn x3 (own_dn x2 (own_dn x1 (own_dn x0 (0 : Int32))))) = (0 : Int32) ↔ ((4 : Int32) - (((Q0 + Q1) + Q2) + Q3)) = (0 : Int32)) := by
  subst h0
  subst h1
  subst h2
  subst h3
  rcases own_two x0 with ⟨a0, b0, c0⟩ | ⟨a0, b0, c0⟩ <;> rcases own_two x1 with ⟨a1, b1, c1⟩ | ⟨a1, b1, c1⟩ <;> rcases own_two x2 with ⟨a2, b2, c2⟩ | ⟨a2, b2, c2⟩ <;> rcases own_two x3 with ⟨a3, b3, c3⟩ | ⟨a3, b3, c3⟩ <;> simp only [a0, b0, c0, a1, b1, c1, a2, b2, c2, a3, b3, c3, own_ps0] <;> decide
def Q_rm_nz (Z : State) (cc r : Int64) (h0 : Heap) (n0 : Nat) (v : Option Value) (h : Heap) (L : List Loc) : Prop := v = some (.long r) ∧ Fr n0 L ∧ h = h0
set_option maxRecDepth 65536 in
set_option maxHeartbeats 40000000 in
theorem rm_nz (l : Launch) (Z : State) (a0 : Array Value) (hw : ∀ d ∈ tables_1, d.before a0 Z = true) (ws : List Jvm.Cond) (cc r : Int64) (h0 : Heap) (n0 : Nat) (hr : r = own_nz cc) :
    MetFree l (⟨"com/example/liftwise/liftwise/eval/arithmetic/SidesIsOneSidedPinLaw", "nonZero", "(J)J"⟩ : MethodName) (head1 (Jvm.Cond.code (⟨"com/example/liftwise/liftwise/eval/arithmetic/SidesIsOneSidedPinLaw", "nonZero", "(J)J"⟩ : MethodName) method_3_code 2 (some .long) :: ws) ({ frames := 0, cells := 0, slots := 0, locals := 0 } : Room)) (fun ar U => ar = #[(.long cc)] ∧ Z.Warmed39 U.vm ∧ U.heap = h0) (fun _ _ _ _ _ => True) (fun _ U o U' => ∃ v L, o = .returned v ∧ Q_rm_nz Z cc r h0 n0 v U'.heap L ∧ FrameEnd U o U' L ({ frames := 0, cells := 0, slots := 0, locals := 0 } : Room).cells ({ frames := 0, cells := 0, slots := 0, locals := 0 } : Room).slots) := by
  refine own_enter (Q := (Q_rm_nz Z cc r h0 n0)) pl_1 ?_
  intro p e s m below meth c s₁ X0 hx hZ hby hml hown hnm hret hlk e0
  have N0 := Fr.nil n0
  refine own_by (fun tz kz => castTop (g' := (mkF m 0 #[.val (.long cc), .second] [])) (by first | (simp [entryFrame, mkF, argsToLocals, Value.category]; done) | rfl) kz) ?_
  show own_Go p e below s _ _ (s₁.setTop (mkF m 0 #[.val (.long cc), .second] []))
  refine own_by (fun tz kz => XS.lloadN X0.here hx rfl (hb hby d1_0) rfl kz) ?_
  show own_Go p e below s _ _ (s₁.setTop (mkF m 1 #[.val (.long cc), .second] [(.long cc)]))
  refine own_by (fun tz kz => XS.lconst X0.here hx rfl (hb hby d1_1) kz) ?_
  show own_Go p e below s _ _ (s₁.setTop (mkF m 2 #[.val (.long cc), .second] [(.long (0 : Int64)), (.long cc)]))
  refine own_by (fun tz kz => XS.lcmp X0.here hx rfl (hb hby d1_2) rfl kz) ?_
  show own_Go p e below s _ _ (s₁.setTop (mkF m 3 #[.val (.long cc), .second] [(.int (lcmpW cc (0 : Int64)))]))
  by_cases hc3_1 : cc = (0 : Int64)
  · refine own_by (fun tz kz => XS.ifNo X0.here hx rfl (hb hby d1_3) rfl ((if0 _ _).trans (teq ((lw_eq cc (0 : Int64)).mpr hc3_1)).2) kz) ?_
    show own_Go p e below s _ _ (s₁.setTop (mkF m 6 #[.val (.long cc), .second] []))
    refine own_by (fun tz kz => XS.lconst X0.here hx rfl (hb hby d1_6) kz) ?_
    show own_Go p e below s _ _ (s₁.setTop (mkF m 7 #[.val (.long cc), .second] [(.long (1 : Int64))]))
    refine own_by (fun tz kz => XS.goto X0.here hx rfl (pc0 := 7) (pc' := 11) rfl (hb hby d1_7) (by decide) (by decide) kz) ?_
    show own_Go p e below s _ _ (s₁.setTop (mkF m 11 #[.val (.long cc), .second] [(.long (1 : Int64))]))
    refine own_retL X0 hx hlk hret (hb hby d1_11) ?_ (by decide) (by decide)
    exact ⟨by simp [hr, own_nz, hc3_1], N0, e0⟩
  · refine own_by (fun tz kz => XS.ifYes X0.here hx rfl (pc0 := 3) (pc' := 10) rfl (hb hby d1_3) rfl ((if0 _ _).trans (feq (fun q => hc3_1 ((lw_eq cc (0 : Int64)).mp q))).2) (by decide) (by decide) kz) ?_
    show own_Go p e below s _ _ (s₁.setTop (mkF m 10 #[.val (.long cc), .second] []))
    refine own_by (fun tz kz => XS.lloadN X0.here hx rfl (hb hby d1_10) rfl kz) ?_
    show own_Go p e below s _ _ (s₁.setTop (mkF m 11 #[.val (.long cc), .second] [(.long cc)]))
    refine own_retL X0 hx hlk hret (hb hby d1_11) ?_ (by decide) (by decide)
    exact ⟨by simp [hr, own_nz, hc3_1], N0, e0⟩
def Q_rm_ps (Z : State) (z : Int32) (a : Int64) (r : Int32) (h0 : Heap) (n0 : Nat) (v : Option Value) (h : Heap) (L : List Loc) : Prop := v = some (.int r) ∧ Fr n0 L ∧ h = h0
set_option maxRecDepth 65536 in
set_option maxHeartbeats 40000000 in
theorem rm_ps (l : Launch) (Z : State) (a0 : Array Value) (hw : ∀ d ∈ tables_1, d.before a0 Z = true) (ws : List Jvm.Cond) (z : Int32) (a : Int64) (r : Int32) (h0 : Heap) (n0 : Nat) (hr : r = own_ps z a) :
    MetFree l (⟨"com/example/liftwise/liftwise/eval/arithmetic/SidesIsOneSidedPinLaw", "positive", "(ZJ)I"⟩ : MethodName) (head1 (Jvm.Cond.code (⟨"com/example/liftwise/liftwise/eval/arithmetic/SidesIsOneSidedPinLaw", "positive", "(ZJ)I"⟩ : MethodName) method_4_code 3 (some .int) :: ws) ({ frames := 0, cells := 0, slots := 0, locals := 0 } : Room)) (fun ar U => ar = #[(.int z), (.long a)] ∧ Z.Warmed39 U.vm ∧ U.heap = h0) (fun _ _ _ _ _ => True) (fun _ U o U' => ∃ v L, o = .returned v ∧ Q_rm_ps Z z a r h0 n0 v U'.heap L ∧ FrameEnd U o U' L ({ frames := 0, cells := 0, slots := 0, locals := 0 } : Room).cells ({ frames := 0, cells := 0, slots := 0, locals := 0 } : Room).slots) := by
  refine own_enter (Q := (Q_rm_ps Z z a r h0 n0)) pl_13 ?_
  intro p e s m below meth c s₁ X0 hx hZ hby hml hown hnm hret hlk e0
  have N0 := Fr.nil n0
  refine own_by (fun tz kz => castTop (g' := (mkF m 0 #[.val (.int z), .val (.long a), .second] [])) (by first | (simp [entryFrame, mkF, argsToLocals, Value.category]; done) | rfl) kz) ?_
  show own_Go p e below s _ _ (s₁.setTop (mkF m 0 #[.val (.int z), .val (.long a), .second] []))
  refine own_by (fun tz kz => XS.iloadN X0.here hx rfl (hb hby d13_0) rfl  kz) ?_
  show own_Go p e below s _ _ (s₁.setTop (mkF m 1 #[.val (.int z), .val (.long a), .second] [(.int z)]))
  by_cases hc1_1 : z = (0 : Int32)
  · refine own_by (fun tz kz => XS.ifYes X0.here hx rfl (pc0 := 1) (pc' := 14) rfl (hb hby d13_1) rfl ((if0 _ _).trans (teq hc1_1).1) (by decide) (by decide) kz) ?_
    show own_Go p e below s _ _ (s₁.setTop (mkF m 14 #[.val (.int z), .val (.long a), .second] []))
    refine own_by (fun tz kz => XS.iconst X0.here hx rfl (hb hby d13_14) kz) ?_
    show own_Go p e below s _ _ (s₁.setTop (mkF m 15 #[.val (.int z), .val (.long a), .second] [(.int (0 : Int32))]))
    refine own_retI X0 hx hlk (t := .int) hret (by simp) rfl (hb hby d13_15) ?_ (by decide) (by decide)
    exact ⟨by simp [hr, own_ps, hc1_1], N0, e0⟩
  · refine own_by (fun tz kz => XS.ifNo X0.here hx rfl (hb hby d13_1) rfl ((if0 _ _).trans (feq hc1_1).1) kz) ?_
    show own_Go p e below s _ _ (s₁.setTop (mkF m 4 #[.val (.int z), .val (.long a), .second] []))
    refine own_by (fun tz kz => XS.lloadN X0.here hx rfl (hb hby d13_4) rfl kz) ?_
    show own_Go p e below s _ _ (s₁.setTop (mkF m 5 #[.val (.int z), .val (.long a), .second] [(.long a)]))
    refine own_by (fun tz kz => XS.lconst X0.here hx rfl (hb hby d13_5) kz) ?_
    show own_Go p e below s _ _ (s₁.setTop (mkF m 6 #[.val (.int z), .val (.long a), .second] [(.long (0 : Int64)), (.long a)]))
    refine own_by (fun tz kz => XS.lcmp X0.here hx rfl (hb hby d13_6) rfl kz) ?_
    show own_Go p e below s _ _ (s₁.setTop (mkF m 7 #[.val (.int z), .val (.long a), .second] [(.int (lcmpW a (0 : Int64)))]))
    by_cases hc7_2 : (0 : Int64) < a
    · refine own_by (fun tz kz => XS.ifNo X0.here hx rfl (hb hby d13_7) rfl ((if0 _ _).trans (tlt ((lw_gt a (0 : Int64)).mpr hc7_2)).2.2.2) kz) ?_
      show own_Go p e below s _ _ (s₁.setTop (mkF m 10 #[.val (.int z), .val (.long a), .second] []))
      refine own_by (fun tz kz => XS.iconst X0.here hx rfl (hb hby d13_10) kz) ?_
      show own_Go p e below s _ _ (s₁.setTop (mkF m 11 #[.val (.int z), .val (.long a), .second] [(.int (1 : Int32))]))
      refine own_by (fun tz kz => XS.goto X0.here hx rfl (pc0 := 11) (pc' := 15) rfl (hb hby d13_11) (by decide) (by decide) kz) ?_
      show own_Go p e below s _ _ (s₁.setTop (mkF m 15 #[.val (.int z), .val (.long a), .second] [(.int (1 : Int32))]))
      refine own_retI X0 hx hlk (t := .int) hret (by simp) rfl (hb hby d13_15) ?_ (by decide) (by decide)
      exact ⟨by simp [hr, own_ps, hc1_1, hc7_2], N0, e0⟩
    · refine own_by (fun tz kz => XS.ifYes X0.here hx rfl (pc0 := 7) (pc' := 14) rfl (hb hby d13_7) rfl ((if0 _ _).trans (flt (fun q => hc7_2 ((lw_gt a (0 : Int64)).mp q))).2.2.2) (by decide) (by decide) kz) ?_
      show own_Go p e below s _ _ (s₁.setTop (mkF m 14 #[.val (.int z), .val (.long a), .second] []))
      refine own_by (fun tz kz => XS.iconst X0.here hx rfl (hb hby d13_14) kz) ?_
      show own_Go p e below s _ _ (s₁.setTop (mkF m 15 #[.val (.int z), .val (.long a), .second] [(.int (0 : Int32))]))
      refine own_retI X0 hx hlk (t := .int) hret (by simp) rfl (hb hby d13_15) ?_ (by decide) (by decide)
      exact ⟨by simp [hr, own_ps, hc1_1, hc7_2], N0, e0⟩
def Q_rm_one (Z : State) (a : Addr) (lo up r : Int32) (h0 : Heap) (n0 : Nat) (v : Option Value) (h : Heap) (L : List Loc) : Prop := v = some (.int r) ∧ Fr n0 L ∧ h = h0
set_option maxRecDepth 65536 in
set_option maxHeartbeats 40000000 in
theorem rm_one (l : Launch) (Z : State) (a0 : Array Value) (hw : ∀ d ∈ tables_1, d.before a0 Z = true) (ws : List Jvm.Cond) (a : Addr) (lo up r : Int32) (h0 : Heap) (n0 : Nat) (F_lower : Fld Z h0 a "com/example/liftwise/liftwise/eval/arithmetic/Solver$Sides" "lower" "I" (.int lo)) (F_upper : Fld Z h0 a "com/example/liftwise/liftwise/eval/arithmetic/Solver$Sides" "upper" "I" (.int up)) (hr : r = if lo = (0 : Int32) ∨ up = (0 : Int32) then (1 : Int32) else (0 : Int32)) :
    MetFree l (⟨"com/example/liftwise/liftwise/eval/arithmetic/Solver$Sides", "isOneSided", "()Z"⟩ : MethodName) (head1 (Jvm.Cond.code (⟨"com/example/liftwise/liftwise/eval/arithmetic/Solver$Sides", "isOneSided", "()Z"⟩ : MethodName) prog_74_method_3_code 1 (some .boolean) :: ws) ({ frames := 0, cells := 0, slots := 0, locals := 0 } : Room)) (fun ar U => ar = #[(.ref a)] ∧ Z.Warmed39 U.vm ∧ U.heap = h0) (fun _ _ _ _ _ => True) (fun _ U o U' => ∃ v L, o = .returned v ∧ Q_rm_one Z a lo up r h0 n0 v U'.heap L ∧ FrameEnd U o U' L ({ frames := 0, cells := 0, slots := 0, locals := 0 } : Room).cells ({ frames := 0, cells := 0, slots := 0, locals := 0 } : Room).slots) := by
  refine own_enter (Q := (Q_rm_one Z a lo up r h0 n0)) pl_14 ?_
  intro p e s m below meth c s₁ X0 hx hZ hby hml hown hnm hret hlk e0
  have N0 := Fr.nil n0
  refine own_by (fun tz kz => castTop (g' := (mkF m 0 #[.val (.ref a)] [])) (by first | (simp [entryFrame, mkF, argsToLocals, Value.category]; done) | rfl) kz) ?_
  show own_Go p e below s _ _ (s₁.setTop (mkF m 0 #[.val (.ref a)] []))
  refine own_by (fun tz kz => XS.aloadN X0.here hx rfl (hb hby d14_0) rfl rfl kz) ?_
  show own_Go p e below s _ _ (s₁.setTop (mkF m 1 #[.val (.ref a)] [(.ref a)]))
  obtain ⟨T1, X1, e1, st1⟩ := getF X0 hx hZ hown (host := "") (Or.inl (hw _ (List.mem_of_getElem? (i := 64) rfl))) Via.refl e0 F_lower (g := (mkF m 1 #[.val (.ref a)] [(.ref a)])) rfl rfl (hb hby d14_1)
  refine own_by st1 ?_
  show own_Go p e below s _ _ (T1.setTop (mkF m 4 #[.val (.ref a)] [(.int lo)]))
  by_cases hc4_2 : lo = (0 : Int32)
  · refine own_by (fun tz kz => XS.ifYes X1.here hx rfl (pc0 := 4) (pc' := 14) rfl (hb hby d14_4) rfl ((if0 _ _).trans (teq hc4_2).1) (by decide) (by decide) kz) ?_
    show own_Go p e below s _ _ (T1.setTop (mkF m 14 #[.val (.ref a)] []))
    refine own_by (fun tz kz => XS.iconst X1.here hx rfl (hb hby d14_14) kz) ?_
    show own_Go p e below s _ _ (T1.setTop (mkF m 15 #[.val (.ref a)] [(.int (1 : Int32))]))
    refine own_by (fun tz kz => XS.goto X1.here hx rfl (pc0 := 15) (pc' := 19) rfl (hb hby d14_15) (by decide) (by decide) kz) ?_
    show own_Go p e below s _ _ (T1.setTop (mkF m 19 #[.val (.ref a)] [(.int (1 : Int32))]))
    refine own_retI X1 hx hlk (t := .boolean) hret (by simp) rfl (hb hby d14_19) ?_ (by decide) (by decide)
    exact ⟨by simp [hr, hc4_2], N0, e1⟩
  · refine own_by (fun tz kz => XS.ifNo X1.here hx rfl (hb hby d14_4) rfl ((if0 _ _).trans (feq hc4_2).1) kz) ?_
    show own_Go p e below s _ _ (T1.setTop (mkF m 7 #[.val (.ref a)] []))
    refine own_by (fun tz kz => XS.aloadN X1.here hx rfl (hb hby d14_7) rfl rfl kz) ?_
    show own_Go p e below s _ _ (T1.setTop (mkF m 8 #[.val (.ref a)] [(.ref a)]))
    obtain ⟨T3, X3, e3, st3⟩ := getF X1 hx hZ hown (host := "") (Or.inl (hw _ (List.mem_of_getElem? (i := 75) rfl))) Via.refl e1 F_upper (g := (mkF m 8 #[.val (.ref a)] [(.ref a)])) rfl rfl (hb hby d14_8)
    refine own_by st3 ?_
    show own_Go p e below s _ _ (T3.setTop (mkF m 11 #[.val (.ref a)] [(.int up)]))
    by_cases hc11_4 : up = (0 : Int32)
    · refine own_by (fun tz kz => XS.ifNo X3.here hx rfl (hb hby d14_11) rfl ((if0 _ _).trans (teq hc11_4).2) kz) ?_
      show own_Go p e below s _ _ (T3.setTop (mkF m 14 #[.val (.ref a)] []))
      refine own_by (fun tz kz => XS.iconst X3.here hx rfl (hb hby d14_14) kz) ?_
      show own_Go p e below s _ _ (T3.setTop (mkF m 15 #[.val (.ref a)] [(.int (1 : Int32))]))
      refine own_by (fun tz kz => XS.goto X3.here hx rfl (pc0 := 15) (pc' := 19) rfl (hb hby d14_15) (by decide) (by decide) kz) ?_
      show own_Go p e below s _ _ (T3.setTop (mkF m 19 #[.val (.ref a)] [(.int (1 : Int32))]))
      refine own_retI X3 hx hlk (t := .boolean) hret (by simp) rfl (hb hby d14_19) ?_ (by decide) (by decide)
      exact ⟨by simp [hr, hc4_2, hc11_4], N0, e3⟩
    · refine own_by (fun tz kz => XS.ifYes X3.here hx rfl (pc0 := 11) (pc' := 18) rfl (hb hby d14_11) rfl ((if0 _ _).trans (feq hc11_4).2) (by decide) (by decide) kz) ?_
      show own_Go p e below s _ _ (T3.setTop (mkF m 18 #[.val (.ref a)] []))
      refine own_by (fun tz kz => XS.iconst X3.here hx rfl (hb hby d14_18) kz) ?_
      show own_Go p e below s _ _ (T3.setTop (mkF m 19 #[.val (.ref a)] [(.int (0 : Int32))]))
      refine own_retI X3 hx hlk (t := .boolean) hret (by simp) rfl (hb hby d14_19) ?_ (by decide) (by decide)
      exact ⟨by simp [hr, hc4_2, hc11_4], N0, e3⟩
def Q_rm0 (n0 : Nat) (v : Option Value) (h : Heap) (L : List Loc) : Prop := v = some (.int 1) ∧ Fr n0 L
set_option maxRecDepth 65536 in
set_option maxHeartbeats 40000000 in
theorem rm0 (l : Launch) (Z : State) (a0 : Array Value) (hw : ∀ d ∈ tables_1, d.before a0 Z = true) (ws : List Jvm.Cond) (c0 c1 c2 c3 A0 A1 A2 A3 : Int64) (pp I Q0 Q1 Q2 Q3 : Int32) (one om pa na : Addr) (ko : ClassId) (pc nc : Cell) (h0 : Heap) (n0 : Nat) (O0 : Old Z n0 h0) (S_ONE : Sta Z Z.heap "java/math/BigInteger" "ONE" "Ljava/math/BigInteger;" (.ref one)) (E_one : Exa Z Z.heap one "java/math/BigInteger") (Fs_one : Fld Z Z.heap one "java/math/BigInteger" "signum" "I" (.int (1 : Int32))) (Fm_one : Fld Z Z.heap one "java/math/BigInteger" "mag" "[I" (.ref om)) (V_one : Arv Z Z.heap om ko .int (1 : Int32) [.int (1 : Int32)] (.int (0 : Int32))) (S_pos : Sta Z Z.heap "java/math/BigInteger" "posConst" "[Ljava/math/BigInteger;" (.ref pa)) (S_neg : Sta Z Z.heap "java/math/BigInteger" "negConst" "[Ljava/math/BigInteger;" (.ref na)) (T_pos : own_Tab Z pa pc (1 : Int32)) (T_neg : own_Tab Z na nc (-1 : Int32)) (hI : I = (pp &&& (2147483647 : Int32)) % (5 : Int32)) (hk : I = (0 : Int32) ∨ I = (1 : Int32) ∨ I = (2 : Int32) ∨ I = (3 : Int32) ∨ I = (4 : Int32)) (hA0 : A0 = own_nz c0) (hQ0 : Q0 = own_ps (1 : Int32) A0) (hz0 : ¬ A0 = (0 : Int64)) (hA1 : A1 = own_nz c1) (hQ1 : Q1 = own_ps (1 : Int32) A1) (hz1 : ¬ A1 = (0 : Int64)) (hA2 : A2 = own_nz c2) (hQ2 : Q2 = own_ps (1 : Int32) A2) (hz2 : ¬ A2 = (0 : Int64)) (hA3 : A3 = own_nz c3) (hQ3 : Q3 = own_ps (1 : Int32) A3) (hz3 : ¬ A3 = (0 : Int64)) :
    MetFree l x (head1 (Jvm.Cond.code x code maxLocals ret :: ws) room_1) (fun ar U => ar = #[(.long c0), (.long c1), (.long c2), (.long c3), (.int pp)] ∧ Z.Warmed39 U.vm ∧ U.heap = h0) (fun _ _ _ _ _ => True) (fun _ U o U' => ∃ v L, o = .returned v ∧ Q_rm0 n0 v U'.heap L ∧ FrameEnd U o U' L room_1.cells room_1.slots) := by
  refine own_enter (Q := (Q_rm0 n0)) pl_0 ?_
  intro p e s m below meth c s₁ X0 hx hZ hby hml hown hnm hret hlk e0
  have N0 := Fr.nil n0
  refine own_by (fun tz kz => castTop (g' := (mkF m 0 #[.val (.long c0), .second, .val (.long c1), .second, .val (.long c2), .second, .val (.long c3), .second, .val (.int pp), .unset, .unset, .unset, .unset, .unset, .unset, .unset, .unset, .unset, .unset, .unset, .unset, .unset, .unset, .unset, .unset, .unset] [])) (by first | (simp [entryFrame, mkF, argsToLocals, Value.category, maxLocals]; done) | rfl) kz) ?_
  have K0 := Keep.refl h0 []
  show own_Go p e below s _ _ (s₁.setTop (mkF m 0 #[.val (.long c0), .second, .val (.long c1), .second, .val (.long c2), .second, .val (.long c3), .second, .val (.int pp), .unset, .unset, .unset, .unset, .unset, .unset, .unset, .unset, .unset, .unset, .unset, .unset, .unset, .unset, .unset, .unset, .unset] []))
  refine own_by (fun tz kz => XS.iload X0.here hx rfl (hb hby at_0) rfl  kz) ?_
  show own_Go p e below s _ _ (s₁.setTop (mkF m 2 #[.val (.long c0), .second, .val (.long c1), .second, .val (.long c2), .second, .val (.long c3), .second, .val (.int pp), .unset, .unset, .unset, .unset, .unset, .unset, .unset, .unset, .unset, .unset, .unset, .unset, .unset, .unset, .unset, .unset, .unset] [(.int pp)]))
  refine own_by (fun tz kz => X0.ldcInt hx hown (mvT hZ (hw _ (List.mem_of_getElem? (i := 0) rfl))) (g := (mkF m 2 #[.val (.long c0), .second, .val (.long c1), .second, .val (.long c2), .second, .val (.long c3), .second, .val (.int pp), .unset, .unset, .unset, .unset, .unset, .unset, .unset, .unset, .unset, .unset, .unset, .unset, .unset, .unset, .unset, .unset, .unset] [(.int pp)])) rfl (hb hby at_2) _ kz) ?_
  show own_Go p e below s _ _ (s₁.setTop (mkF m 4 #[.val (.long c0), .second, .val (.long c1), .second, .val (.long c2), .second, .val (.long c3), .second, .val (.int pp), .unset, .unset, .unset, .unset, .unset, .unset, .unset, .unset, .unset, .unset, .unset, .unset, .unset, .unset, .unset, .unset, .unset] [(.int (2147483647 : Int32)), (.int pp)]))
  refine own_by (fun tz kz => XS.iand X0.here hx rfl (hb hby at_4) rfl kz) ?_
  show own_Go p e below s _ _ (s₁.setTop (mkF m 5 #[.val (.long c0), .second, .val (.long c1), .second, .val (.long c2), .second, .val (.long c3), .second, .val (.int pp), .unset, .unset, .unset, .unset, .unset, .unset, .unset, .unset, .unset, .unset, .unset, .unset, .unset, .unset, .unset, .unset, .unset] [(.int (pp &&& (2147483647 : Int32)))]))
  refine own_by (fun tz kz => XS.iconst X0.here hx rfl (hb hby at_5) kz) ?_
  show own_Go p e below s _ _ (s₁.setTop (mkF m 6 #[.val (.long c0), .second, .val (.long c1), .second, .val (.long c2), .second, .val (.long c3), .second, .val (.int pp), .unset, .unset, .unset, .unset, .unset, .unset, .unset, .unset, .unset, .unset, .unset, .unset, .unset, .unset, .unset, .unset, .unset] [(.int (5 : Int32)), (.int (pp &&& (2147483647 : Int32)))]))
  refine own_by (fun tz kz => iremM X0 hx rfl (hb hby at_6) rfl (by decide) kz) ?_
  show own_Go p e below s _ _ (s₁.setTop (mkF m 7 #[.val (.long c0), .second, .val (.long c1), .second, .val (.long c2), .second, .val (.long c3), .second, .val (.int pp), .unset, .unset, .unset, .unset, .unset, .unset, .unset, .unset, .unset, .unset, .unset, .unset, .unset, .unset, .unset, .unset, .unset] [(.int ((pp &&& (2147483647 : Int32)) % (5 : Int32)))]))
  refine own_by (fun tz kz => XS.istore X0.here hx rfl (hb hby at_7) rfl (l' := #[.val (.long c0), .second, .val (.long c1), .second, .val (.long c2), .second, .val (.long c3), .second, .val (.int pp), .val (.int ((pp &&& (2147483647 : Int32)) % (5 : Int32))), .unset, .unset, .unset, .unset, .unset, .unset, .unset, .unset, .unset, .unset, .unset, .unset, .unset, .unset, .unset, .unset]) rfl kz) ?_
  show own_Go p e below s _ _ (s₁.setTop (mkF m 9 #[.val (.long c0), .second, .val (.long c1), .second, .val (.long c2), .second, .val (.long c3), .second, .val (.int pp), .val (.int ((pp &&& (2147483647 : Int32)) % (5 : Int32))), .unset, .unset, .unset, .unset, .unset, .unset, .unset, .unset, .unset, .unset, .unset, .unset, .unset, .unset, .unset, .unset] []))
  refine own_by (fun tz kz => XS.lloadN X0.here hx rfl (hb hby at_9) rfl kz) ?_
  show own_Go p e below s _ _ (s₁.setTop (mkF m 10 #[.val (.long c0), .second, .val (.long c1), .second, .val (.long c2), .second, .val (.long c3), .second, .val (.int pp), .val (.int ((pp &&& (2147483647 : Int32)) % (5 : Int32))), .unset, .unset, .unset, .unset, .unset, .unset, .unset, .unset, .unset, .unset, .unset, .unset, .unset, .unset, .unset, .unset] [(.long c0)]))
  obtain ⟨_, _, ⟨T1, L1, k1, n1⟩, -, X1, ⟨Lc1, hQ1, l1, y1, z1⟩, st1⟩ := Jvm.LawKit.callS X0 hx (y := (⟨"com/example/liftwise/liftwise/eval/arithmetic/SidesIsOneSidedPinLaw", "nonZero", "(J)J"⟩ : MethodName)) hown (mvT hZ (hw _ (List.mem_of_getElem? (i := 1) rfl))) (mvT hZ (hw _ (List.mem_of_getElem? (i := 2) rfl))) (mvT hZ (hw _ (List.mem_of_getElem? (i := 3) rfl))) (mvT hZ (hw _ (List.mem_of_getElem? (i := 4) rfl))) (by decide) (backOf (W := 0) (rm_nz l Z a0 hw [] c0 A0 h0 n0 hA0) hZ (hw _ (List.mem_of_getElem? (i := 4) rfl)) (hw _ (List.mem_of_getElem? (i := 3) rfl)) (by decide) (by decide)) (g := (mkF m 10 #[.val (.long c0), .second, .val (.long c1), .second, .val (.long c2), .second, .val (.long c3), .second, .val (.int pp), .val (.int ((pp &&& (2147483647 : Int32)) % (5 : Int32))), .unset, .unset, .unset, .unset, .unset, .unset, .unset, .unset, .unset, .unset, .unset, .unset, .unset, .unset, .unset, .unset] [(.long c0)])) rfl (by rw [hml]; rfl) (argsL := [(.long c0)]) (rest := []) (lenOf pd_0 rfl) rfl (by show 2 * 0 + _ ≤ _; exact Nat.le_of_eq rfl) (hb hby at_10) (fun _ _ => ⟨rfl, e0, (by decide : 0 + 0 ≤ _), (by decide : 0 + 0 ≤ _)⟩)
  dsimp only [Pt.U, Pt.locs, Pt.cells, Pt.slots] at X1 l1 y1 z1 st1 hQ1
  rw [l1, y1, z1] at X1
  obtain ⟨rfl, Nq1, e1⟩ := hQ1
  have N1 := Fr.app N0 Nq1
  refine own_by st1 ?_
  show own_Go p e below s _ _ (T1.setTop (mkF m 13 #[.val (.long c0), .second, .val (.long c1), .second, .val (.long c2), .second, .val (.long c3), .second, .val (.int pp), .val (.int ((pp &&& (2147483647 : Int32)) % (5 : Int32))), .unset, .unset, .unset, .unset, .unset, .unset, .unset, .unset, .unset, .unset, .unset, .unset, .unset, .unset, .unset, .unset] [(.long A0)]))
  refine own_by (fun tz kz => XS.lstore X1.here hx rfl (hb hby at_13) rfl (l' := #[.val (.long c0), .second, .val (.long c1), .second, .val (.long c2), .second, .val (.long c3), .second, .val (.int pp), .val (.int ((pp &&& (2147483647 : Int32)) % (5 : Int32))), .val (.long A0), .second, .unset, .unset, .unset, .unset, .unset, .unset, .unset, .unset, .unset, .unset, .unset, .unset, .unset, .unset]) rfl kz) ?_
  show own_Go p e below s _ _ (T1.setTop (mkF m 15 #[.val (.long c0), .second, .val (.long c1), .second, .val (.long c2), .second, .val (.long c3), .second, .val (.int pp), .val (.int ((pp &&& (2147483647 : Int32)) % (5 : Int32))), .val (.long A0), .second, .unset, .unset, .unset, .unset, .unset, .unset, .unset, .unset, .unset, .unset, .unset, .unset, .unset, .unset] []))
  refine own_by (fun tz kz => XS.lloadN X1.here hx rfl (hb hby at_15) rfl kz) ?_
  show own_Go p e below s _ _ (T1.setTop (mkF m 16 #[.val (.long c0), .second, .val (.long c1), .second, .val (.long c2), .second, .val (.long c3), .second, .val (.int pp), .val (.int ((pp &&& (2147483647 : Int32)) % (5 : Int32))), .val (.long A0), .second, .unset, .unset, .unset, .unset, .unset, .unset, .unset, .unset, .unset, .unset, .unset, .unset, .unset, .unset] [(.long c1)]))
  obtain ⟨_, _, ⟨T2, L2, k2, n2⟩, -, X2, ⟨Lc2, hQ2, l2, y2, z2⟩, st2⟩ := Jvm.LawKit.callS X1 hx (y := (⟨"com/example/liftwise/liftwise/eval/arithmetic/SidesIsOneSidedPinLaw", "nonZero", "(J)J"⟩ : MethodName)) hown (mvT hZ (hw _ (List.mem_of_getElem? (i := 1) rfl))) (mvT hZ (hw _ (List.mem_of_getElem? (i := 2) rfl))) (mvT hZ (hw _ (List.mem_of_getElem? (i := 3) rfl))) (mvT hZ (hw _ (List.mem_of_getElem? (i := 4) rfl))) (by decide) (backOf (W := 0) (rm_nz l Z a0 hw [] c1 A1 h0 n0 hA1) hZ (hw _ (List.mem_of_getElem? (i := 4) rfl)) (hw _ (List.mem_of_getElem? (i := 3) rfl)) (by decide) (by decide)) (g := (mkF m 16 #[.val (.long c0), .second, .val (.long c1), .second, .val (.long c2), .second, .val (.long c3), .second, .val (.int pp), .val (.int ((pp &&& (2147483647 : Int32)) % (5 : Int32))), .val (.long A0), .second, .unset, .unset, .unset, .unset, .unset, .unset, .unset, .unset, .unset, .unset, .unset, .unset, .unset, .unset] [(.long c1)])) rfl (by rw [hml]; rfl) (argsL := [(.long c1)]) (rest := []) (lenOf pd_0 rfl) rfl (by show 2 * 0 + _ ≤ _; exact Nat.le_of_eq rfl) (hb hby at_16) (fun _ _ => ⟨rfl, e1, (by decide : 0 + 0 ≤ _), (by decide : 0 + 0 ≤ _)⟩)
  dsimp only [Pt.U, Pt.locs, Pt.cells, Pt.slots] at X2 l2 y2 z2 st2 hQ2
  rw [l2, y2, z2] at X2
  obtain ⟨rfl, Nq2, e2⟩ := hQ2
  have N2 := Fr.app N1 Nq2
  refine own_by st2 ?_
  show own_Go p e below s _ _ (T2.setTop (mkF m 19 #[.val (.long c0), .second, .val (.long c1), .second, .val (.long c2), .second, .val (.long c3), .second, .val (.int pp), .val (.int ((pp &&& (2147483647 : Int32)) % (5 : Int32))), .val (.long A0), .second, .unset, .unset, .unset, .unset, .unset, .unset, .unset, .unset, .unset, .unset, .unset, .unset, .unset, .unset] [(.long A1)]))
  refine own_by (fun tz kz => XS.lstore X2.here hx rfl (hb hby at_19) rfl (l' := #[.val (.long c0), .second, .val (.long c1), .second, .val (.long c2), .second, .val (.long c3), .second, .val (.int pp), .val (.int ((pp &&& (2147483647 : Int32)) % (5 : Int32))), .val (.long A0), .second, .val (.long A1), .second, .unset, .unset, .unset, .unset, .unset, .unset, .unset, .unset, .unset, .unset, .unset, .unset]) rfl kz) ?_
  show own_Go p e below s _ _ (T2.setTop (mkF m 21 #[.val (.long c0), .second, .val (.long c1), .second, .val (.long c2), .second, .val (.long c3), .second, .val (.int pp), .val (.int ((pp &&& (2147483647 : Int32)) % (5 : Int32))), .val (.long A0), .second, .val (.long A1), .second, .unset, .unset, .unset, .unset, .unset, .unset, .unset, .unset, .unset, .unset, .unset, .unset] []))
  refine own_by (fun tz kz => XS.lload X2.here hx rfl (hb hby at_21) rfl kz) ?_
  show own_Go p e below s _ _ (T2.setTop (mkF m 23 #[.val (.long c0), .second, .val (.long c1), .second, .val (.long c2), .second, .val (.long c3), .second, .val (.int pp), .val (.int ((pp &&& (2147483647 : Int32)) % (5 : Int32))), .val (.long A0), .second, .val (.long A1), .second, .unset, .unset, .unset, .unset, .unset, .unset, .unset, .unset, .unset, .unset, .unset, .unset] [(.long c2)]))
  obtain ⟨_, _, ⟨T3, L3, k3, n3⟩, -, X3, ⟨Lc3, hQ3, l3, y3, z3⟩, st3⟩ := Jvm.LawKit.callS X2 hx (y := (⟨"com/example/liftwise/liftwise/eval/arithmetic/SidesIsOneSidedPinLaw", "nonZero", "(J)J"⟩ : MethodName)) hown (mvT hZ (hw _ (List.mem_of_getElem? (i := 1) rfl))) (mvT hZ (hw _ (List.mem_of_getElem? (i := 2) rfl))) (mvT hZ (hw _ (List.mem_of_getElem? (i := 3) rfl))) (mvT hZ (hw _ (List.mem_of_getElem? (i := 4) rfl))) (by decide) (backOf (W := 0) (rm_nz l Z a0 hw [] c2 A2 h0 n0 hA2) hZ (hw _ (List.mem_of_getElem? (i := 4) rfl)) (hw _ (List.mem_of_getElem? (i := 3) rfl)) (by decide) (by decide)) (g := (mkF m 23 #[.val (.long c0), .second, .val (.long c1), .second, .val (.long c2), .second, .val (.long c3), .second, .val (.int pp), .val (.int ((pp &&& (2147483647 : Int32)) % (5 : Int32))), .val (.long A0), .second, .val (.long A1), .second, .unset, .unset, .unset, .unset, .unset, .unset, .unset, .unset, .unset, .unset, .unset, .unset] [(.long c2)])) rfl (by rw [hml]; rfl) (argsL := [(.long c2)]) (rest := []) (lenOf pd_0 rfl) rfl (by show 2 * 0 + _ ≤ _; exact Nat.le_of_eq rfl) (hb hby at_23) (fun _ _ => ⟨rfl, e2, (by decide : 0 + 0 ≤ _), (by decide : 0 + 0 ≤ _)⟩)
  dsimp only [Pt.U, Pt.locs, Pt.cells, Pt.slots] at X3 l3 y3 z3 st3 hQ3
  rw [l3, y3, z3] at X3
  obtain ⟨rfl, Nq3, e3⟩ := hQ3
  have N3 := Fr.app N2 Nq3
  refine own_by st3 ?_
  show own_Go p e below s _ _ (T3.setTop (mkF m 26 #[.val (.long c0), .second, .val (.long c1), .second, .val (.long c2), .second, .val (.long c3), .second, .val (.int pp), .val (.int ((pp &&& (2147483647 : Int32)) % (5 : Int32))), .val (.long A0), .second, .val (.long A1), .second, .unset, .unset, .unset, .unset, .unset, .unset, .unset, .unset, .unset, .unset, .unset, .unset] [(.long A2)]))
  refine own_by (fun tz kz => XS.lstore X3.here hx rfl (hb hby at_26) rfl (l' := #[.val (.long c0), .second, .val (.long c1), .second, .val (.long c2), .second, .val (.long c3), .second, .val (.int pp), .val (.int ((pp &&& (2147483647 : Int32)) % (5 : Int32))), .val (.long A0), .second, .val (.long A1), .second, .val (.long A2), .second, .unset, .unset, .unset, .unset, .unset, .unset, .unset, .unset, .unset, .unset]) rfl kz) ?_
  show own_Go p e below s _ _ (T3.setTop (mkF m 28 #[.val (.long c0), .second, .val (.long c1), .second, .val (.long c2), .second, .val (.long c3), .second, .val (.int pp), .val (.int ((pp &&& (2147483647 : Int32)) % (5 : Int32))), .val (.long A0), .second, .val (.long A1), .second, .val (.long A2), .second, .unset, .unset, .unset, .unset, .unset, .unset, .unset, .unset, .unset, .unset] []))
  refine own_by (fun tz kz => XS.lload X3.here hx rfl (hb hby at_28) rfl kz) ?_
  show own_Go p e below s _ _ (T3.setTop (mkF m 30 #[.val (.long c0), .second, .val (.long c1), .second, .val (.long c2), .second, .val (.long c3), .second, .val (.int pp), .val (.int ((pp &&& (2147483647 : Int32)) % (5 : Int32))), .val (.long A0), .second, .val (.long A1), .second, .val (.long A2), .second, .unset, .unset, .unset, .unset, .unset, .unset, .unset, .unset, .unset, .unset] [(.long c3)]))
  obtain ⟨_, _, ⟨T4, L4, k4, n4⟩, -, X4, ⟨Lc4, hQ4, l4, y4, z4⟩, st4⟩ := Jvm.LawKit.callS X3 hx (y := (⟨"com/example/liftwise/liftwise/eval/arithmetic/SidesIsOneSidedPinLaw", "nonZero", "(J)J"⟩ : MethodName)) hown (mvT hZ (hw _ (List.mem_of_getElem? (i := 1) rfl))) (mvT hZ (hw _ (List.mem_of_getElem? (i := 2) rfl))) (mvT hZ (hw _ (List.mem_of_getElem? (i := 3) rfl))) (mvT hZ (hw _ (List.mem_of_getElem? (i := 4) rfl))) (by decide) (backOf (W := 0) (rm_nz l Z a0 hw [] c3 A3 h0 n0 hA3) hZ (hw _ (List.mem_of_getElem? (i := 4) rfl)) (hw _ (List.mem_of_getElem? (i := 3) rfl)) (by decide) (by decide)) (g := (mkF m 30 #[.val (.long c0), .second, .val (.long c1), .second, .val (.long c2), .second, .val (.long c3), .second, .val (.int pp), .val (.int ((pp &&& (2147483647 : Int32)) % (5 : Int32))), .val (.long A0), .second, .val (.long A1), .second, .val (.long A2), .second, .unset, .unset, .unset, .unset, .unset, .unset, .unset, .unset, .unset, .unset] [(.long c3)])) rfl (by rw [hml]; rfl) (argsL := [(.long c3)]) (rest := []) (lenOf pd_0 rfl) rfl (by show 2 * 0 + _ ≤ _; exact Nat.le_of_eq rfl) (hb hby at_30) (fun _ _ => ⟨rfl, e3, (by decide : 0 + 0 ≤ _), (by decide : 0 + 0 ≤ _)⟩)
  dsimp only [Pt.U, Pt.locs, Pt.cells, Pt.slots] at X4 l4 y4 z4 st4 hQ4
  rw [l4, y4, z4] at X4
  obtain ⟨rfl, Nq4, e4⟩ := hQ4
  have N4 := Fr.app N3 Nq4
  refine own_by st4 ?_
  show own_Go p e below s _ _ (T4.setTop (mkF m 33 #[.val (.long c0), .second, .val (.long c1), .second, .val (.long c2), .second, .val (.long c3), .second, .val (.int pp), .val (.int ((pp &&& (2147483647 : Int32)) % (5 : Int32))), .val (.long A0), .second, .val (.long A1), .second, .val (.long A2), .second, .unset, .unset, .unset, .unset, .unset, .unset, .unset, .unset, .unset, .unset] [(.long A3)]))
  refine own_by (fun tz kz => XS.lstore X4.here hx rfl (hb hby at_33) rfl (l' := #[.val (.long c0), .second, .val (.long c1), .second, .val (.long c2), .second, .val (.long c3), .second, .val (.int pp), .val (.int ((pp &&& (2147483647 : Int32)) % (5 : Int32))), .val (.long A0), .second, .val (.long A1), .second, .val (.long A2), .second, .val (.long A3), .second, .unset, .unset, .unset, .unset, .unset, .unset, .unset, .unset]) rfl kz) ?_
  show own_Go p e below s _ _ (T4.setTop (mkF m 35 #[.val (.long c0), .second, .val (.long c1), .second, .val (.long c2), .second, .val (.long c3), .second, .val (.int pp), .val (.int ((pp &&& (2147483647 : Int32)) % (5 : Int32))), .val (.long A0), .second, .val (.long A1), .second, .val (.long A2), .second, .val (.long A3), .second, .unset, .unset, .unset, .unset, .unset, .unset, .unset, .unset] []))
  refine own_by (fun tz kz => XS.lload X4.here hx rfl (hb hby at_35) rfl kz) ?_
  show own_Go p e below s _ _ (T4.setTop (mkF m 37 #[.val (.long c0), .second, .val (.long c1), .second, .val (.long c2), .second, .val (.long c3), .second, .val (.int pp), .val (.int ((pp &&& (2147483647 : Int32)) % (5 : Int32))), .val (.long A0), .second, .val (.long A1), .second, .val (.long A2), .second, .val (.long A3), .second, .unset, .unset, .unset, .unset, .unset, .unset, .unset, .unset] [(.long A0)]))
  obtain ⟨_, _, ⟨T5, L5, k5, n5⟩, -, X5, ⟨Lc5, hQ5, l5, y5, z5⟩, st5⟩ := Jvm.LawKit.callS X4 hx (y := (⟨"java/math/BigInteger", "valueOf", "(J)Ljava/math/BigInteger;"⟩ : MethodName)) hown (mvT hZ (hw _ (List.mem_of_getElem? (i := 5) rfl))) (mvT hZ (hw _ (List.mem_of_getElem? (i := 6) rfl))) (mvT hZ (hw _ (List.mem_of_getElem? (i := 7) rfl))) (mvT hZ (hw _ (List.mem_of_getElem? (i := 8) rfl))) (by decide) (backOf (W := 0) (rm_valueOf l Z a0 hw [] A0 pa na pc nc h0 n0 O0 S_pos S_neg T_pos T_neg hz0) hZ (hw _ (List.mem_of_getElem? (i := 8) rfl)) (hw _ (List.mem_of_getElem? (i := 7) rfl)) (by decide) (by decide)) (g := (mkF m 37 #[.val (.long c0), .second, .val (.long c1), .second, .val (.long c2), .second, .val (.long c3), .second, .val (.int pp), .val (.int ((pp &&& (2147483647 : Int32)) % (5 : Int32))), .val (.long A0), .second, .val (.long A1), .second, .val (.long A2), .second, .val (.long A3), .second, .unset, .unset, .unset, .unset, .unset, .unset, .unset, .unset] [(.long A0)])) rfl (by rw [hml]; rfl) (argsL := [(.long A0)]) (rest := []) (lenOf pd_1 rfl) rfl (by show 2 * 0 + _ ≤ _; exact Nat.le_of_eq rfl) (hb hby at_37) (fun _ _ => ⟨rfl, e4, (by decide : 0 + 2 ≤ _), (by decide : 0 + 8 ≤ _)⟩)
  dsimp only [Pt.U, Pt.locs, Pt.cells, Pt.slots] at X5 l5 y5 z5 st5 hQ5
  rw [l5, y5, z5] at X5
  obtain ⟨o5, rfl, Nq5, Kq5, m5, kk5, nn5, vv5, Ea5, Eb5, Ec5, Ed5, Ee5⟩ := hQ5
  have N5 := Fr.app N4 Nq5
  have e5 : T5.heap = T5.heap := rfl
  refine own_by st5 ?_
  have O5 := O0.keep Kq5 all0
  have K5 := K0.trans Kq5 all0
  show own_Go p e below s _ _ (T5.setTop (mkF m 40 #[.val (.long c0), .second, .val (.long c1), .second, .val (.long c2), .second, .val (.long c3), .second, .val (.int pp), .val (.int ((pp &&& (2147483647 : Int32)) % (5 : Int32))), .val (.long A0), .second, .val (.long A1), .second, .val (.long A2), .second, .val (.long A3), .second, .unset, .unset, .unset, .unset, .unset, .unset, .unset, .unset] [(.ref o5)]))
  refine own_by (fun tz kz => XS.astore X5.here hx rfl (hb hby at_40) rfl rfl (l' := #[.val (.long c0), .second, .val (.long c1), .second, .val (.long c2), .second, .val (.long c3), .second, .val (.int pp), .val (.int ((pp &&& (2147483647 : Int32)) % (5 : Int32))), .val (.long A0), .second, .val (.long A1), .second, .val (.long A2), .second, .val (.long A3), .second, .val (.ref o5), .unset, .unset, .unset, .unset, .unset, .unset, .unset]) rfl kz) ?_
  show own_Go p e below s _ _ (T5.setTop (mkF m 42 #[.val (.long c0), .second, .val (.long c1), .second, .val (.long c2), .second, .val (.long c3), .second, .val (.int pp), .val (.int ((pp &&& (2147483647 : Int32)) % (5 : Int32))), .val (.long A0), .second, .val (.long A1), .second, .val (.long A2), .second, .val (.long A3), .second, .val (.ref o5), .unset, .unset, .unset, .unset, .unset, .unset, .unset] []))
  refine own_by (fun tz kz => XS.lload X5.here hx rfl (hb hby at_42) rfl kz) ?_
  show own_Go p e below s _ _ (T5.setTop (mkF m 44 #[.val (.long c0), .second, .val (.long c1), .second, .val (.long c2), .second, .val (.long c3), .second, .val (.int pp), .val (.int ((pp &&& (2147483647 : Int32)) % (5 : Int32))), .val (.long A0), .second, .val (.long A1), .second, .val (.long A2), .second, .val (.long A3), .second, .val (.ref o5), .unset, .unset, .unset, .unset, .unset, .unset, .unset] [(.long A1)]))
  obtain ⟨_, _, ⟨T6, L6, k6, n6⟩, -, X6, ⟨Lc6, hQ6, l6, y6, z6⟩, st6⟩ := Jvm.LawKit.callS X5 hx (y := (⟨"java/math/BigInteger", "valueOf", "(J)Ljava/math/BigInteger;"⟩ : MethodName)) hown (mvT hZ (hw _ (List.mem_of_getElem? (i := 5) rfl))) (mvT hZ (hw _ (List.mem_of_getElem? (i := 6) rfl))) (mvT hZ (hw _ (List.mem_of_getElem? (i := 7) rfl))) (mvT hZ (hw _ (List.mem_of_getElem? (i := 8) rfl))) (by decide) (backOf (W := 0) (rm_valueOf l Z a0 hw [] A1 pa na pc nc T5.heap n0 O5 S_pos S_neg T_pos T_neg hz1) hZ (hw _ (List.mem_of_getElem? (i := 8) rfl)) (hw _ (List.mem_of_getElem? (i := 7) rfl)) (by decide) (by decide)) (g := (mkF m 44 #[.val (.long c0), .second, .val (.long c1), .second, .val (.long c2), .second, .val (.long c3), .second, .val (.int pp), .val (.int ((pp &&& (2147483647 : Int32)) % (5 : Int32))), .val (.long A0), .second, .val (.long A1), .second, .val (.long A2), .second, .val (.long A3), .second, .val (.ref o5), .unset, .unset, .unset, .unset, .unset, .unset, .unset] [(.long A1)])) rfl (by rw [hml]; rfl) (argsL := [(.long A1)]) (rest := []) (lenOf pd_1 rfl) rfl (by show 2 * 0 + _ ≤ _; exact Nat.le_of_eq rfl) (hb hby at_44) (fun _ _ => ⟨rfl, e5, (by decide : (0 + 2) + 2 ≤ _), (by decide : (0 + 8) + 8 ≤ _)⟩)
  dsimp only [Pt.U, Pt.locs, Pt.cells, Pt.slots] at X6 l6 y6 z6 st6 hQ6
  rw [l6, y6, z6] at X6
  obtain ⟨o6, rfl, Nq6, Kq6, m6, kk6, nn6, vv6, Ea6, Eb6, Ec6, Ed6, Ee6⟩ := hQ6
  have N6 := Fr.app N5 Nq6
  have e6 : T6.heap = T6.heap := rfl
  refine own_by st6 ?_
  have O6 := O5.keep Kq6 all0
  have K6 := K5.trans Kq6 all0
  show own_Go p e below s _ _ (T6.setTop (mkF m 47 #[.val (.long c0), .second, .val (.long c1), .second, .val (.long c2), .second, .val (.long c3), .second, .val (.int pp), .val (.int ((pp &&& (2147483647 : Int32)) % (5 : Int32))), .val (.long A0), .second, .val (.long A1), .second, .val (.long A2), .second, .val (.long A3), .second, .val (.ref o5), .unset, .unset, .unset, .unset, .unset, .unset, .unset] [(.ref o6)]))
  refine own_by (fun tz kz => XS.astore X6.here hx rfl (hb hby at_47) rfl rfl (l' := #[.val (.long c0), .second, .val (.long c1), .second, .val (.long c2), .second, .val (.long c3), .second, .val (.int pp), .val (.int ((pp &&& (2147483647 : Int32)) % (5 : Int32))), .val (.long A0), .second, .val (.long A1), .second, .val (.long A2), .second, .val (.long A3), .second, .val (.ref o5), .val (.ref o6), .unset, .unset, .unset, .unset, .unset, .unset]) rfl kz) ?_
  show own_Go p e below s _ _ (T6.setTop (mkF m 49 #[.val (.long c0), .second, .val (.long c1), .second, .val (.long c2), .second, .val (.long c3), .second, .val (.int pp), .val (.int ((pp &&& (2147483647 : Int32)) % (5 : Int32))), .val (.long A0), .second, .val (.long A1), .second, .val (.long A2), .second, .val (.long A3), .second, .val (.ref o5), .val (.ref o6), .unset, .unset, .unset, .unset, .unset, .unset] []))
  refine own_by (fun tz kz => XS.lload X6.here hx rfl (hb hby at_49) rfl kz) ?_
  show own_Go p e below s _ _ (T6.setTop (mkF m 51 #[.val (.long c0), .second, .val (.long c1), .second, .val (.long c2), .second, .val (.long c3), .second, .val (.int pp), .val (.int ((pp &&& (2147483647 : Int32)) % (5 : Int32))), .val (.long A0), .second, .val (.long A1), .second, .val (.long A2), .second, .val (.long A3), .second, .val (.ref o5), .val (.ref o6), .unset, .unset, .unset, .unset, .unset, .unset] [(.long A2)]))
  obtain ⟨_, _, ⟨T7, L7, k7, n7⟩, -, X7, ⟨Lc7, hQ7, l7, y7, z7⟩, st7⟩ := Jvm.LawKit.callS X6 hx (y := (⟨"java/math/BigInteger", "valueOf", "(J)Ljava/math/BigInteger;"⟩ : MethodName)) hown (mvT hZ (hw _ (List.mem_of_getElem? (i := 5) rfl))) (mvT hZ (hw _ (List.mem_of_getElem? (i := 6) rfl))) (mvT hZ (hw _ (List.mem_of_getElem? (i := 7) rfl))) (mvT hZ (hw _ (List.mem_of_getElem? (i := 8) rfl))) (by decide) (backOf (W := 0) (rm_valueOf l Z a0 hw [] A2 pa na pc nc T6.heap n0 O6 S_pos S_neg T_pos T_neg hz2) hZ (hw _ (List.mem_of_getElem? (i := 8) rfl)) (hw _ (List.mem_of_getElem? (i := 7) rfl)) (by decide) (by decide)) (g := (mkF m 51 #[.val (.long c0), .second, .val (.long c1), .second, .val (.long c2), .second, .val (.long c3), .second, .val (.int pp), .val (.int ((pp &&& (2147483647 : Int32)) % (5 : Int32))), .val (.long A0), .second, .val (.long A1), .second, .val (.long A2), .second, .val (.long A3), .second, .val (.ref o5), .val (.ref o6), .unset, .unset, .unset, .unset, .unset, .unset] [(.long A2)])) rfl (by rw [hml]; rfl) (argsL := [(.long A2)]) (rest := []) (lenOf pd_1 rfl) rfl (by show 2 * 0 + _ ≤ _; exact Nat.le_of_eq rfl) (hb hby at_51) (fun _ _ => ⟨rfl, e6, (by decide : ((0 + 2) + 2) + 2 ≤ _), (by decide : ((0 + 8) + 8) + 8 ≤ _)⟩)
  dsimp only [Pt.U, Pt.locs, Pt.cells, Pt.slots] at X7 l7 y7 z7 st7 hQ7
  rw [l7, y7, z7] at X7
  obtain ⟨o7, rfl, Nq7, Kq7, m7, kk7, nn7, vv7, Ea7, Eb7, Ec7, Ed7, Ee7⟩ := hQ7
  have N7 := Fr.app N6 Nq7
  have e7 : T7.heap = T7.heap := rfl
  refine own_by st7 ?_
  have O7 := O6.keep Kq7 all0
  have K7 := K6.trans Kq7 all0
  show own_Go p e below s _ _ (T7.setTop (mkF m 54 #[.val (.long c0), .second, .val (.long c1), .second, .val (.long c2), .second, .val (.long c3), .second, .val (.int pp), .val (.int ((pp &&& (2147483647 : Int32)) % (5 : Int32))), .val (.long A0), .second, .val (.long A1), .second, .val (.long A2), .second, .val (.long A3), .second, .val (.ref o5), .val (.ref o6), .unset, .unset, .unset, .unset, .unset, .unset] [(.ref o7)]))
  refine own_by (fun tz kz => XS.astore X7.here hx rfl (hb hby at_54) rfl rfl (l' := #[.val (.long c0), .second, .val (.long c1), .second, .val (.long c2), .second, .val (.long c3), .second, .val (.int pp), .val (.int ((pp &&& (2147483647 : Int32)) % (5 : Int32))), .val (.long A0), .second, .val (.long A1), .second, .val (.long A2), .second, .val (.long A3), .second, .val (.ref o5), .val (.ref o6), .val (.ref o7), .unset, .unset, .unset, .unset, .unset]) rfl kz) ?_
  show own_Go p e below s _ _ (T7.setTop (mkF m 56 #[.val (.long c0), .second, .val (.long c1), .second, .val (.long c2), .second, .val (.long c3), .second, .val (.int pp), .val (.int ((pp &&& (2147483647 : Int32)) % (5 : Int32))), .val (.long A0), .second, .val (.long A1), .second, .val (.long A2), .second, .val (.long A3), .second, .val (.ref o5), .val (.ref o6), .val (.ref o7), .unset, .unset, .unset, .unset, .unset] []))
  refine own_by (fun tz kz => XS.lload X7.here hx rfl (hb hby at_56) rfl kz) ?_
  show own_Go p e below s _ _ (T7.setTop (mkF m 58 #[.val (.long c0), .second, .val (.long c1), .second, .val (.long c2), .second, .val (.long c3), .second, .val (.int pp), .val (.int ((pp &&& (2147483647 : Int32)) % (5 : Int32))), .val (.long A0), .second, .val (.long A1), .second, .val (.long A2), .second, .val (.long A3), .second, .val (.ref o5), .val (.ref o6), .val (.ref o7), .unset, .unset, .unset, .unset, .unset] [(.long A3)]))
  obtain ⟨_, _, ⟨T8, L8, k8, n8⟩, -, X8, ⟨Lc8, hQ8, l8, y8, z8⟩, st8⟩ := Jvm.LawKit.callS X7 hx (y := (⟨"java/math/BigInteger", "valueOf", "(J)Ljava/math/BigInteger;"⟩ : MethodName)) hown (mvT hZ (hw _ (List.mem_of_getElem? (i := 5) rfl))) (mvT hZ (hw _ (List.mem_of_getElem? (i := 6) rfl))) (mvT hZ (hw _ (List.mem_of_getElem? (i := 7) rfl))) (mvT hZ (hw _ (List.mem_of_getElem? (i := 8) rfl))) (by decide) (backOf (W := 0) (rm_valueOf l Z a0 hw [] A3 pa na pc nc T7.heap n0 O7 S_pos S_neg T_pos T_neg hz3) hZ (hw _ (List.mem_of_getElem? (i := 8) rfl)) (hw _ (List.mem_of_getElem? (i := 7) rfl)) (by decide) (by decide)) (g := (mkF m 58 #[.val (.long c0), .second, .val (.long c1), .second, .val (.long c2), .second, .val (.long c3), .second, .val (.int pp), .val (.int ((pp &&& (2147483647 : Int32)) % (5 : Int32))), .val (.long A0), .second, .val (.long A1), .second, .val (.long A2), .second, .val (.long A3), .second, .val (.ref o5), .val (.ref o6), .val (.ref o7), .unset, .unset, .unset, .unset, .unset] [(.long A3)])) rfl (by rw [hml]; rfl) (argsL := [(.long A3)]) (rest := []) (lenOf pd_1 rfl) rfl (by show 2 * 0 + _ ≤ _; exact Nat.le_of_eq rfl) (hb hby at_58) (fun _ _ => ⟨rfl, e7, (by decide : (((0 + 2) + 2) + 2) + 2 ≤ _), (by decide : (((0 + 8) + 8) + 8) + 8 ≤ _)⟩)
  dsimp only [Pt.U, Pt.locs, Pt.cells, Pt.slots] at X8 l8 y8 z8 st8 hQ8
  rw [l8, y8, z8] at X8
  obtain ⟨o8, rfl, Nq8, Kq8, m8, kk8, nn8, vv8, Ea8, Eb8, Ec8, Ed8, Ee8⟩ := hQ8
  have N8 := Fr.app N7 Nq8
  have e8 : T8.heap = T8.heap := rfl
  refine own_by st8 ?_
  have O8 := O7.keep Kq8 all0
  have K8 := K7.trans Kq8 all0
  show own_Go p e below s _ _ (T8.setTop (mkF m 61 #[.val (.long c0), .second, .val (.long c1), .second, .val (.long c2), .second, .val (.long c3), .second, .val (.int pp), .val (.int ((pp &&& (2147483647 : Int32)) % (5 : Int32))), .val (.long A0), .second, .val (.long A1), .second, .val (.long A2), .second, .val (.long A3), .second, .val (.ref o5), .val (.ref o6), .val (.ref o7), .unset, .unset, .unset, .unset, .unset] [(.ref o8)]))
  refine own_by (fun tz kz => XS.astore X8.here hx rfl (hb hby at_61) rfl rfl (l' := #[.val (.long c0), .second, .val (.long c1), .second, .val (.long c2), .second, .val (.long c3), .second, .val (.int pp), .val (.int ((pp &&& (2147483647 : Int32)) % (5 : Int32))), .val (.long A0), .second, .val (.long A1), .second, .val (.long A2), .second, .val (.long A3), .second, .val (.ref o5), .val (.ref o6), .val (.ref o7), .val (.ref o8), .unset, .unset, .unset, .unset]) rfl kz) ?_
  show own_Go p e below s _ _ (T8.setTop (mkF m 63 #[.val (.long c0), .second, .val (.long c1), .second, .val (.long c2), .second, .val (.long c3), .second, .val (.int pp), .val (.int ((pp &&& (2147483647 : Int32)) % (5 : Int32))), .val (.long A0), .second, .val (.long A1), .second, .val (.long A2), .second, .val (.long A3), .second, .val (.ref o5), .val (.ref o6), .val (.ref o7), .val (.ref o8), .unset, .unset, .unset, .unset] []))
  obtain ⟨T9, h9, X9, e9, E9, A9, D9, -, st9⟩ := newO X8 hx hZ hown (hw _ (List.mem_of_getElem? (i := 32) rfl)) (hw _ (List.mem_of_getElem? (i := 33) rfl)) (hw _ (List.mem_of_getElem? (i := 34) rfl)) e8 (g := (mkF m 63 #[.val (.long c0), .second, .val (.long c1), .second, .val (.long c2), .second, .val (.long c3), .second, .val (.int pp), .val (.int ((pp &&& (2147483647 : Int32)) % (5 : Int32))), .val (.long A0), .second, .val (.long A1), .second, .val (.long A2), .second, .val (.long A3), .second, .val (.ref o5), .val (.ref o6), .val (.ref o7), .val (.ref o8), .unset, .unset, .unset, .unset] [])) rfl (hb hby at_63) (by decide) (by decide)
  obtain ⟨b9, g9⟩ : ∃ z, z = T8.heap.size := ⟨_, rfl⟩
  have f10 := (((Ea5.keep Kq6).keep Kq7).keep Kq8)
  have ne_o5_b9 : o5 ≠ b9 := by rw [g9]; exact Nat.ne_of_lt f10.lt
  have f11 := (((Ed5.keep Kq6 nin0).keep Kq7 nin0).keep Kq8 nin0)
  have ne_m5_b9 : m5 ≠ b9 := by rw [g9]; exact Nat.ne_of_lt (Arv.lt f11)
  have f12 := ((Ea6.keep Kq7).keep Kq8)
  have ne_o6_b9 : o6 ≠ b9 := by rw [g9]; exact Nat.ne_of_lt f12.lt
  have f13 := ((Ed6.keep Kq7 nin0).keep Kq8 nin0)
  have ne_m6_b9 : m6 ≠ b9 := by rw [g9]; exact Nat.ne_of_lt (Arv.lt f13)
  have f14 := (Ea7.keep Kq8)
  have ne_o7_b9 : o7 ≠ b9 := by rw [g9]; exact Nat.ne_of_lt f14.lt
  have f15 := (Ed7.keep Kq8 nin0)
  have ne_m7_b9 : m7 ≠ b9 := by rw [g9]; exact Nat.ne_of_lt (Arv.lt f15)
  have ne_o8_b9 : o8 ≠ b9 := by rw [g9]; exact Nat.ne_of_lt Ea8.lt
  have ne_m8_b9 : m8 ≠ b9 := by rw [g9]; exact Nat.ne_of_lt (Arv.lt Ed8)
  rw [← g9] at A9 D9 st9
  have g_b9 : n0 ≤ b9 := by rw [g9]; exact O8.1 ▸ O8.2.1
  have sz_b9 : h0.size ≤ b9 := by rw [g9]; exact K8.1
  have O9 := O8.ext E9
  have K9 := K8.ext E9
  refine own_by st9 ?_
  have F9_lowerUnit : Fld Z h9 b9 "com/example/liftwise/liftwise/eval/arithmetic/Solver$Sides" "lowerUnit" "Z" (.int (0 : Int32)) := D9 (Or.inl (hw _ (List.mem_of_getElem? (i := 40) rfl))) (ty := .boolean) (by decide)
  have F9_upperUnit : Fld Z h9 b9 "com/example/liftwise/liftwise/eval/arithmetic/Solver$Sides" "upperUnit" "Z" (.int (0 : Int32)) := D9 (Or.inl (hw _ (List.mem_of_getElem? (i := 42) rfl))) (ty := .boolean) (by decide)
  have F9_lower : Fld Z h9 b9 "com/example/liftwise/liftwise/eval/arithmetic/Solver$Sides" "lower" "I" (.int (0 : Int32)) := D9 (Or.inl (hw _ (List.mem_of_getElem? (i := 65) rfl))) (ty := .int) (by decide)
  have F9_upper : Fld Z h9 b9 "com/example/liftwise/liftwise/eval/arithmetic/Solver$Sides" "upper" "I" (.int (0 : Int32)) := D9 (Or.inl (hw _ (List.mem_of_getElem? (i := 76) rfl))) (ty := .int) (by decide)
  show own_Go p e below s _ _ (T9.setTop (mkF m 66 #[.val (.long c0), .second, .val (.long c1), .second, .val (.long c2), .second, .val (.long c3), .second, .val (.int pp), .val (.int ((pp &&& (2147483647 : Int32)) % (5 : Int32))), .val (.long A0), .second, .val (.long A1), .second, .val (.long A2), .second, .val (.long A3), .second, .val (.ref o5), .val (.ref o6), .val (.ref o7), .val (.ref o8), .unset, .unset, .unset, .unset] [(.ref b9)]))
  refine own_by (fun tz kz => XS.dup X9.here hx rfl (hb hby at_66) rfl rfl kz) ?_
  show own_Go p e below s _ _ (T9.setTop (mkF m 67 #[.val (.long c0), .second, .val (.long c1), .second, .val (.long c2), .second, .val (.long c3), .second, .val (.int pp), .val (.int ((pp &&& (2147483647 : Int32)) % (5 : Int32))), .val (.long A0), .second, .val (.long A1), .second, .val (.long A2), .second, .val (.long A3), .second, .val (.ref o5), .val (.ref o6), .val (.ref o7), .val (.ref o8), .unset, .unset, .unset, .unset] [(.ref b9), (.ref b9)]))
  obtain ⟨_, _, ⟨T16, L16, k16, n16⟩, -, X16, ⟨Lc16, hQ16, l16, y16, z16⟩, st16⟩ := X9.specialBack hx (y := (⟨"com/example/liftwise/liftwise/eval/arithmetic/Solver$Sides", "<init>", "()V"⟩ : MethodName)) rfl hown (mvT hZ (hw _ (List.mem_of_getElem? (i := 35) rfl))) (mvT hZ (hw _ (List.mem_of_getElem? (i := 36) rfl))) (mvT hZ (hw _ (List.mem_of_getElem? (i := 37) rfl))) (by decide) (backOf (W := 1) (rm_Sinit l Z a0 hw [] b9 h9 n0 O9 A9 F9_lower F9_upper F9_lowerUnit F9_upperUnit g_b9) hZ (hw _ (List.mem_of_getElem? (i := 37) rfl)) (hw _ (List.mem_of_getElem? (i := 34) rfl)) (by decide) (by decide)) (g := (mkF m 67 #[.val (.long c0), .second, .val (.long c1), .second, .val (.long c2), .second, .val (.long c3), .second, .val (.int pp), .val (.int ((pp &&& (2147483647 : Int32)) % (5 : Int32))), .val (.long A0), .second, .val (.long A1), .second, .val (.long A2), .second, .val (.long A3), .second, .val (.ref o5), .val (.ref o6), .val (.ref o7), .val (.ref o8), .unset, .unset, .unset, .unset] [(.ref b9), (.ref b9)])) rfl (by rw [hml]; rfl) (Steps.refl _) (a := b9) (argsL := []) (rest := [(.ref b9)]) (lenOf pd_3 rfl) rfl (by show 2 * 0 + _ ≤ _; exact Nat.le_of_eq rfl) (hb hby at_67) (fun _ _ => ⟨rfl, e9, (by decide : (((((0 + 2) + 2) + 2) + 2) + 1) + 0 ≤ _), (by decide : (((((0 + 8) + 8) + 8) + 8) + 4) + 0 ≤ _)⟩)
  dsimp only [Pt.U, Pt.locs, Pt.cells, Pt.slots] at X16 l16 y16 z16 st16 hQ16
  rw [l16, y16, z16] at X16
  obtain ⟨rfl, Nq16, Kq16, Fa16, Fb16, Fc16, Fd16⟩ := hQ16
  have N16 := Fr.app N8 Nq16
  have e16 : T16.heap = T16.heap := rfl
  refine own_via st16 ?_
  have O16 := O9.keep Kq16 (allS g_b9 all0)
  have K16 := K9.trans Kq16 (allS (Or.inr sz_b9) all0)
  show own_Go p e below s _ _ (T16.setTop (mkF m 70 #[.val (.long c0), .second, .val (.long c1), .second, .val (.long c2), .second, .val (.long c3), .second, .val (.int pp), .val (.int ((pp &&& (2147483647 : Int32)) % (5 : Int32))), .val (.long A0), .second, .val (.long A1), .second, .val (.long A2), .second, .val (.long A3), .second, .val (.ref o5), .val (.ref o6), .val (.ref o7), .val (.ref o8), .unset, .unset, .unset, .unset] [(.ref b9)]))
  refine own_by (fun tz kz => XS.astore X16.here hx rfl (hb hby at_70) rfl rfl (l' := #[.val (.long c0), .second, .val (.long c1), .second, .val (.long c2), .second, .val (.long c3), .second, .val (.int pp), .val (.int ((pp &&& (2147483647 : Int32)) % (5 : Int32))), .val (.long A0), .second, .val (.long A1), .second, .val (.long A2), .second, .val (.long A3), .second, .val (.ref o5), .val (.ref o6), .val (.ref o7), .val (.ref o8), .val (.ref b9), .unset, .unset, .unset]) rfl kz) ?_
  rw [← hI]
  rcases hk with rfl | rfl | rfl | rfl | rfl
  · show own_Go p e below s _ _ (T16.setTop (mkF m 72 #[.val (.long c0), .second, .val (.long c1), .second, .val (.long c2), .second, .val (.long c3), .second, .val (.int pp), .val (.int (0 : Int32)), .val (.long A0), .second, .val (.long A1), .second, .val (.long A2), .second, .val (.long A3), .second, .val (.ref o5), .val (.ref o6), .val (.ref o7), .val (.ref o8), .val (.ref b9), .unset, .unset, .unset] []))
    refine own_by (fun tz kz => XS.iload X16.here hx rfl (hb hby at_72) rfl  kz) ?_
    show own_Go p e below s _ _ (T16.setTop (mkF m 74 #[.val (.long c0), .second, .val (.long c1), .second, .val (.long c2), .second, .val (.long c3), .second, .val (.int pp), .val (.int (0 : Int32)), .val (.long A0), .second, .val (.long A1), .second, .val (.long A2), .second, .val (.long A3), .second, .val (.ref o5), .val (.ref o6), .val (.ref o7), .val (.ref o8), .val (.ref b9), .unset, .unset, .unset] [(.int (0 : Int32))]))
    refine own_by (fun tz kz => XS.ifYes X16.here hx rfl (pc0 := 74) (pc' := 84) rfl (hb hby at_74) rfl ((if0 _ _).trans (flt (by decide : ¬ (0 : Int32) < (0 : Int32))).2.2.2) (by decide) (by decide) kz) ?_
    show own_Go p e below s _ _ (T16.setTop (mkF m 84 #[.val (.long c0), .second, .val (.long c1), .second, .val (.long c2), .second, .val (.long c3), .second, .val (.int pp), .val (.int (0 : Int32)), .val (.long A0), .second, .val (.long A1), .second, .val (.long A2), .second, .val (.long A3), .second, .val (.ref o5), .val (.ref o6), .val (.ref o7), .val (.ref o8), .val (.ref b9), .unset, .unset, .unset] []))
    refine own_by (fun tz kz => XS.iload X16.here hx rfl (hb hby at_84) rfl  kz) ?_
    show own_Go p e below s _ _ (T16.setTop (mkF m 86 #[.val (.long c0), .second, .val (.long c1), .second, .val (.long c2), .second, .val (.long c3), .second, .val (.int pp), .val (.int (0 : Int32)), .val (.long A0), .second, .val (.long A1), .second, .val (.long A2), .second, .val (.long A3), .second, .val (.ref o5), .val (.ref o6), .val (.ref o7), .val (.ref o8), .val (.ref b9), .unset, .unset, .unset] [(.int (0 : Int32))]))
    refine own_by (fun tz kz => XS.iconst X16.here hx rfl (hb hby at_86) kz) ?_
    show own_Go p e below s _ _ (T16.setTop (mkF m 87 #[.val (.long c0), .second, .val (.long c1), .second, .val (.long c2), .second, .val (.long c3), .second, .val (.int pp), .val (.int (0 : Int32)), .val (.long A0), .second, .val (.long A1), .second, .val (.long A2), .second, .val (.long A3), .second, .val (.ref o5), .val (.ref o6), .val (.ref o7), .val (.ref o8), .val (.ref b9), .unset, .unset, .unset] [(.int (1 : Int32)), (.int (0 : Int32))]))
    refine own_by (fun tz kz => XS.icmpYes X16.here hx rfl (pc0 := 87) (pc' := 97) rfl (hb hby at_87) rfl (flt (by decide : ¬ (1 : Int32) < (0 : Int32))).2.2.2 (by decide) (by decide) kz) ?_
    show own_Go p e below s _ _ (T16.setTop (mkF m 97 #[.val (.long c0), .second, .val (.long c1), .second, .val (.long c2), .second, .val (.long c3), .second, .val (.int pp), .val (.int (0 : Int32)), .val (.long A0), .second, .val (.long A1), .second, .val (.long A2), .second, .val (.long A3), .second, .val (.ref o5), .val (.ref o6), .val (.ref o7), .val (.ref o8), .val (.ref b9), .unset, .unset, .unset] []))
    refine own_by (fun tz kz => XS.iload X16.here hx rfl (hb hby at_97) rfl  kz) ?_
    show own_Go p e below s _ _ (T16.setTop (mkF m 99 #[.val (.long c0), .second, .val (.long c1), .second, .val (.long c2), .second, .val (.long c3), .second, .val (.int pp), .val (.int (0 : Int32)), .val (.long A0), .second, .val (.long A1), .second, .val (.long A2), .second, .val (.long A3), .second, .val (.ref o5), .val (.ref o6), .val (.ref o7), .val (.ref o8), .val (.ref b9), .unset, .unset, .unset] [(.int (0 : Int32))]))
    refine own_by (fun tz kz => XS.iconst X16.here hx rfl (hb hby at_99) kz) ?_
    show own_Go p e below s _ _ (T16.setTop (mkF m 100 #[.val (.long c0), .second, .val (.long c1), .second, .val (.long c2), .second, .val (.long c3), .second, .val (.int pp), .val (.int (0 : Int32)), .val (.long A0), .second, .val (.long A1), .second, .val (.long A2), .second, .val (.long A3), .second, .val (.ref o5), .val (.ref o6), .val (.ref o7), .val (.ref o8), .val (.ref b9), .unset, .unset, .unset] [(.int (2 : Int32)), (.int (0 : Int32))]))
    refine own_by (fun tz kz => XS.icmpYes X16.here hx rfl (pc0 := 100) (pc' := 110) rfl (hb hby at_100) rfl (flt (by decide : ¬ (2 : Int32) < (0 : Int32))).2.2.2 (by decide) (by decide) kz) ?_
    show own_Go p e below s _ _ (T16.setTop (mkF m 110 #[.val (.long c0), .second, .val (.long c1), .second, .val (.long c2), .second, .val (.long c3), .second, .val (.int pp), .val (.int (0 : Int32)), .val (.long A0), .second, .val (.long A1), .second, .val (.long A2), .second, .val (.long A3), .second, .val (.ref o5), .val (.ref o6), .val (.ref o7), .val (.ref o8), .val (.ref b9), .unset, .unset, .unset] []))
    refine own_by (fun tz kz => XS.iload X16.here hx rfl (hb hby at_110) rfl  kz) ?_
    show own_Go p e below s _ _ (T16.setTop (mkF m 112 #[.val (.long c0), .second, .val (.long c1), .second, .val (.long c2), .second, .val (.long c3), .second, .val (.int pp), .val (.int (0 : Int32)), .val (.long A0), .second, .val (.long A1), .second, .val (.long A2), .second, .val (.long A3), .second, .val (.ref o5), .val (.ref o6), .val (.ref o7), .val (.ref o8), .val (.ref b9), .unset, .unset, .unset] [(.int (0 : Int32))]))
    refine own_by (fun tz kz => XS.iconst X16.here hx rfl (hb hby at_112) kz) ?_
    show own_Go p e below s _ _ (T16.setTop (mkF m 113 #[.val (.long c0), .second, .val (.long c1), .second, .val (.long c2), .second, .val (.long c3), .second, .val (.int pp), .val (.int (0 : Int32)), .val (.long A0), .second, .val (.long A1), .second, .val (.long A2), .second, .val (.long A3), .second, .val (.ref o5), .val (.ref o6), .val (.ref o7), .val (.ref o8), .val (.ref b9), .unset, .unset, .unset] [(.int (3 : Int32)), (.int (0 : Int32))]))
    refine own_by (fun tz kz => XS.icmpYes X16.here hx rfl (pc0 := 113) (pc' := 123) rfl (hb hby at_113) rfl (flt (by decide : ¬ (3 : Int32) < (0 : Int32))).2.2.2 (by decide) (by decide) kz) ?_
    show own_Go p e below s _ _ (T16.setTop (mkF m 123 #[.val (.long c0), .second, .val (.long c1), .second, .val (.long c2), .second, .val (.long c3), .second, .val (.int pp), .val (.int (0 : Int32)), .val (.long A0), .second, .val (.long A1), .second, .val (.long A2), .second, .val (.long A3), .second, .val (.ref o5), .val (.ref o6), .val (.ref o7), .val (.ref o8), .val (.ref b9), .unset, .unset, .unset] []))
    refine own_by (fun tz kz => XS.iload X16.here hx rfl (hb hby at_123) rfl  kz) ?_
    show own_Go p e below s _ _ (T16.setTop (mkF m 125 #[.val (.long c0), .second, .val (.long c1), .second, .val (.long c2), .second, .val (.long c3), .second, .val (.int pp), .val (.int (0 : Int32)), .val (.long A0), .second, .val (.long A1), .second, .val (.long A2), .second, .val (.long A3), .second, .val (.ref o5), .val (.ref o6), .val (.ref o7), .val (.ref o8), .val (.ref b9), .unset, .unset, .unset] [(.int (0 : Int32))]))
    refine own_by (fun tz kz => XS.ifYes X16.here hx rfl (pc0 := 125) (pc' := 132) rfl (hb hby at_125) rfl ((if0 _ _).trans (flt (by decide : ¬ (0 : Int32) < (0 : Int32))).2.2.2) (by decide) (by decide) kz) ?_
    show own_Go p e below s _ _ (T16.setTop (mkF m 132 #[.val (.long c0), .second, .val (.long c1), .second, .val (.long c2), .second, .val (.long c3), .second, .val (.int pp), .val (.int (0 : Int32)), .val (.long A0), .second, .val (.long A1), .second, .val (.long A2), .second, .val (.long A3), .second, .val (.ref o5), .val (.ref o6), .val (.ref o7), .val (.ref o8), .val (.ref b9), .unset, .unset, .unset] []))
    refine own_by (fun tz kz => XS.iconst X16.here hx rfl (hb hby at_132) kz) ?_
    show own_Go p e below s _ _ (T16.setTop (mkF m 133 #[.val (.long c0), .second, .val (.long c1), .second, .val (.long c2), .second, .val (.long c3), .second, .val (.int pp), .val (.int (0 : Int32)), .val (.long A0), .second, .val (.long A1), .second, .val (.long A2), .second, .val (.long A3), .second, .val (.ref o5), .val (.ref o6), .val (.ref o7), .val (.ref o8), .val (.ref b9), .unset, .unset, .unset] [(.int (0 : Int32))]))
    refine own_by (fun tz kz => XS.lload X16.here hx rfl (hb hby at_133) rfl kz) ?_
    show own_Go p e below s _ _ (T16.setTop (mkF m 135 #[.val (.long c0), .second, .val (.long c1), .second, .val (.long c2), .second, .val (.long c3), .second, .val (.int pp), .val (.int (0 : Int32)), .val (.long A0), .second, .val (.long A1), .second, .val (.long A2), .second, .val (.long A3), .second, .val (.ref o5), .val (.ref o6), .val (.ref o7), .val (.ref o8), .val (.ref b9), .unset, .unset, .unset] [(.long A0), (.int (0 : Int32))]))
    obtain ⟨_, _, ⟨T17, L17, k17, n17⟩, -, X17, ⟨Lc17, hQ17, l17, y17, z17⟩, st17⟩ := Jvm.LawKit.callS X16 hx (y := (⟨"com/example/liftwise/liftwise/eval/arithmetic/SidesIsOneSidedPinLaw", "positive", "(ZJ)I"⟩ : MethodName)) hown (mvT hZ (hw _ (List.mem_of_getElem? (i := 77) rfl))) (mvT hZ (hw _ (List.mem_of_getElem? (i := 78) rfl))) (mvT hZ (hw _ (List.mem_of_getElem? (i := 3) rfl))) (mvT hZ (hw _ (List.mem_of_getElem? (i := 79) rfl))) (by decide) (backOf (W := 0) (rm_ps l Z a0 hw [] (0 : Int32) A0 (0 : Int32) T16.heap n0 rfl) hZ (hw _ (List.mem_of_getElem? (i := 79) rfl)) (hw _ (List.mem_of_getElem? (i := 3) rfl)) (by decide) (by decide)) (g := (mkF m 135 #[.val (.long c0), .second, .val (.long c1), .second, .val (.long c2), .second, .val (.long c3), .second, .val (.int pp), .val (.int (0 : Int32)), .val (.long A0), .second, .val (.long A1), .second, .val (.long A2), .second, .val (.long A3), .second, .val (.ref o5), .val (.ref o6), .val (.ref o7), .val (.ref o8), .val (.ref b9), .unset, .unset, .unset] [(.long A0), (.int (0 : Int32))])) rfl (by rw [hml]; rfl) (argsL := [(.int (0 : Int32)), (.long A0)]) (rest := []) (lenOf pd_9 rfl) rfl (by show 2 * 0 + _ ≤ _; exact Nat.le_of_eq rfl) (hb hby at_135) (fun _ _ => ⟨rfl, e16, (by decide : (((((0 + 2) + 2) + 2) + 2) + 1) + 0 ≤ _), (by decide : (((((0 + 8) + 8) + 8) + 8) + 4) + 0 ≤ _)⟩)
    dsimp only [Pt.U, Pt.locs, Pt.cells, Pt.slots] at X17 l17 y17 z17 st17 hQ17
    rw [l17, y17, z17] at X17
    obtain ⟨rfl, Nq17, e17⟩ := hQ17
    have N17 := Fr.app N16 Nq17
    refine own_by st17 ?_
    show own_Go p e below s _ _ (T17.setTop (mkF m 138 #[.val (.long c0), .second, .val (.long c1), .second, .val (.long c2), .second, .val (.long c3), .second, .val (.int pp), .val (.int (0 : Int32)), .val (.long A0), .second, .val (.long A1), .second, .val (.long A2), .second, .val (.long A3), .second, .val (.ref o5), .val (.ref o6), .val (.ref o7), .val (.ref o8), .val (.ref b9), .unset, .unset, .unset] [(.int (0 : Int32))]))
    refine own_by (fun tz kz => XS.iload X17.here hx rfl (hb hby at_138) rfl  kz) ?_
    show own_Go p e below s _ _ (T17.setTop (mkF m 140 #[.val (.long c0), .second, .val (.long c1), .second, .val (.long c2), .second, .val (.long c3), .second, .val (.int pp), .val (.int (0 : Int32)), .val (.long A0), .second, .val (.long A1), .second, .val (.long A2), .second, .val (.long A3), .second, .val (.ref o5), .val (.ref o6), .val (.ref o7), .val (.ref o8), .val (.ref b9), .unset, .unset, .unset] [(.int (0 : Int32)), (.int (0 : Int32))]))
    refine own_by (fun tz kz => XS.iconst X17.here hx rfl (hb hby at_140) kz) ?_
    show own_Go p e below s _ _ (T17.setTop (mkF m 141 #[.val (.long c0), .second, .val (.long c1), .second, .val (.long c2), .second, .val (.long c3), .second, .val (.int pp), .val (.int (0 : Int32)), .val (.long A0), .second, .val (.long A1), .second, .val (.long A2), .second, .val (.long A3), .second, .val (.ref o5), .val (.ref o6), .val (.ref o7), .val (.ref o8), .val (.ref b9), .unset, .unset, .unset] [(.int (1 : Int32)), (.int (0 : Int32)), (.int (0 : Int32))]))
    refine own_by (fun tz kz => XS.icmpYes X17.here hx rfl (pc0 := 141) (pc' := 148) rfl (hb hby at_141) rfl (flt (by decide : ¬ (1 : Int32) < (0 : Int32))).2.2.2 (by decide) (by decide) kz) ?_
    show own_Go p e below s _ _ (T17.setTop (mkF m 148 #[.val (.long c0), .second, .val (.long c1), .second, .val (.long c2), .second, .val (.long c3), .second, .val (.int pp), .val (.int (0 : Int32)), .val (.long A0), .second, .val (.long A1), .second, .val (.long A2), .second, .val (.long A3), .second, .val (.ref o5), .val (.ref o6), .val (.ref o7), .val (.ref o8), .val (.ref b9), .unset, .unset, .unset] [(.int (0 : Int32))]))
    refine own_by (fun tz kz => XS.iconst X17.here hx rfl (hb hby at_148) kz) ?_
    show own_Go p e below s _ _ (T17.setTop (mkF m 149 #[.val (.long c0), .second, .val (.long c1), .second, .val (.long c2), .second, .val (.long c3), .second, .val (.int pp), .val (.int (0 : Int32)), .val (.long A0), .second, .val (.long A1), .second, .val (.long A2), .second, .val (.long A3), .second, .val (.ref o5), .val (.ref o6), .val (.ref o7), .val (.ref o8), .val (.ref b9), .unset, .unset, .unset] [(.int (0 : Int32)), (.int (0 : Int32))]))
    refine own_by (fun tz kz => XS.lload X17.here hx rfl (hb hby at_149) rfl kz) ?_
    show own_Go p e below s _ _ (T17.setTop (mkF m 151 #[.val (.long c0), .second, .val (.long c1), .second, .val (.long c2), .second, .val (.long c3), .second, .val (.int pp), .val (.int (0 : Int32)), .val (.long A0), .second, .val (.long A1), .second, .val (.long A2), .second, .val (.long A3), .second, .val (.ref o5), .val (.ref o6), .val (.ref o7), .val (.ref o8), .val (.ref b9), .unset, .unset, .unset] [(.long A1), (.int (0 : Int32)), (.int (0 : Int32))]))
    obtain ⟨_, _, ⟨T18, L18, k18, n18⟩, -, X18, ⟨Lc18, hQ18, l18, y18, z18⟩, st18⟩ := Jvm.LawKit.callS X17 hx (y := (⟨"com/example/liftwise/liftwise/eval/arithmetic/SidesIsOneSidedPinLaw", "positive", "(ZJ)I"⟩ : MethodName)) hown (mvT hZ (hw _ (List.mem_of_getElem? (i := 77) rfl))) (mvT hZ (hw _ (List.mem_of_getElem? (i := 78) rfl))) (mvT hZ (hw _ (List.mem_of_getElem? (i := 3) rfl))) (mvT hZ (hw _ (List.mem_of_getElem? (i := 79) rfl))) (by decide) (backOf (W := 1) (rm_ps l Z a0 hw [] (0 : Int32) A1 (0 : Int32) T16.heap n0 rfl) hZ (hw _ (List.mem_of_getElem? (i := 79) rfl)) (hw _ (List.mem_of_getElem? (i := 3) rfl)) (by decide) (by decide)) (g := (mkF m 151 #[.val (.long c0), .second, .val (.long c1), .second, .val (.long c2), .second, .val (.long c3), .second, .val (.int pp), .val (.int (0 : Int32)), .val (.long A0), .second, .val (.long A1), .second, .val (.long A2), .second, .val (.long A3), .second, .val (.ref o5), .val (.ref o6), .val (.ref o7), .val (.ref o8), .val (.ref b9), .unset, .unset, .unset] [(.long A1), (.int (0 : Int32)), (.int (0 : Int32))])) rfl (by rw [hml]; rfl) (argsL := [(.int (0 : Int32)), (.long A1)]) (rest := [(.int (0 : Int32))]) (lenOf pd_9 rfl) rfl (by show 2 * 0 + _ ≤ _; exact Nat.le_of_eq rfl) (hb hby at_151) (fun _ _ => ⟨rfl, e17, (by decide : (((((0 + 2) + 2) + 2) + 2) + 1) + 0 ≤ _), (by decide : (((((0 + 8) + 8) + 8) + 8) + 4) + 0 ≤ _)⟩)
    dsimp only [Pt.U, Pt.locs, Pt.cells, Pt.slots] at X18 l18 y18 z18 st18 hQ18
    rw [l18, y18, z18] at X18
    obtain ⟨rfl, Nq18, e18⟩ := hQ18
    have N18 := Fr.app N17 Nq18
    refine own_by st18 ?_
    show own_Go p e below s _ _ (T18.setTop (mkF m 154 #[.val (.long c0), .second, .val (.long c1), .second, .val (.long c2), .second, .val (.long c3), .second, .val (.int pp), .val (.int (0 : Int32)), .val (.long A0), .second, .val (.long A1), .second, .val (.long A2), .second, .val (.long A3), .second, .val (.ref o5), .val (.ref o6), .val (.ref o7), .val (.ref o8), .val (.ref b9), .unset, .unset, .unset] [(.int (0 : Int32)), (.int (0 : Int32))]))
    refine own_by (fun tz kz => XS.iadd X18.here hx rfl (hb hby at_154) rfl kz) ?_
    show own_Go p e below s _ _ (T18.setTop (mkF m 155 #[.val (.long c0), .second, .val (.long c1), .second, .val (.long c2), .second, .val (.long c3), .second, .val (.int pp), .val (.int (0 : Int32)), .val (.long A0), .second, .val (.long A1), .second, .val (.long A2), .second, .val (.long A3), .second, .val (.ref o5), .val (.ref o6), .val (.ref o7), .val (.ref o8), .val (.ref b9), .unset, .unset, .unset] [(.int ((0 : Int32) + (0 : Int32)))]))
    refine own_by (fun tz kz => XS.iload X18.here hx rfl (hb hby at_155) rfl  kz) ?_
    show own_Go p e below s _ _ (T18.setTop (mkF m 157 #[.val (.long c0), .second, .val (.long c1), .second, .val (.long c2), .second, .val (.long c3), .second, .val (.int pp), .val (.int (0 : Int32)), .val (.long A0), .second, .val (.long A1), .second, .val (.long A2), .second, .val (.long A3), .second, .val (.ref o5), .val (.ref o6), .val (.ref o7), .val (.ref o8), .val (.ref b9), .unset, .unset, .unset] [(.int (0 : Int32)), (.int ((0 : Int32) + (0 : Int32)))]))
    refine own_by (fun tz kz => XS.iconst X18.here hx rfl (hb hby at_157) kz) ?_
    show own_Go p e below s _ _ (T18.setTop (mkF m 158 #[.val (.long c0), .second, .val (.long c1), .second, .val (.long c2), .second, .val (.long c3), .second, .val (.int pp), .val (.int (0 : Int32)), .val (.long A0), .second, .val (.long A1), .second, .val (.long A2), .second, .val (.long A3), .second, .val (.ref o5), .val (.ref o6), .val (.ref o7), .val (.ref o8), .val (.ref b9), .unset, .unset, .unset] [(.int (2 : Int32)), (.int (0 : Int32)), (.int ((0 : Int32) + (0 : Int32)))]))
    refine own_by (fun tz kz => XS.icmpYes X18.here hx rfl (pc0 := 158) (pc' := 165) rfl (hb hby at_158) rfl (flt (by decide : ¬ (2 : Int32) < (0 : Int32))).2.2.2 (by decide) (by decide) kz) ?_
    show own_Go p e below s _ _ (T18.setTop (mkF m 165 #[.val (.long c0), .second, .val (.long c1), .second, .val (.long c2), .second, .val (.long c3), .second, .val (.int pp), .val (.int (0 : Int32)), .val (.long A0), .second, .val (.long A1), .second, .val (.long A2), .second, .val (.long A3), .second, .val (.ref o5), .val (.ref o6), .val (.ref o7), .val (.ref o8), .val (.ref b9), .unset, .unset, .unset] [(.int ((0 : Int32) + (0 : Int32)))]))
    refine own_by (fun tz kz => XS.iconst X18.here hx rfl (hb hby at_165) kz) ?_
    show own_Go p e below s _ _ (T18.setTop (mkF m 166 #[.val (.long c0), .second, .val (.long c1), .second, .val (.long c2), .second, .val (.long c3), .second, .val (.int pp), .val (.int (0 : Int32)), .val (.long A0), .second, .val (.long A1), .second, .val (.long A2), .second, .val (.long A3), .second, .val (.ref o5), .val (.ref o6), .val (.ref o7), .val (.ref o8), .val (.ref b9), .unset, .unset, .unset] [(.int (0 : Int32)), (.int ((0 : Int32) + (0 : Int32)))]))
    refine own_by (fun tz kz => XS.lload X18.here hx rfl (hb hby at_166) rfl kz) ?_
    show own_Go p e below s _ _ (T18.setTop (mkF m 168 #[.val (.long c0), .second, .val (.long c1), .second, .val (.long c2), .second, .val (.long c3), .second, .val (.int pp), .val (.int (0 : Int32)), .val (.long A0), .second, .val (.long A1), .second, .val (.long A2), .second, .val (.long A3), .second, .val (.ref o5), .val (.ref o6), .val (.ref o7), .val (.ref o8), .val (.ref b9), .unset, .unset, .unset] [(.long A2), (.int (0 : Int32)), (.int ((0 : Int32) + (0 : Int32)))]))
    obtain ⟨_, _, ⟨T19, L19, k19, n19⟩, -, X19, ⟨Lc19, hQ19, l19, y19, z19⟩, st19⟩ := Jvm.LawKit.callS X18 hx (y := (⟨"com/example/liftwise/liftwise/eval/arithmetic/SidesIsOneSidedPinLaw", "positive", "(ZJ)I"⟩ : MethodName)) hown (mvT hZ (hw _ (List.mem_of_getElem? (i := 77) rfl))) (mvT hZ (hw _ (List.mem_of_getElem? (i := 78) rfl))) (mvT hZ (hw _ (List.mem_of_getElem? (i := 3) rfl))) (mvT hZ (hw _ (List.mem_of_getElem? (i := 79) rfl))) (by decide) (backOf (W := 1) (rm_ps l Z a0 hw [] (0 : Int32) A2 (0 : Int32) T16.heap n0 rfl) hZ (hw _ (List.mem_of_getElem? (i := 79) rfl)) (hw _ (List.mem_of_getElem? (i := 3) rfl)) (by decide) (by decide)) (g := (mkF m 168 #[.val (.long c0), .second, .val (.long c1), .second, .val (.long c2), .second, .val (.long c3), .second, .val (.int pp), .val (.int (0 : Int32)), .val (.long A0), .second, .val (.long A1), .second, .val (.long A2), .second, .val (.long A3), .second, .val (.ref o5), .val (.ref o6), .val (.ref o7), .val (.ref o8), .val (.ref b9), .unset, .unset, .unset] [(.long A2), (.int (0 : Int32)), (.int ((0 : Int32) + (0 : Int32)))])) rfl (by rw [hml]; rfl) (argsL := [(.int (0 : Int32)), (.long A2)]) (rest := [(.int ((0 : Int32) + (0 : Int32)))]) (lenOf pd_9 rfl) rfl (by show 2 * 0 + _ ≤ _; exact Nat.le_of_eq rfl) (hb hby at_168) (fun _ _ => ⟨rfl, e18, (by decide : (((((0 + 2) + 2) + 2) + 2) + 1) + 0 ≤ _), (by decide : (((((0 + 8) + 8) + 8) + 8) + 4) + 0 ≤ _)⟩)
    dsimp only [Pt.U, Pt.locs, Pt.cells, Pt.slots] at X19 l19 y19 z19 st19 hQ19
    rw [l19, y19, z19] at X19
    obtain ⟨rfl, Nq19, e19⟩ := hQ19
    have N19 := Fr.app N18 Nq19
    refine own_by st19 ?_
    show own_Go p e below s _ _ (T19.setTop (mkF m 171 #[.val (.long c0), .second, .val (.long c1), .second, .val (.long c2), .second, .val (.long c3), .second, .val (.int pp), .val (.int (0 : Int32)), .val (.long A0), .second, .val (.long A1), .second, .val (.long A2), .second, .val (.long A3), .second, .val (.ref o5), .val (.ref o6), .val (.ref o7), .val (.ref o8), .val (.ref b9), .unset, .unset, .unset] [(.int (0 : Int32)), (.int ((0 : Int32) + (0 : Int32)))]))
    refine own_by (fun tz kz => XS.iadd X19.here hx rfl (hb hby at_171) rfl kz) ?_
    show own_Go p e below s _ _ (T19.setTop (mkF m 172 #[.val (.long c0), .second, .val (.long c1), .second, .val (.long c2), .second, .val (.long c3), .second, .val (.int pp), .val (.int (0 : Int32)), .val (.long A0), .second, .val (.long A1), .second, .val (.long A2), .second, .val (.long A3), .second, .val (.ref o5), .val (.ref o6), .val (.ref o7), .val (.ref o8), .val (.ref b9), .unset, .unset, .unset] [(.int (((0 : Int32) + (0 : Int32)) + (0 : Int32)))]))
    refine own_by (fun tz kz => XS.iload X19.here hx rfl (hb hby at_172) rfl  kz) ?_
    show own_Go p e below s _ _ (T19.setTop (mkF m 174 #[.val (.long c0), .second, .val (.long c1), .second, .val (.long c2), .second, .val (.long c3), .second, .val (.int pp), .val (.int (0 : Int32)), .val (.long A0), .second, .val (.long A1), .second, .val (.long A2), .second, .val (.long A3), .second, .val (.ref o5), .val (.ref o6), .val (.ref o7), .val (.ref o8), .val (.ref b9), .unset, .unset, .unset] [(.int (0 : Int32)), (.int (((0 : Int32) + (0 : Int32)) + (0 : Int32)))]))
    refine own_by (fun tz kz => XS.iconst X19.here hx rfl (hb hby at_174) kz) ?_
    show own_Go p e below s _ _ (T19.setTop (mkF m 175 #[.val (.long c0), .second, .val (.long c1), .second, .val (.long c2), .second, .val (.long c3), .second, .val (.int pp), .val (.int (0 : Int32)), .val (.long A0), .second, .val (.long A1), .second, .val (.long A2), .second, .val (.long A3), .second, .val (.ref o5), .val (.ref o6), .val (.ref o7), .val (.ref o8), .val (.ref b9), .unset, .unset, .unset] [(.int (3 : Int32)), (.int (0 : Int32)), (.int (((0 : Int32) + (0 : Int32)) + (0 : Int32)))]))
    refine own_by (fun tz kz => XS.icmpYes X19.here hx rfl (pc0 := 175) (pc' := 182) rfl (hb hby at_175) rfl (flt (by decide : ¬ (3 : Int32) < (0 : Int32))).2.2.2 (by decide) (by decide) kz) ?_
    show own_Go p e below s _ _ (T19.setTop (mkF m 182 #[.val (.long c0), .second, .val (.long c1), .second, .val (.long c2), .second, .val (.long c3), .second, .val (.int pp), .val (.int (0 : Int32)), .val (.long A0), .second, .val (.long A1), .second, .val (.long A2), .second, .val (.long A3), .second, .val (.ref o5), .val (.ref o6), .val (.ref o7), .val (.ref o8), .val (.ref b9), .unset, .unset, .unset] [(.int (((0 : Int32) + (0 : Int32)) + (0 : Int32)))]))
    refine own_by (fun tz kz => XS.iconst X19.here hx rfl (hb hby at_182) kz) ?_
    show own_Go p e below s _ _ (T19.setTop (mkF m 183 #[.val (.long c0), .second, .val (.long c1), .second, .val (.long c2), .second, .val (.long c3), .second, .val (.int pp), .val (.int (0 : Int32)), .val (.long A0), .second, .val (.long A1), .second, .val (.long A2), .second, .val (.long A3), .second, .val (.ref o5), .val (.ref o6), .val (.ref o7), .val (.ref o8), .val (.ref b9), .unset, .unset, .unset] [(.int (0 : Int32)), (.int (((0 : Int32) + (0 : Int32)) + (0 : Int32)))]))
    refine own_by (fun tz kz => XS.lload X19.here hx rfl (hb hby at_183) rfl kz) ?_
    show own_Go p e below s _ _ (T19.setTop (mkF m 185 #[.val (.long c0), .second, .val (.long c1), .second, .val (.long c2), .second, .val (.long c3), .second, .val (.int pp), .val (.int (0 : Int32)), .val (.long A0), .second, .val (.long A1), .second, .val (.long A2), .second, .val (.long A3), .second, .val (.ref o5), .val (.ref o6), .val (.ref o7), .val (.ref o8), .val (.ref b9), .unset, .unset, .unset] [(.long A3), (.int (0 : Int32)), (.int (((0 : Int32) + (0 : Int32)) + (0 : Int32)))]))
    obtain ⟨_, _, ⟨T20, L20, k20, n20⟩, -, X20, ⟨Lc20, hQ20, l20, y20, z20⟩, st20⟩ := Jvm.LawKit.callS X19 hx (y := (⟨"com/example/liftwise/liftwise/eval/arithmetic/SidesIsOneSidedPinLaw", "positive", "(ZJ)I"⟩ : MethodName)) hown (mvT hZ (hw _ (List.mem_of_getElem? (i := 77) rfl))) (mvT hZ (hw _ (List.mem_of_getElem? (i := 78) rfl))) (mvT hZ (hw _ (List.mem_of_getElem? (i := 3) rfl))) (mvT hZ (hw _ (List.mem_of_getElem? (i := 79) rfl))) (by decide) (backOf (W := 1) (rm_ps l Z a0 hw [] (0 : Int32) A3 (0 : Int32) T16.heap n0 rfl) hZ (hw _ (List.mem_of_getElem? (i := 79) rfl)) (hw _ (List.mem_of_getElem? (i := 3) rfl)) (by decide) (by decide)) (g := (mkF m 185 #[.val (.long c0), .second, .val (.long c1), .second, .val (.long c2), .second, .val (.long c3), .second, .val (.int pp), .val (.int (0 : Int32)), .val (.long A0), .second, .val (.long A1), .second, .val (.long A2), .second, .val (.long A3), .second, .val (.ref o5), .val (.ref o6), .val (.ref o7), .val (.ref o8), .val (.ref b9), .unset, .unset, .unset] [(.long A3), (.int (0 : Int32)), (.int (((0 : Int32) + (0 : Int32)) + (0 : Int32)))])) rfl (by rw [hml]; rfl) (argsL := [(.int (0 : Int32)), (.long A3)]) (rest := [(.int (((0 : Int32) + (0 : Int32)) + (0 : Int32)))]) (lenOf pd_9 rfl) rfl (by show 2 * 0 + _ ≤ _; exact Nat.le_of_eq rfl) (hb hby at_185) (fun _ _ => ⟨rfl, e19, (by decide : (((((0 + 2) + 2) + 2) + 2) + 1) + 0 ≤ _), (by decide : (((((0 + 8) + 8) + 8) + 8) + 4) + 0 ≤ _)⟩)
    dsimp only [Pt.U, Pt.locs, Pt.cells, Pt.slots] at X20 l20 y20 z20 st20 hQ20
    rw [l20, y20, z20] at X20
    obtain ⟨rfl, Nq20, e20⟩ := hQ20
    have N20 := Fr.app N19 Nq20
    refine own_by st20 ?_
    show own_Go p e below s _ _ (T20.setTop (mkF m 188 #[.val (.long c0), .second, .val (.long c1), .second, .val (.long c2), .second, .val (.long c3), .second, .val (.int pp), .val (.int (0 : Int32)), .val (.long A0), .second, .val (.long A1), .second, .val (.long A2), .second, .val (.long A3), .second, .val (.ref o5), .val (.ref o6), .val (.ref o7), .val (.ref o8), .val (.ref b9), .unset, .unset, .unset] [(.int (0 : Int32)), (.int (((0 : Int32) + (0 : Int32)) + (0 : Int32)))]))
    refine own_by (fun tz kz => XS.iadd X20.here hx rfl (hb hby at_188) rfl kz) ?_
    show own_Go p e below s _ _ (T20.setTop (mkF m 189 #[.val (.long c0), .second, .val (.long c1), .second, .val (.long c2), .second, .val (.long c3), .second, .val (.int pp), .val (.int (0 : Int32)), .val (.long A0), .second, .val (.long A1), .second, .val (.long A2), .second, .val (.long A3), .second, .val (.ref o5), .val (.ref o6), .val (.ref o7), .val (.ref o8), .val (.ref b9), .unset, .unset, .unset] [(.int ((((0 : Int32) + (0 : Int32)) + (0 : Int32)) + (0 : Int32)))]))
    refine own_by (fun tz kz => XS.istore X20.here hx rfl (hb hby at_189) rfl (l' := #[.val (.long c0), .second, .val (.long c1), .second, .val (.long c2), .second, .val (.long c3), .second, .val (.int pp), .val (.int (0 : Int32)), .val (.long A0), .second, .val (.long A1), .second, .val (.long A2), .second, .val (.long A3), .second, .val (.ref o5), .val (.ref o6), .val (.ref o7), .val (.ref o8), .val (.ref b9), .val (.int ((((0 : Int32) + (0 : Int32)) + (0 : Int32)) + (0 : Int32))), .unset, .unset]) rfl kz) ?_
    show own_Go p e below s _ _ (T20.setTop (mkF m 191 #[.val (.long c0), .second, .val (.long c1), .second, .val (.long c2), .second, .val (.long c3), .second, .val (.int pp), .val (.int (0 : Int32)), .val (.long A0), .second, .val (.long A1), .second, .val (.long A2), .second, .val (.long A3), .second, .val (.ref o5), .val (.ref o6), .val (.ref o7), .val (.ref o8), .val (.ref b9), .val (.int ((((0 : Int32) + (0 : Int32)) + (0 : Int32)) + (0 : Int32))), .unset, .unset] []))
    refine own_by (fun tz kz => XS.iload X20.here hx rfl (hb hby at_191) rfl  kz) ?_
    show own_Go p e below s _ _ (T20.setTop (mkF m 193 #[.val (.long c0), .second, .val (.long c1), .second, .val (.long c2), .second, .val (.long c3), .second, .val (.int pp), .val (.int (0 : Int32)), .val (.long A0), .second, .val (.long A1), .second, .val (.long A2), .second, .val (.long A3), .second, .val (.ref o5), .val (.ref o6), .val (.ref o7), .val (.ref o8), .val (.ref b9), .val (.int ((((0 : Int32) + (0 : Int32)) + (0 : Int32)) + (0 : Int32))), .unset, .unset] [(.int (0 : Int32))]))
    refine own_by (fun tz kz => XS.iload X20.here hx rfl (hb hby at_193) rfl  kz) ?_
    show own_Go p e below s _ _ (T20.setTop (mkF m 195 #[.val (.long c0), .second, .val (.long c1), .second, .val (.long c2), .second, .val (.long c3), .second, .val (.int pp), .val (.int (0 : Int32)), .val (.long A0), .second, .val (.long A1), .second, .val (.long A2), .second, .val (.long A3), .second, .val (.ref o5), .val (.ref o6), .val (.ref o7), .val (.ref o8), .val (.ref b9), .val (.int ((((0 : Int32) + (0 : Int32)) + (0 : Int32)) + (0 : Int32))), .unset, .unset] [(.int ((((0 : Int32) + (0 : Int32)) + (0 : Int32)) + (0 : Int32))), (.int (0 : Int32))]))
    refine own_by (fun tz kz => XS.isub X20.here hx rfl (hb hby at_195) rfl kz) ?_
    show own_Go p e below s _ _ (T20.setTop (mkF m 196 #[.val (.long c0), .second, .val (.long c1), .second, .val (.long c2), .second, .val (.long c3), .second, .val (.int pp), .val (.int (0 : Int32)), .val (.long A0), .second, .val (.long A1), .second, .val (.long A2), .second, .val (.long A3), .second, .val (.ref o5), .val (.ref o6), .val (.ref o7), .val (.ref o8), .val (.ref b9), .val (.int ((((0 : Int32) + (0 : Int32)) + (0 : Int32)) + (0 : Int32))), .unset, .unset] [(.int ((0 : Int32) - ((((0 : Int32) + (0 : Int32)) + (0 : Int32)) + (0 : Int32))))]))
    refine own_by (fun tz kz => XS.istore X20.here hx rfl (hb hby at_196) rfl (l' := #[.val (.long c0), .second, .val (.long c1), .second, .val (.long c2), .second, .val (.long c3), .second, .val (.int pp), .val (.int (0 : Int32)), .val (.long A0), .second, .val (.long A1), .second, .val (.long A2), .second, .val (.long A3), .second, .val (.ref o5), .val (.ref o6), .val (.ref o7), .val (.ref o8), .val (.ref b9), .val (.int ((((0 : Int32) + (0 : Int32)) + (0 : Int32)) + (0 : Int32))), .val (.int ((0 : Int32) - ((((0 : Int32) + (0 : Int32)) + (0 : Int32)) + (0 : Int32)))), .unset]) rfl kz) ?_
    show own_Go p e below s _ _ (T20.setTop (mkF m 198 #[.val (.long c0), .second, .val (.long c1), .second, .val (.long c2), .second, .val (.long c3), .second, .val (.int pp), .val (.int (0 : Int32)), .val (.long A0), .second, .val (.long A1), .second, .val (.long A2), .second, .val (.long A3), .second, .val (.ref o5), .val (.ref o6), .val (.ref o7), .val (.ref o8), .val (.ref b9), .val (.int ((((0 : Int32) + (0 : Int32)) + (0 : Int32)) + (0 : Int32))), .val (.int ((0 : Int32) - ((((0 : Int32) + (0 : Int32)) + (0 : Int32)) + (0 : Int32)))), .unset] []))
    refine own_by (fun tz kz => XS.iload X20.here hx rfl (hb hby at_198) rfl  kz) ?_
    show own_Go p e below s _ _ (T20.setTop (mkF m 200 #[.val (.long c0), .second, .val (.long c1), .second, .val (.long c2), .second, .val (.long c3), .second, .val (.int pp), .val (.int (0 : Int32)), .val (.long A0), .second, .val (.long A1), .second, .val (.long A2), .second, .val (.long A3), .second, .val (.ref o5), .val (.ref o6), .val (.ref o7), .val (.ref o8), .val (.ref b9), .val (.int ((((0 : Int32) + (0 : Int32)) + (0 : Int32)) + (0 : Int32))), .val (.int ((0 : Int32) - ((((0 : Int32) + (0 : Int32)) + (0 : Int32)) + (0 : Int32)))), .unset] [(.int ((((0 : Int32) + (0 : Int32)) + (0 : Int32)) + (0 : Int32)))]))
    by_cases hc200_21 : ((((0 : Int32) + (0 : Int32)) + (0 : Int32)) + (0 : Int32)) = (0 : Int32)
    · refine own_by (fun tz kz => XS.ifYes X20.here hx rfl (pc0 := 200) (pc' := 208) rfl (hb hby at_200) rfl ((if0 _ _).trans (teq hc200_21).1) (by decide) (by decide) kz) ?_
      show own_Go p e below s _ _ (T20.setTop (mkF m 208 #[.val (.long c0), .second, .val (.long c1), .second, .val (.long c2), .second, .val (.long c3), .second, .val (.int pp), .val (.int (0 : Int32)), .val (.long A0), .second, .val (.long A1), .second, .val (.long A2), .second, .val (.long A3), .second, .val (.ref o5), .val (.ref o6), .val (.ref o7), .val (.ref o8), .val (.ref b9), .val (.int ((((0 : Int32) + (0 : Int32)) + (0 : Int32)) + (0 : Int32))), .val (.int ((0 : Int32) - ((((0 : Int32) + (0 : Int32)) + (0 : Int32)) + (0 : Int32)))), .unset] []))
      refine own_by (fun tz kz => XS.iconst X20.here hx rfl (hb hby at_208) kz) ?_
      show own_Go p e below s _ _ (T20.setTop (mkF m 209 #[.val (.long c0), .second, .val (.long c1), .second, .val (.long c2), .second, .val (.long c3), .second, .val (.int pp), .val (.int (0 : Int32)), .val (.long A0), .second, .val (.long A1), .second, .val (.long A2), .second, .val (.long A3), .second, .val (.ref o5), .val (.ref o6), .val (.ref o7), .val (.ref o8), .val (.ref b9), .val (.int ((((0 : Int32) + (0 : Int32)) + (0 : Int32)) + (0 : Int32))), .val (.int ((0 : Int32) - ((((0 : Int32) + (0 : Int32)) + (0 : Int32)) + (0 : Int32)))), .unset] [(.int (1 : Int32))]))
      refine own_by (fun tz kz => XS.goto X20.here hx rfl (pc0 := 209) (pc' := 213) rfl (hb hby at_209) (by decide) (by decide) kz) ?_
      show own_Go p e below s _ _ (T20.setTop (mkF m 213 #[.val (.long c0), .second, .val (.long c1), .second, .val (.long c2), .second, .val (.long c3), .second, .val (.int pp), .val (.int (0 : Int32)), .val (.long A0), .second, .val (.long A1), .second, .val (.long A2), .second, .val (.long A3), .second, .val (.ref o5), .val (.ref o6), .val (.ref o7), .val (.ref o8), .val (.ref b9), .val (.int ((((0 : Int32) + (0 : Int32)) + (0 : Int32)) + (0 : Int32))), .val (.int ((0 : Int32) - ((((0 : Int32) + (0 : Int32)) + (0 : Int32)) + (0 : Int32)))), .unset] [(.int (1 : Int32))]))
      refine own_by (fun tz kz => XS.istore X20.here hx rfl (hb hby at_213) rfl (l' := #[.val (.long c0), .second, .val (.long c1), .second, .val (.long c2), .second, .val (.long c3), .second, .val (.int pp), .val (.int (0 : Int32)), .val (.long A0), .second, .val (.long A1), .second, .val (.long A2), .second, .val (.long A3), .second, .val (.ref o5), .val (.ref o6), .val (.ref o7), .val (.ref o8), .val (.ref b9), .val (.int ((((0 : Int32) + (0 : Int32)) + (0 : Int32)) + (0 : Int32))), .val (.int ((0 : Int32) - ((((0 : Int32) + (0 : Int32)) + (0 : Int32)) + (0 : Int32)))), .val (.int (1 : Int32))]) rfl kz) ?_
      show own_Go p e below s _ _ (T20.setTop (mkF m 215 #[.val (.long c0), .second, .val (.long c1), .second, .val (.long c2), .second, .val (.long c3), .second, .val (.int pp), .val (.int (0 : Int32)), .val (.long A0), .second, .val (.long A1), .second, .val (.long A2), .second, .val (.long A3), .second, .val (.ref o5), .val (.ref o6), .val (.ref o7), .val (.ref o8), .val (.ref b9), .val (.int ((((0 : Int32) + (0 : Int32)) + (0 : Int32)) + (0 : Int32))), .val (.int ((0 : Int32) - ((((0 : Int32) + (0 : Int32)) + (0 : Int32)) + (0 : Int32)))), .val (.int (1 : Int32))] []))
      refine own_by (fun tz kz => XS.aload X20.here hx rfl (hb hby at_215) rfl rfl kz) ?_
      show own_Go p e below s _ _ (T20.setTop (mkF m 217 #[.val (.long c0), .second, .val (.long c1), .second, .val (.long c2), .second, .val (.long c3), .second, .val (.int pp), .val (.int (0 : Int32)), .val (.long A0), .second, .val (.long A1), .second, .val (.long A2), .second, .val (.long A3), .second, .val (.ref o5), .val (.ref o6), .val (.ref o7), .val (.ref o8), .val (.ref b9), .val (.int ((((0 : Int32) + (0 : Int32)) + (0 : Int32)) + (0 : Int32))), .val (.int ((0 : Int32) - ((((0 : Int32) + (0 : Int32)) + (0 : Int32)) + (0 : Int32)))), .val (.int (1 : Int32))] [(.ref b9)]))
      have f22 := (A9.keep Kq16)
      obtain ⟨cq23, kq23, q23a, q23b, q23c⟩ := isOf hZ e20 f22
      obtain ⟨_, _, ⟨T23, L23, k23, n23⟩, -, X23, ⟨Lc23, hQ23, l23, y23, z23⟩, st23⟩ := X20.virtualBack hx (y := (⟨"com/example/liftwise/liftwise/eval/arithmetic/Solver$Sides", "isOneSided", "()Z"⟩ : MethodName)) (z := (⟨"com/example/liftwise/liftwise/eval/arithmetic/Solver$Sides", "isOneSided", "()Z"⟩ : MethodName)) hown (mvT hZ (hw _ (List.mem_of_getElem? (i := 80) rfl))) (mvT hZ (hw _ (List.mem_of_getElem? (i := 81) rfl))) (notFace_of_selects (args := #[]) (mvT hZ (hw _ (List.mem_of_getElem? (i := 83) rfl)))) (mvT hZ (hw _ (List.mem_of_getElem? (i := 83) rfl))) (mvT hZ (hw _ (List.mem_of_getElem? (i := 82) rfl))) (by decide) (backOf (W := 0) (rm_one l Z a0 hw [] b9 (0 : Int32) (0 : Int32) (1 : Int32) T16.heap n0 Fa16 Fb16 (if_pos (Or.inl ((own_rel0 A0 A1 A2 A3).1.mpr hc200_21))).symm) hZ (hw _ (List.mem_of_getElem? (i := 84) rfl)) (hw _ (List.mem_of_getElem? (i := 34) rfl)) (by decide) (by decide)) q23a q23c (g := (mkF m 217 #[.val (.long c0), .second, .val (.long c1), .second, .val (.long c2), .second, .val (.long c3), .second, .val (.int pp), .val (.int (0 : Int32)), .val (.long A0), .second, .val (.long A1), .second, .val (.long A2), .second, .val (.long A3), .second, .val (.ref o5), .val (.ref o6), .val (.ref o7), .val (.ref o8), .val (.ref b9), .val (.int ((((0 : Int32) + (0 : Int32)) + (0 : Int32)) + (0 : Int32))), .val (.int ((0 : Int32) - ((((0 : Int32) + (0 : Int32)) + (0 : Int32)) + (0 : Int32)))), .val (.int (1 : Int32))] [(.ref b9)])) rfl (by rw [hml]; rfl) (Steps.refl _) (argsL := []) (rest := []) (lenOf pd_10 rfl) rfl (by show 2 * 0 + _ ≤ _; exact Nat.le_of_eq rfl) (hb hby at_217) (fun _ _ => ⟨rfl, e20, (by decide : (((((0 + 2) + 2) + 2) + 2) + 1) + 0 ≤ _), (by decide : (((((0 + 8) + 8) + 8) + 8) + 4) + 0 ≤ _)⟩)
      dsimp only [Pt.U, Pt.locs, Pt.cells, Pt.slots] at X23 l23 y23 z23 st23 hQ23
      rw [l23, y23, z23] at X23
      obtain ⟨rfl, Nq23, e23⟩ := hQ23
      have N23 := Fr.app N20 Nq23
      refine own_via st23 ?_
      show own_Go p e below s _ _ (T23.setTop (mkF m 220 #[.val (.long c0), .second, .val (.long c1), .second, .val (.long c2), .second, .val (.long c3), .second, .val (.int pp), .val (.int (0 : Int32)), .val (.long A0), .second, .val (.long A1), .second, .val (.long A2), .second, .val (.long A3), .second, .val (.ref o5), .val (.ref o6), .val (.ref o7), .val (.ref o8), .val (.ref b9), .val (.int ((((0 : Int32) + (0 : Int32)) + (0 : Int32)) + (0 : Int32))), .val (.int ((0 : Int32) - ((((0 : Int32) + (0 : Int32)) + (0 : Int32)) + (0 : Int32)))), .val (.int (1 : Int32))] [(.int (1 : Int32))]))
      refine own_by (fun tz kz => XS.iload X23.here hx rfl (hb hby at_220) rfl  kz) ?_
      show own_Go p e below s _ _ (T23.setTop (mkF m 222 #[.val (.long c0), .second, .val (.long c1), .second, .val (.long c2), .second, .val (.long c3), .second, .val (.int pp), .val (.int (0 : Int32)), .val (.long A0), .second, .val (.long A1), .second, .val (.long A2), .second, .val (.long A3), .second, .val (.ref o5), .val (.ref o6), .val (.ref o7), .val (.ref o8), .val (.ref b9), .val (.int ((((0 : Int32) + (0 : Int32)) + (0 : Int32)) + (0 : Int32))), .val (.int ((0 : Int32) - ((((0 : Int32) + (0 : Int32)) + (0 : Int32)) + (0 : Int32)))), .val (.int (1 : Int32))] [(.int (1 : Int32)), (.int (1 : Int32))]))
      refine own_by (fun tz kz => XS.icmpNo X23.here hx rfl (hb hby at_222) rfl (teq (by decide : (1 : Int32) = (1 : Int32))).2 kz) ?_
      show own_Go p e below s _ _ (T23.setTop (mkF m 225 #[.val (.long c0), .second, .val (.long c1), .second, .val (.long c2), .second, .val (.long c3), .second, .val (.int pp), .val (.int (0 : Int32)), .val (.long A0), .second, .val (.long A1), .second, .val (.long A2), .second, .val (.long A3), .second, .val (.ref o5), .val (.ref o6), .val (.ref o7), .val (.ref o8), .val (.ref b9), .val (.int ((((0 : Int32) + (0 : Int32)) + (0 : Int32)) + (0 : Int32))), .val (.int ((0 : Int32) - ((((0 : Int32) + (0 : Int32)) + (0 : Int32)) + (0 : Int32)))), .val (.int (1 : Int32))] []))
      refine own_by (fun tz kz => XS.iconst X23.here hx rfl (hb hby at_225) kz) ?_
      show own_Go p e below s _ _ (T23.setTop (mkF m 226 #[.val (.long c0), .second, .val (.long c1), .second, .val (.long c2), .second, .val (.long c3), .second, .val (.int pp), .val (.int (0 : Int32)), .val (.long A0), .second, .val (.long A1), .second, .val (.long A2), .second, .val (.long A3), .second, .val (.ref o5), .val (.ref o6), .val (.ref o7), .val (.ref o8), .val (.ref b9), .val (.int ((((0 : Int32) + (0 : Int32)) + (0 : Int32)) + (0 : Int32))), .val (.int ((0 : Int32) - ((((0 : Int32) + (0 : Int32)) + (0 : Int32)) + (0 : Int32)))), .val (.int (1 : Int32))] [(.int (1 : Int32))]))
      refine own_by (fun tz kz => XS.goto X23.here hx rfl (pc0 := 226) (pc' := 230) rfl (hb hby at_226) (by decide) (by decide) kz) ?_
      show own_Go p e below s _ _ (T23.setTop (mkF m 230 #[.val (.long c0), .second, .val (.long c1), .second, .val (.long c2), .second, .val (.long c3), .second, .val (.int pp), .val (.int (0 : Int32)), .val (.long A0), .second, .val (.long A1), .second, .val (.long A2), .second, .val (.long A3), .second, .val (.ref o5), .val (.ref o6), .val (.ref o7), .val (.ref o8), .val (.ref b9), .val (.int ((((0 : Int32) + (0 : Int32)) + (0 : Int32)) + (0 : Int32))), .val (.int ((0 : Int32) - ((((0 : Int32) + (0 : Int32)) + (0 : Int32)) + (0 : Int32)))), .val (.int (1 : Int32))] [(.int (1 : Int32))]))
      refine own_retI X23 hx hlk (t := .boolean) hret (by simp) rfl (hb hby at_230) ?_ (by decide) (by decide)
      exact ⟨rfl, N23⟩
    · refine own_by (fun tz kz => XS.ifNo X20.here hx rfl (hb hby at_200) rfl ((if0 _ _).trans (feq hc200_21).1) kz) ?_
      show own_Go p e below s _ _ (T20.setTop (mkF m 203 #[.val (.long c0), .second, .val (.long c1), .second, .val (.long c2), .second, .val (.long c3), .second, .val (.int pp), .val (.int (0 : Int32)), .val (.long A0), .second, .val (.long A1), .second, .val (.long A2), .second, .val (.long A3), .second, .val (.ref o5), .val (.ref o6), .val (.ref o7), .val (.ref o8), .val (.ref b9), .val (.int ((((0 : Int32) + (0 : Int32)) + (0 : Int32)) + (0 : Int32))), .val (.int ((0 : Int32) - ((((0 : Int32) + (0 : Int32)) + (0 : Int32)) + (0 : Int32)))), .unset] []))
      refine own_by (fun tz kz => XS.iload X20.here hx rfl (hb hby at_203) rfl  kz) ?_
      show own_Go p e below s _ _ (T20.setTop (mkF m 205 #[.val (.long c0), .second, .val (.long c1), .second, .val (.long c2), .second, .val (.long c3), .second, .val (.int pp), .val (.int (0 : Int32)), .val (.long A0), .second, .val (.long A1), .second, .val (.long A2), .second, .val (.long A3), .second, .val (.ref o5), .val (.ref o6), .val (.ref o7), .val (.ref o8), .val (.ref b9), .val (.int ((((0 : Int32) + (0 : Int32)) + (0 : Int32)) + (0 : Int32))), .val (.int ((0 : Int32) - ((((0 : Int32) + (0 : Int32)) + (0 : Int32)) + (0 : Int32)))), .unset] [(.int ((0 : Int32) - ((((0 : Int32) + (0 : Int32)) + (0 : Int32)) + (0 : Int32))))]))
      by_cases hc205_24 : ((0 : Int32) - ((((0 : Int32) + (0 : Int32)) + (0 : Int32)) + (0 : Int32))) = (0 : Int32)
      · refine own_by (fun tz kz => XS.ifNo X20.here hx rfl (hb hby at_205) rfl ((if0 _ _).trans (teq hc205_24).2) kz) ?_
        show own_Go p e below s _ _ (T20.setTop (mkF m 208 #[.val (.long c0), .second, .val (.long c1), .second, .val (.long c2), .second, .val (.long c3), .second, .val (.int pp), .val (.int (0 : Int32)), .val (.long A0), .second, .val (.long A1), .second, .val (.long A2), .second, .val (.long A3), .second, .val (.ref o5), .val (.ref o6), .val (.ref o7), .val (.ref o8), .val (.ref b9), .val (.int ((((0 : Int32) + (0 : Int32)) + (0 : Int32)) + (0 : Int32))), .val (.int ((0 : Int32) - ((((0 : Int32) + (0 : Int32)) + (0 : Int32)) + (0 : Int32)))), .unset] []))
        refine own_by (fun tz kz => XS.iconst X20.here hx rfl (hb hby at_208) kz) ?_
        show own_Go p e below s _ _ (T20.setTop (mkF m 209 #[.val (.long c0), .second, .val (.long c1), .second, .val (.long c2), .second, .val (.long c3), .second, .val (.int pp), .val (.int (0 : Int32)), .val (.long A0), .second, .val (.long A1), .second, .val (.long A2), .second, .val (.long A3), .second, .val (.ref o5), .val (.ref o6), .val (.ref o7), .val (.ref o8), .val (.ref b9), .val (.int ((((0 : Int32) + (0 : Int32)) + (0 : Int32)) + (0 : Int32))), .val (.int ((0 : Int32) - ((((0 : Int32) + (0 : Int32)) + (0 : Int32)) + (0 : Int32)))), .unset] [(.int (1 : Int32))]))
        refine own_by (fun tz kz => XS.goto X20.here hx rfl (pc0 := 209) (pc' := 213) rfl (hb hby at_209) (by decide) (by decide) kz) ?_
        show own_Go p e below s _ _ (T20.setTop (mkF m 213 #[.val (.long c0), .second, .val (.long c1), .second, .val (.long c2), .second, .val (.long c3), .second, .val (.int pp), .val (.int (0 : Int32)), .val (.long A0), .second, .val (.long A1), .second, .val (.long A2), .second, .val (.long A3), .second, .val (.ref o5), .val (.ref o6), .val (.ref o7), .val (.ref o8), .val (.ref b9), .val (.int ((((0 : Int32) + (0 : Int32)) + (0 : Int32)) + (0 : Int32))), .val (.int ((0 : Int32) - ((((0 : Int32) + (0 : Int32)) + (0 : Int32)) + (0 : Int32)))), .unset] [(.int (1 : Int32))]))
        refine own_by (fun tz kz => XS.istore X20.here hx rfl (hb hby at_213) rfl (l' := #[.val (.long c0), .second, .val (.long c1), .second, .val (.long c2), .second, .val (.long c3), .second, .val (.int pp), .val (.int (0 : Int32)), .val (.long A0), .second, .val (.long A1), .second, .val (.long A2), .second, .val (.long A3), .second, .val (.ref o5), .val (.ref o6), .val (.ref o7), .val (.ref o8), .val (.ref b9), .val (.int ((((0 : Int32) + (0 : Int32)) + (0 : Int32)) + (0 : Int32))), .val (.int ((0 : Int32) - ((((0 : Int32) + (0 : Int32)) + (0 : Int32)) + (0 : Int32)))), .val (.int (1 : Int32))]) rfl kz) ?_
        show own_Go p e below s _ _ (T20.setTop (mkF m 215 #[.val (.long c0), .second, .val (.long c1), .second, .val (.long c2), .second, .val (.long c3), .second, .val (.int pp), .val (.int (0 : Int32)), .val (.long A0), .second, .val (.long A1), .second, .val (.long A2), .second, .val (.long A3), .second, .val (.ref o5), .val (.ref o6), .val (.ref o7), .val (.ref o8), .val (.ref b9), .val (.int ((((0 : Int32) + (0 : Int32)) + (0 : Int32)) + (0 : Int32))), .val (.int ((0 : Int32) - ((((0 : Int32) + (0 : Int32)) + (0 : Int32)) + (0 : Int32)))), .val (.int (1 : Int32))] []))
        refine own_by (fun tz kz => XS.aload X20.here hx rfl (hb hby at_215) rfl rfl kz) ?_
        show own_Go p e below s _ _ (T20.setTop (mkF m 217 #[.val (.long c0), .second, .val (.long c1), .second, .val (.long c2), .second, .val (.long c3), .second, .val (.int pp), .val (.int (0 : Int32)), .val (.long A0), .second, .val (.long A1), .second, .val (.long A2), .second, .val (.long A3), .second, .val (.ref o5), .val (.ref o6), .val (.ref o7), .val (.ref o8), .val (.ref b9), .val (.int ((((0 : Int32) + (0 : Int32)) + (0 : Int32)) + (0 : Int32))), .val (.int ((0 : Int32) - ((((0 : Int32) + (0 : Int32)) + (0 : Int32)) + (0 : Int32)))), .val (.int (1 : Int32))] [(.ref b9)]))
        have f25 := (A9.keep Kq16)
        obtain ⟨cq26, kq26, q26a, q26b, q26c⟩ := isOf hZ e20 f25
        obtain ⟨_, _, ⟨T26, L26, k26, n26⟩, -, X26, ⟨Lc26, hQ26, l26, y26, z26⟩, st26⟩ := X20.virtualBack hx (y := (⟨"com/example/liftwise/liftwise/eval/arithmetic/Solver$Sides", "isOneSided", "()Z"⟩ : MethodName)) (z := (⟨"com/example/liftwise/liftwise/eval/arithmetic/Solver$Sides", "isOneSided", "()Z"⟩ : MethodName)) hown (mvT hZ (hw _ (List.mem_of_getElem? (i := 80) rfl))) (mvT hZ (hw _ (List.mem_of_getElem? (i := 81) rfl))) (notFace_of_selects (args := #[]) (mvT hZ (hw _ (List.mem_of_getElem? (i := 83) rfl)))) (mvT hZ (hw _ (List.mem_of_getElem? (i := 83) rfl))) (mvT hZ (hw _ (List.mem_of_getElem? (i := 82) rfl))) (by decide) (backOf (W := 0) (rm_one l Z a0 hw [] b9 (0 : Int32) (0 : Int32) (1 : Int32) T16.heap n0 Fa16 Fb16 (if_pos (Or.inr ((own_rel0 A0 A1 A2 A3).2.mpr hc205_24))).symm) hZ (hw _ (List.mem_of_getElem? (i := 84) rfl)) (hw _ (List.mem_of_getElem? (i := 34) rfl)) (by decide) (by decide)) q26a q26c (g := (mkF m 217 #[.val (.long c0), .second, .val (.long c1), .second, .val (.long c2), .second, .val (.long c3), .second, .val (.int pp), .val (.int (0 : Int32)), .val (.long A0), .second, .val (.long A1), .second, .val (.long A2), .second, .val (.long A3), .second, .val (.ref o5), .val (.ref o6), .val (.ref o7), .val (.ref o8), .val (.ref b9), .val (.int ((((0 : Int32) + (0 : Int32)) + (0 : Int32)) + (0 : Int32))), .val (.int ((0 : Int32) - ((((0 : Int32) + (0 : Int32)) + (0 : Int32)) + (0 : Int32)))), .val (.int (1 : Int32))] [(.ref b9)])) rfl (by rw [hml]; rfl) (Steps.refl _) (argsL := []) (rest := []) (lenOf pd_10 rfl) rfl (by show 2 * 0 + _ ≤ _; exact Nat.le_of_eq rfl) (hb hby at_217) (fun _ _ => ⟨rfl, e20, (by decide : (((((0 + 2) + 2) + 2) + 2) + 1) + 0 ≤ _), (by decide : (((((0 + 8) + 8) + 8) + 8) + 4) + 0 ≤ _)⟩)
        dsimp only [Pt.U, Pt.locs, Pt.cells, Pt.slots] at X26 l26 y26 z26 st26 hQ26
        rw [l26, y26, z26] at X26
        obtain ⟨rfl, Nq26, e26⟩ := hQ26
        have N26 := Fr.app N20 Nq26
        refine own_via st26 ?_
        show own_Go p e below s _ _ (T26.setTop (mkF m 220 #[.val (.long c0), .second, .val (.long c1), .second, .val (.long c2), .second, .val (.long c3), .second, .val (.int pp), .val (.int (0 : Int32)), .val (.long A0), .second, .val (.long A1), .second, .val (.long A2), .second, .val (.long A3), .second, .val (.ref o5), .val (.ref o6), .val (.ref o7), .val (.ref o8), .val (.ref b9), .val (.int ((((0 : Int32) + (0 : Int32)) + (0 : Int32)) + (0 : Int32))), .val (.int ((0 : Int32) - ((((0 : Int32) + (0 : Int32)) + (0 : Int32)) + (0 : Int32)))), .val (.int (1 : Int32))] [(.int (1 : Int32))]))
        refine own_by (fun tz kz => XS.iload X26.here hx rfl (hb hby at_220) rfl  kz) ?_
        show own_Go p e below s _ _ (T26.setTop (mkF m 222 #[.val (.long c0), .second, .val (.long c1), .second, .val (.long c2), .second, .val (.long c3), .second, .val (.int pp), .val (.int (0 : Int32)), .val (.long A0), .second, .val (.long A1), .second, .val (.long A2), .second, .val (.long A3), .second, .val (.ref o5), .val (.ref o6), .val (.ref o7), .val (.ref o8), .val (.ref b9), .val (.int ((((0 : Int32) + (0 : Int32)) + (0 : Int32)) + (0 : Int32))), .val (.int ((0 : Int32) - ((((0 : Int32) + (0 : Int32)) + (0 : Int32)) + (0 : Int32)))), .val (.int (1 : Int32))] [(.int (1 : Int32)), (.int (1 : Int32))]))
        refine own_by (fun tz kz => XS.icmpNo X26.here hx rfl (hb hby at_222) rfl (teq (by decide : (1 : Int32) = (1 : Int32))).2 kz) ?_
        show own_Go p e below s _ _ (T26.setTop (mkF m 225 #[.val (.long c0), .second, .val (.long c1), .second, .val (.long c2), .second, .val (.long c3), .second, .val (.int pp), .val (.int (0 : Int32)), .val (.long A0), .second, .val (.long A1), .second, .val (.long A2), .second, .val (.long A3), .second, .val (.ref o5), .val (.ref o6), .val (.ref o7), .val (.ref o8), .val (.ref b9), .val (.int ((((0 : Int32) + (0 : Int32)) + (0 : Int32)) + (0 : Int32))), .val (.int ((0 : Int32) - ((((0 : Int32) + (0 : Int32)) + (0 : Int32)) + (0 : Int32)))), .val (.int (1 : Int32))] []))
        refine own_by (fun tz kz => XS.iconst X26.here hx rfl (hb hby at_225) kz) ?_
        show own_Go p e below s _ _ (T26.setTop (mkF m 226 #[.val (.long c0), .second, .val (.long c1), .second, .val (.long c2), .second, .val (.long c3), .second, .val (.int pp), .val (.int (0 : Int32)), .val (.long A0), .second, .val (.long A1), .second, .val (.long A2), .second, .val (.long A3), .second, .val (.ref o5), .val (.ref o6), .val (.ref o7), .val (.ref o8), .val (.ref b9), .val (.int ((((0 : Int32) + (0 : Int32)) + (0 : Int32)) + (0 : Int32))), .val (.int ((0 : Int32) - ((((0 : Int32) + (0 : Int32)) + (0 : Int32)) + (0 : Int32)))), .val (.int (1 : Int32))] [(.int (1 : Int32))]))
        refine own_by (fun tz kz => XS.goto X26.here hx rfl (pc0 := 226) (pc' := 230) rfl (hb hby at_226) (by decide) (by decide) kz) ?_
        show own_Go p e below s _ _ (T26.setTop (mkF m 230 #[.val (.long c0), .second, .val (.long c1), .second, .val (.long c2), .second, .val (.long c3), .second, .val (.int pp), .val (.int (0 : Int32)), .val (.long A0), .second, .val (.long A1), .second, .val (.long A2), .second, .val (.long A3), .second, .val (.ref o5), .val (.ref o6), .val (.ref o7), .val (.ref o8), .val (.ref b9), .val (.int ((((0 : Int32) + (0 : Int32)) + (0 : Int32)) + (0 : Int32))), .val (.int ((0 : Int32) - ((((0 : Int32) + (0 : Int32)) + (0 : Int32)) + (0 : Int32)))), .val (.int (1 : Int32))] [(.int (1 : Int32))]))
        refine own_retI X26 hx hlk (t := .boolean) hret (by simp) rfl (hb hby at_230) ?_ (by decide) (by decide)
        exact ⟨rfl, N26⟩
      · refine own_by (fun tz kz => XS.ifYes X20.here hx rfl (pc0 := 205) (pc' := 212) rfl (hb hby at_205) rfl ((if0 _ _).trans (feq hc205_24).2) (by decide) (by decide) kz) ?_
        show own_Go p e below s _ _ (T20.setTop (mkF m 212 #[.val (.long c0), .second, .val (.long c1), .second, .val (.long c2), .second, .val (.long c3), .second, .val (.int pp), .val (.int (0 : Int32)), .val (.long A0), .second, .val (.long A1), .second, .val (.long A2), .second, .val (.long A3), .second, .val (.ref o5), .val (.ref o6), .val (.ref o7), .val (.ref o8), .val (.ref b9), .val (.int ((((0 : Int32) + (0 : Int32)) + (0 : Int32)) + (0 : Int32))), .val (.int ((0 : Int32) - ((((0 : Int32) + (0 : Int32)) + (0 : Int32)) + (0 : Int32)))), .unset] []))
        refine own_by (fun tz kz => XS.iconst X20.here hx rfl (hb hby at_212) kz) ?_
        show own_Go p e below s _ _ (T20.setTop (mkF m 213 #[.val (.long c0), .second, .val (.long c1), .second, .val (.long c2), .second, .val (.long c3), .second, .val (.int pp), .val (.int (0 : Int32)), .val (.long A0), .second, .val (.long A1), .second, .val (.long A2), .second, .val (.long A3), .second, .val (.ref o5), .val (.ref o6), .val (.ref o7), .val (.ref o8), .val (.ref b9), .val (.int ((((0 : Int32) + (0 : Int32)) + (0 : Int32)) + (0 : Int32))), .val (.int ((0 : Int32) - ((((0 : Int32) + (0 : Int32)) + (0 : Int32)) + (0 : Int32)))), .unset] [(.int (0 : Int32))]))
        refine own_by (fun tz kz => XS.istore X20.here hx rfl (hb hby at_213) rfl (l' := #[.val (.long c0), .second, .val (.long c1), .second, .val (.long c2), .second, .val (.long c3), .second, .val (.int pp), .val (.int (0 : Int32)), .val (.long A0), .second, .val (.long A1), .second, .val (.long A2), .second, .val (.long A3), .second, .val (.ref o5), .val (.ref o6), .val (.ref o7), .val (.ref o8), .val (.ref b9), .val (.int ((((0 : Int32) + (0 : Int32)) + (0 : Int32)) + (0 : Int32))), .val (.int ((0 : Int32) - ((((0 : Int32) + (0 : Int32)) + (0 : Int32)) + (0 : Int32)))), .val (.int (0 : Int32))]) rfl kz) ?_
        show own_Go p e below s _ _ (T20.setTop (mkF m 215 #[.val (.long c0), .second, .val (.long c1), .second, .val (.long c2), .second, .val (.long c3), .second, .val (.int pp), .val (.int (0 : Int32)), .val (.long A0), .second, .val (.long A1), .second, .val (.long A2), .second, .val (.long A3), .second, .val (.ref o5), .val (.ref o6), .val (.ref o7), .val (.ref o8), .val (.ref b9), .val (.int ((((0 : Int32) + (0 : Int32)) + (0 : Int32)) + (0 : Int32))), .val (.int ((0 : Int32) - ((((0 : Int32) + (0 : Int32)) + (0 : Int32)) + (0 : Int32)))), .val (.int (0 : Int32))] []))
        refine own_by (fun tz kz => XS.aload X20.here hx rfl (hb hby at_215) rfl rfl kz) ?_
        show own_Go p e below s _ _ (T20.setTop (mkF m 217 #[.val (.long c0), .second, .val (.long c1), .second, .val (.long c2), .second, .val (.long c3), .second, .val (.int pp), .val (.int (0 : Int32)), .val (.long A0), .second, .val (.long A1), .second, .val (.long A2), .second, .val (.long A3), .second, .val (.ref o5), .val (.ref o6), .val (.ref o7), .val (.ref o8), .val (.ref b9), .val (.int ((((0 : Int32) + (0 : Int32)) + (0 : Int32)) + (0 : Int32))), .val (.int ((0 : Int32) - ((((0 : Int32) + (0 : Int32)) + (0 : Int32)) + (0 : Int32)))), .val (.int (0 : Int32))] [(.ref b9)]))
        have f27 := (A9.keep Kq16)
        obtain ⟨cq28, kq28, q28a, q28b, q28c⟩ := isOf hZ e20 f27
        obtain ⟨_, _, ⟨T28, L28, k28, n28⟩, -, X28, ⟨Lc28, hQ28, l28, y28, z28⟩, st28⟩ := X20.virtualBack hx (y := (⟨"com/example/liftwise/liftwise/eval/arithmetic/Solver$Sides", "isOneSided", "()Z"⟩ : MethodName)) (z := (⟨"com/example/liftwise/liftwise/eval/arithmetic/Solver$Sides", "isOneSided", "()Z"⟩ : MethodName)) hown (mvT hZ (hw _ (List.mem_of_getElem? (i := 80) rfl))) (mvT hZ (hw _ (List.mem_of_getElem? (i := 81) rfl))) (notFace_of_selects (args := #[]) (mvT hZ (hw _ (List.mem_of_getElem? (i := 83) rfl)))) (mvT hZ (hw _ (List.mem_of_getElem? (i := 83) rfl))) (mvT hZ (hw _ (List.mem_of_getElem? (i := 82) rfl))) (by decide) (backOf (W := 0) (rm_one l Z a0 hw [] b9 (0 : Int32) (0 : Int32) (0 : Int32) T16.heap n0 Fa16 Fb16 (if_neg (fun q => q.elim (fun q => hc200_21 ((own_rel0 A0 A1 A2 A3).1.mp q)) (fun q => hc205_24 ((own_rel0 A0 A1 A2 A3).2.mp q)))).symm) hZ (hw _ (List.mem_of_getElem? (i := 84) rfl)) (hw _ (List.mem_of_getElem? (i := 34) rfl)) (by decide) (by decide)) q28a q28c (g := (mkF m 217 #[.val (.long c0), .second, .val (.long c1), .second, .val (.long c2), .second, .val (.long c3), .second, .val (.int pp), .val (.int (0 : Int32)), .val (.long A0), .second, .val (.long A1), .second, .val (.long A2), .second, .val (.long A3), .second, .val (.ref o5), .val (.ref o6), .val (.ref o7), .val (.ref o8), .val (.ref b9), .val (.int ((((0 : Int32) + (0 : Int32)) + (0 : Int32)) + (0 : Int32))), .val (.int ((0 : Int32) - ((((0 : Int32) + (0 : Int32)) + (0 : Int32)) + (0 : Int32)))), .val (.int (0 : Int32))] [(.ref b9)])) rfl (by rw [hml]; rfl) (Steps.refl _) (argsL := []) (rest := []) (lenOf pd_10 rfl) rfl (by show 2 * 0 + _ ≤ _; exact Nat.le_of_eq rfl) (hb hby at_217) (fun _ _ => ⟨rfl, e20, (by decide : (((((0 + 2) + 2) + 2) + 2) + 1) + 0 ≤ _), (by decide : (((((0 + 8) + 8) + 8) + 8) + 4) + 0 ≤ _)⟩)
        dsimp only [Pt.U, Pt.locs, Pt.cells, Pt.slots] at X28 l28 y28 z28 st28 hQ28
        rw [l28, y28, z28] at X28
        obtain ⟨rfl, Nq28, e28⟩ := hQ28
        have N28 := Fr.app N20 Nq28
        refine own_via st28 ?_
        show own_Go p e below s _ _ (T28.setTop (mkF m 220 #[.val (.long c0), .second, .val (.long c1), .second, .val (.long c2), .second, .val (.long c3), .second, .val (.int pp), .val (.int (0 : Int32)), .val (.long A0), .second, .val (.long A1), .second, .val (.long A2), .second, .val (.long A3), .second, .val (.ref o5), .val (.ref o6), .val (.ref o7), .val (.ref o8), .val (.ref b9), .val (.int ((((0 : Int32) + (0 : Int32)) + (0 : Int32)) + (0 : Int32))), .val (.int ((0 : Int32) - ((((0 : Int32) + (0 : Int32)) + (0 : Int32)) + (0 : Int32)))), .val (.int (0 : Int32))] [(.int (0 : Int32))]))
        refine own_by (fun tz kz => XS.iload X28.here hx rfl (hb hby at_220) rfl  kz) ?_
        show own_Go p e below s _ _ (T28.setTop (mkF m 222 #[.val (.long c0), .second, .val (.long c1), .second, .val (.long c2), .second, .val (.long c3), .second, .val (.int pp), .val (.int (0 : Int32)), .val (.long A0), .second, .val (.long A1), .second, .val (.long A2), .second, .val (.long A3), .second, .val (.ref o5), .val (.ref o6), .val (.ref o7), .val (.ref o8), .val (.ref b9), .val (.int ((((0 : Int32) + (0 : Int32)) + (0 : Int32)) + (0 : Int32))), .val (.int ((0 : Int32) - ((((0 : Int32) + (0 : Int32)) + (0 : Int32)) + (0 : Int32)))), .val (.int (0 : Int32))] [(.int (0 : Int32)), (.int (0 : Int32))]))
        refine own_by (fun tz kz => XS.icmpNo X28.here hx rfl (hb hby at_222) rfl (teq (by decide : (0 : Int32) = (0 : Int32))).2 kz) ?_
        show own_Go p e below s _ _ (T28.setTop (mkF m 225 #[.val (.long c0), .second, .val (.long c1), .second, .val (.long c2), .second, .val (.long c3), .second, .val (.int pp), .val (.int (0 : Int32)), .val (.long A0), .second, .val (.long A1), .second, .val (.long A2), .second, .val (.long A3), .second, .val (.ref o5), .val (.ref o6), .val (.ref o7), .val (.ref o8), .val (.ref b9), .val (.int ((((0 : Int32) + (0 : Int32)) + (0 : Int32)) + (0 : Int32))), .val (.int ((0 : Int32) - ((((0 : Int32) + (0 : Int32)) + (0 : Int32)) + (0 : Int32)))), .val (.int (0 : Int32))] []))
        refine own_by (fun tz kz => XS.iconst X28.here hx rfl (hb hby at_225) kz) ?_
        show own_Go p e below s _ _ (T28.setTop (mkF m 226 #[.val (.long c0), .second, .val (.long c1), .second, .val (.long c2), .second, .val (.long c3), .second, .val (.int pp), .val (.int (0 : Int32)), .val (.long A0), .second, .val (.long A1), .second, .val (.long A2), .second, .val (.long A3), .second, .val (.ref o5), .val (.ref o6), .val (.ref o7), .val (.ref o8), .val (.ref b9), .val (.int ((((0 : Int32) + (0 : Int32)) + (0 : Int32)) + (0 : Int32))), .val (.int ((0 : Int32) - ((((0 : Int32) + (0 : Int32)) + (0 : Int32)) + (0 : Int32)))), .val (.int (0 : Int32))] [(.int (1 : Int32))]))
        refine own_by (fun tz kz => XS.goto X28.here hx rfl (pc0 := 226) (pc' := 230) rfl (hb hby at_226) (by decide) (by decide) kz) ?_
        show own_Go p e below s _ _ (T28.setTop (mkF m 230 #[.val (.long c0), .second, .val (.long c1), .second, .val (.long c2), .second, .val (.long c3), .second, .val (.int pp), .val (.int (0 : Int32)), .val (.long A0), .second, .val (.long A1), .second, .val (.long A2), .second, .val (.long A3), .second, .val (.ref o5), .val (.ref o6), .val (.ref o7), .val (.ref o8), .val (.ref b9), .val (.int ((((0 : Int32) + (0 : Int32)) + (0 : Int32)) + (0 : Int32))), .val (.int ((0 : Int32) - ((((0 : Int32) + (0 : Int32)) + (0 : Int32)) + (0 : Int32)))), .val (.int (0 : Int32))] [(.int (1 : Int32))]))
        refine own_retI X28 hx hlk (t := .boolean) hret (by simp) rfl (hb hby at_230) ?_ (by decide) (by decide)
        exact ⟨rfl, N28⟩
  · show own_Go p e below s _ _ (T16.setTop (mkF m 72 #[.val (.long c0), .second, .val (.long c1), .second, .val (.long c2), .second, .val (.long c3), .second, .val (.int pp), .val (.int (1 : Int32)), .val (.long A0), .second, .val (.long A1), .second, .val (.long A2), .second, .val (.long A3), .second, .val (.ref o5), .val (.ref o6), .val (.ref o7), .val (.ref o8), .val (.ref b9), .unset, .unset, .unset] []))
    refine own_by (fun tz kz => XS.iload X16.here hx rfl (hb hby at_72) rfl  kz) ?_
    show own_Go p e below s _ _ (T16.setTop (mkF m 74 #[.val (.long c0), .second, .val (.long c1), .second, .val (.long c2), .second, .val (.long c3), .second, .val (.int pp), .val (.int (1 : Int32)), .val (.long A0), .second, .val (.long A1), .second, .val (.long A2), .second, .val (.long A3), .second, .val (.ref o5), .val (.ref o6), .val (.ref o7), .val (.ref o8), .val (.ref b9), .unset, .unset, .unset] [(.int (1 : Int32))]))
    refine own_by (fun tz kz => XS.ifNo X16.here hx rfl (hb hby at_74) rfl ((if0 _ _).trans (tlt (by decide : (0 : Int32) < (1 : Int32))).2.2.2) kz) ?_
    show own_Go p e below s _ _ (T16.setTop (mkF m 77 #[.val (.long c0), .second, .val (.long c1), .second, .val (.long c2), .second, .val (.long c3), .second, .val (.int pp), .val (.int (1 : Int32)), .val (.long A0), .second, .val (.long A1), .second, .val (.long A2), .second, .val (.long A3), .second, .val (.ref o5), .val (.ref o6), .val (.ref o7), .val (.ref o8), .val (.ref b9), .unset, .unset, .unset] []))
    refine own_by (fun tz kz => XS.aload X16.here hx rfl (hb hby at_77) rfl rfl kz) ?_
    show own_Go p e below s _ _ (T16.setTop (mkF m 79 #[.val (.long c0), .second, .val (.long c1), .second, .val (.long c2), .second, .val (.long c3), .second, .val (.int pp), .val (.int (1 : Int32)), .val (.long A0), .second, .val (.long A1), .second, .val (.long A2), .second, .val (.long A3), .second, .val (.ref o5), .val (.ref o6), .val (.ref o7), .val (.ref o8), .val (.ref b9), .unset, .unset, .unset] [(.ref b9)]))
    refine own_by (fun tz kz => XS.aload X16.here hx rfl (hb hby at_79) rfl rfl kz) ?_
    show own_Go p e below s _ _ (T16.setTop (mkF m 81 #[.val (.long c0), .second, .val (.long c1), .second, .val (.long c2), .second, .val (.long c3), .second, .val (.int pp), .val (.int (1 : Int32)), .val (.long A0), .second, .val (.long A1), .second, .val (.long A2), .second, .val (.long A3), .second, .val (.ref o5), .val (.ref o6), .val (.ref o7), .val (.ref o8), .val (.ref b9), .unset, .unset, .unset] [(.ref o5), (.ref b9)]))
    have f29 := ((f10.ext E9).keep Kq16)
    have f30 := (((((Eb5.keep Kq6 nin0).keep Kq7 nin0).keep Kq8 nin0).ext E9).keep Kq16 (ninS ne_o5_b9 nin0))
    have f31 := (((((Ec5.keep Kq6 nin0).keep Kq7 nin0).keep Kq8 nin0).ext E9).keep Kq16 (ninS ne_o5_b9 nin0))
    have f32 := ((Arv.ext f11 E9).keep Kq16 (ninS ne_m5_b9 nin0))
    have f33 := (A9.keep Kq16)
    obtain ⟨cq34, kq34, q34a, q34b, q34c⟩ := isOf hZ e16 f33
    obtain ⟨_, _, ⟨T34, L34, k34, n34⟩, -, X34, ⟨Lc34, hQ34, l34, y34, z34⟩, st34⟩ := X16.virtualBack hx (y := (⟨"com/example/liftwise/liftwise/eval/arithmetic/Solver$Sides", "add", "(Ljava/math/BigInteger;)V"⟩ : MethodName)) (z := (⟨"com/example/liftwise/liftwise/eval/arithmetic/Solver$Sides", "add", "(Ljava/math/BigInteger;)V"⟩ : MethodName)) hown (mvT hZ (hw _ (List.mem_of_getElem? (i := 43) rfl))) (mvT hZ (hw _ (List.mem_of_getElem? (i := 44) rfl))) (notFace_of_selects (args := #[]) (mvT hZ (hw _ (List.mem_of_getElem? (i := 46) rfl)))) (mvT hZ (hw _ (List.mem_of_getElem? (i := 46) rfl))) (mvT hZ (hw _ (List.mem_of_getElem? (i := 45) rfl))) (by decide) (backOf (W := 0) (rm_add l Z a0 hw [] b9 o5 one om ko (own_sg A0) (own_un A0) (0 : Int32) (0 : Int32) (1 : Int32) (1 : Int32) (own_up A0 (0 : Int32)) (own_dn A0 (0 : Int32)) (own_lu A0 (1 : Int32)) (own_uu A0 (1 : Int32)) T16.heap n0 O16 S_ONE E_one Fs_one Fm_one V_one f33 Fa16 Fb16 Fc16 Fd16 g_b9 ⟨m5, kk5, nn5, vv5, f29, f30, f31, f32, Ee5⟩ (own_sg_or _) (own_un_or _) (Or.inr rfl) (Or.inr rfl) rfl rfl rfl rfl) hZ (hw _ (List.mem_of_getElem? (i := 47) rfl)) (hw _ (List.mem_of_getElem? (i := 34) rfl)) (by decide) (by decide)) q34a q34c (g := (mkF m 81 #[.val (.long c0), .second, .val (.long c1), .second, .val (.long c2), .second, .val (.long c3), .second, .val (.int pp), .val (.int (1 : Int32)), .val (.long A0), .second, .val (.long A1), .second, .val (.long A2), .second, .val (.long A3), .second, .val (.ref o5), .val (.ref o6), .val (.ref o7), .val (.ref o8), .val (.ref b9), .unset, .unset, .unset] [(.ref o5), (.ref b9)])) rfl (by rw [hml]; rfl) (Steps.refl _) (argsL := [(.ref o5)]) (rest := []) (lenOf pd_4 rfl) rfl (by show 2 * 0 + _ ≤ _; exact Nat.le_of_eq rfl) (hb hby at_81) (fun _ _ => ⟨rfl, e16, (by decide : (((((0 + 2) + 2) + 2) + 2) + 1) + 1 ≤ _), (by decide : (((((0 + 8) + 8) + 8) + 8) + 4) + 6 ≤ _)⟩)
    dsimp only [Pt.U, Pt.locs, Pt.cells, Pt.slots] at X34 l34 y34 z34 st34 hQ34
    rw [l34, y34, z34] at X34
    obtain ⟨rfl, Nq34, Kq34, Fa34, Fb34, Fc34, Fd34⟩ := hQ34
    have N34 := Fr.app N16 Nq34
    have e34 : T34.heap = T34.heap := rfl
    refine own_via st34 ?_
    have O34 := O16.keep Kq34 (allS g_b9 all0)
    have K34 := K16.trans Kq34 (allS (Or.inr sz_b9) all0)
    show own_Go p e below s _ _ (T34.setTop (mkF m 84 #[.val (.long c0), .second, .val (.long c1), .second, .val (.long c2), .second, .val (.long c3), .second, .val (.int pp), .val (.int (1 : Int32)), .val (.long A0), .second, .val (.long A1), .second, .val (.long A2), .second, .val (.long A3), .second, .val (.ref o5), .val (.ref o6), .val (.ref o7), .val (.ref o8), .val (.ref b9), .unset, .unset, .unset] []))
    refine own_by (fun tz kz => XS.iload X34.here hx rfl (hb hby at_84) rfl  kz) ?_
    show own_Go p e below s _ _ (T34.setTop (mkF m 86 #[.val (.long c0), .second, .val (.long c1), .second, .val (.long c2), .second, .val (.long c3), .second, .val (.int pp), .val (.int (1 : Int32)), .val (.long A0), .second, .val (.long A1), .second, .val (.long A2), .second, .val (.long A3), .second, .val (.ref o5), .val (.ref o6), .val (.ref o7), .val (.ref o8), .val (.ref b9), .unset, .unset, .unset] [(.int (1 : Int32))]))
    refine own_by (fun tz kz => XS.iconst X34.here hx rfl (hb hby at_86) kz) ?_
    show own_Go p e below s _ _ (T34.setTop (mkF m 87 #[.val (.long c0), .second, .val (.long c1), .second, .val (.long c2), .second, .val (.long c3), .second, .val (.int pp), .val (.int (1 : Int32)), .val (.long A0), .second, .val (.long A1), .second, .val (.long A2), .second, .val (.long A3), .second, .val (.ref o5), .val (.ref o6), .val (.ref o7), .val (.ref o8), .val (.ref b9), .unset, .unset, .unset] [(.int (1 : Int32)), (.int (1 : Int32))]))
    refine own_by (fun tz kz => XS.icmpYes X34.here hx rfl (pc0 := 87) (pc' := 97) rfl (hb hby at_87) rfl (flt (by decide : ¬ (1 : Int32) < (1 : Int32))).2.2.2 (by decide) (by decide) kz) ?_
    show own_Go p e below s _ _ (T34.setTop (mkF m 97 #[.val (.long c0), .second, .val (.long c1), .second, .val (.long c2), .second, .val (.long c3), .second, .val (.int pp), .val (.int (1 : Int32)), .val (.long A0), .second, .val (.long A1), .second, .val (.long A2), .second, .val (.long A3), .second, .val (.ref o5), .val (.ref o6), .val (.ref o7), .val (.ref o8), .val (.ref b9), .unset, .unset, .unset] []))
    refine own_by (fun tz kz => XS.iload X34.here hx rfl (hb hby at_97) rfl  kz) ?_
    show own_Go p e below s _ _ (T34.setTop (mkF m 99 #[.val (.long c0), .second, .val (.long c1), .second, .val (.long c2), .second, .val (.long c3), .second, .val (.int pp), .val (.int (1 : Int32)), .val (.long A0), .second, .val (.long A1), .second, .val (.long A2), .second, .val (.long A3), .second, .val (.ref o5), .val (.ref o6), .val (.ref o7), .val (.ref o8), .val (.ref b9), .unset, .unset, .unset] [(.int (1 : Int32))]))
    refine own_by (fun tz kz => XS.iconst X34.here hx rfl (hb hby at_99) kz) ?_
    show own_Go p e below s _ _ (T34.setTop (mkF m 100 #[.val (.long c0), .second, .val (.long c1), .second, .val (.long c2), .second, .val (.long c3), .second, .val (.int pp), .val (.int (1 : Int32)), .val (.long A0), .second, .val (.long A1), .second, .val (.long A2), .second, .val (.long A3), .second, .val (.ref o5), .val (.ref o6), .val (.ref o7), .val (.ref o8), .val (.ref b9), .unset, .unset, .unset] [(.int (2 : Int32)), (.int (1 : Int32))]))
    refine own_by (fun tz kz => XS.icmpYes X34.here hx rfl (pc0 := 100) (pc' := 110) rfl (hb hby at_100) rfl (flt (by decide : ¬ (2 : Int32) < (1 : Int32))).2.2.2 (by decide) (by decide) kz) ?_
    show own_Go p e below s _ _ (T34.setTop (mkF m 110 #[.val (.long c0), .second, .val (.long c1), .second, .val (.long c2), .second, .val (.long c3), .second, .val (.int pp), .val (.int (1 : Int32)), .val (.long A0), .second, .val (.long A1), .second, .val (.long A2), .second, .val (.long A3), .second, .val (.ref o5), .val (.ref o6), .val (.ref o7), .val (.ref o8), .val (.ref b9), .unset, .unset, .unset] []))
    refine own_by (fun tz kz => XS.iload X34.here hx rfl (hb hby at_110) rfl  kz) ?_
    show own_Go p e below s _ _ (T34.setTop (mkF m 112 #[.val (.long c0), .second, .val (.long c1), .second, .val (.long c2), .second, .val (.long c3), .second, .val (.int pp), .val (.int (1 : Int32)), .val (.long A0), .second, .val (.long A1), .second, .val (.long A2), .second, .val (.long A3), .second, .val (.ref o5), .val (.ref o6), .val (.ref o7), .val (.ref o8), .val (.ref b9), .unset, .unset, .unset] [(.int (1 : Int32))]))
    refine own_by (fun tz kz => XS.iconst X34.here hx rfl (hb hby at_112) kz) ?_
    show own_Go p e below s _ _ (T34.setTop (mkF m 113 #[.val (.long c0), .second, .val (.long c1), .second, .val (.long c2), .second, .val (.long c3), .second, .val (.int pp), .val (.int (1 : Int32)), .val (.long A0), .second, .val (.long A1), .second, .val (.long A2), .second, .val (.long A3), .second, .val (.ref o5), .val (.ref o6), .val (.ref o7), .val (.ref o8), .val (.ref b9), .unset, .unset, .unset] [(.int (3 : Int32)), (.int (1 : Int32))]))
    refine own_by (fun tz kz => XS.icmpYes X34.here hx rfl (pc0 := 113) (pc' := 123) rfl (hb hby at_113) rfl (flt (by decide : ¬ (3 : Int32) < (1 : Int32))).2.2.2 (by decide) (by decide) kz) ?_
    show own_Go p e below s _ _ (T34.setTop (mkF m 123 #[.val (.long c0), .second, .val (.long c1), .second, .val (.long c2), .second, .val (.long c3), .second, .val (.int pp), .val (.int (1 : Int32)), .val (.long A0), .second, .val (.long A1), .second, .val (.long A2), .second, .val (.long A3), .second, .val (.ref o5), .val (.ref o6), .val (.ref o7), .val (.ref o8), .val (.ref b9), .unset, .unset, .unset] []))
    refine own_by (fun tz kz => XS.iload X34.here hx rfl (hb hby at_123) rfl  kz) ?_
    show own_Go p e below s _ _ (T34.setTop (mkF m 125 #[.val (.long c0), .second, .val (.long c1), .second, .val (.long c2), .second, .val (.long c3), .second, .val (.int pp), .val (.int (1 : Int32)), .val (.long A0), .second, .val (.long A1), .second, .val (.long A2), .second, .val (.long A3), .second, .val (.ref o5), .val (.ref o6), .val (.ref o7), .val (.ref o8), .val (.ref b9), .unset, .unset, .unset] [(.int (1 : Int32))]))
    refine own_by (fun tz kz => XS.ifNo X34.here hx rfl (hb hby at_125) rfl ((if0 _ _).trans (tlt (by decide : (0 : Int32) < (1 : Int32))).2.2.2) kz) ?_
    show own_Go p e below s _ _ (T34.setTop (mkF m 128 #[.val (.long c0), .second, .val (.long c1), .second, .val (.long c2), .second, .val (.long c3), .second, .val (.int pp), .val (.int (1 : Int32)), .val (.long A0), .second, .val (.long A1), .second, .val (.long A2), .second, .val (.long A3), .second, .val (.ref o5), .val (.ref o6), .val (.ref o7), .val (.ref o8), .val (.ref b9), .unset, .unset, .unset] []))
    refine own_by (fun tz kz => XS.iconst X34.here hx rfl (hb hby at_128) kz) ?_
    show own_Go p e below s _ _ (T34.setTop (mkF m 129 #[.val (.long c0), .second, .val (.long c1), .second, .val (.long c2), .second, .val (.long c3), .second, .val (.int pp), .val (.int (1 : Int32)), .val (.long A0), .second, .val (.long A1), .second, .val (.long A2), .second, .val (.long A3), .second, .val (.ref o5), .val (.ref o6), .val (.ref o7), .val (.ref o8), .val (.ref b9), .unset, .unset, .unset] [(.int (1 : Int32))]))
    refine own_by (fun tz kz => XS.goto X34.here hx rfl (pc0 := 129) (pc' := 133) rfl (hb hby at_129) (by decide) (by decide) kz) ?_
    show own_Go p e below s _ _ (T34.setTop (mkF m 133 #[.val (.long c0), .second, .val (.long c1), .second, .val (.long c2), .second, .val (.long c3), .second, .val (.int pp), .val (.int (1 : Int32)), .val (.long A0), .second, .val (.long A1), .second, .val (.long A2), .second, .val (.long A3), .second, .val (.ref o5), .val (.ref o6), .val (.ref o7), .val (.ref o8), .val (.ref b9), .unset, .unset, .unset] [(.int (1 : Int32))]))
    refine own_by (fun tz kz => XS.lload X34.here hx rfl (hb hby at_133) rfl kz) ?_
    show own_Go p e below s _ _ (T34.setTop (mkF m 135 #[.val (.long c0), .second, .val (.long c1), .second, .val (.long c2), .second, .val (.long c3), .second, .val (.int pp), .val (.int (1 : Int32)), .val (.long A0), .second, .val (.long A1), .second, .val (.long A2), .second, .val (.long A3), .second, .val (.ref o5), .val (.ref o6), .val (.ref o7), .val (.ref o8), .val (.ref b9), .unset, .unset, .unset] [(.long A0), (.int (1 : Int32))]))
    obtain ⟨_, _, ⟨T35, L35, k35, n35⟩, -, X35, ⟨Lc35, hQ35, l35, y35, z35⟩, st35⟩ := Jvm.LawKit.callS X34 hx (y := (⟨"com/example/liftwise/liftwise/eval/arithmetic/SidesIsOneSidedPinLaw", "positive", "(ZJ)I"⟩ : MethodName)) hown (mvT hZ (hw _ (List.mem_of_getElem? (i := 77) rfl))) (mvT hZ (hw _ (List.mem_of_getElem? (i := 78) rfl))) (mvT hZ (hw _ (List.mem_of_getElem? (i := 3) rfl))) (mvT hZ (hw _ (List.mem_of_getElem? (i := 79) rfl))) (by decide) (backOf (W := 0) (rm_ps l Z a0 hw [] (1 : Int32) A0 Q0 T34.heap n0 hQ0) hZ (hw _ (List.mem_of_getElem? (i := 79) rfl)) (hw _ (List.mem_of_getElem? (i := 3) rfl)) (by decide) (by decide)) (g := (mkF m 135 #[.val (.long c0), .second, .val (.long c1), .second, .val (.long c2), .second, .val (.long c3), .second, .val (.int pp), .val (.int (1 : Int32)), .val (.long A0), .second, .val (.long A1), .second, .val (.long A2), .second, .val (.long A3), .second, .val (.ref o5), .val (.ref o6), .val (.ref o7), .val (.ref o8), .val (.ref b9), .unset, .unset, .unset] [(.long A0), (.int (1 : Int32))])) rfl (by rw [hml]; rfl) (argsL := [(.int (1 : Int32)), (.long A0)]) (rest := []) (lenOf pd_9 rfl) rfl (by show 2 * 0 + _ ≤ _; exact Nat.le_of_eq rfl) (hb hby at_135) (fun _ _ => ⟨rfl, e34, (by decide : ((((((0 + 2) + 2) + 2) + 2) + 1) + 1) + 0 ≤ _), (by decide : ((((((0 + 8) + 8) + 8) + 8) + 4) + 6) + 0 ≤ _)⟩)
    dsimp only [Pt.U, Pt.locs, Pt.cells, Pt.slots] at X35 l35 y35 z35 st35 hQ35
    rw [l35, y35, z35] at X35
    obtain ⟨rfl, Nq35, e35⟩ := hQ35
    have N35 := Fr.app N34 Nq35
    refine own_by st35 ?_
    show own_Go p e below s _ _ (T35.setTop (mkF m 138 #[.val (.long c0), .second, .val (.long c1), .second, .val (.long c2), .second, .val (.long c3), .second, .val (.int pp), .val (.int (1 : Int32)), .val (.long A0), .second, .val (.long A1), .second, .val (.long A2), .second, .val (.long A3), .second, .val (.ref o5), .val (.ref o6), .val (.ref o7), .val (.ref o8), .val (.ref b9), .unset, .unset, .unset] [(.int Q0)]))
    refine own_by (fun tz kz => XS.iload X35.here hx rfl (hb hby at_138) rfl  kz) ?_
    show own_Go p e below s _ _ (T35.setTop (mkF m 140 #[.val (.long c0), .second, .val (.long c1), .second, .val (.long c2), .second, .val (.long c3), .second, .val (.int pp), .val (.int (1 : Int32)), .val (.long A0), .second, .val (.long A1), .second, .val (.long A2), .second, .val (.long A3), .second, .val (.ref o5), .val (.ref o6), .val (.ref o7), .val (.ref o8), .val (.ref b9), .unset, .unset, .unset] [(.int (1 : Int32)), (.int Q0)]))
    refine own_by (fun tz kz => XS.iconst X35.here hx rfl (hb hby at_140) kz) ?_
    show own_Go p e below s _ _ (T35.setTop (mkF m 141 #[.val (.long c0), .second, .val (.long c1), .second, .val (.long c2), .second, .val (.long c3), .second, .val (.int pp), .val (.int (1 : Int32)), .val (.long A0), .second, .val (.long A1), .second, .val (.long A2), .second, .val (.long A3), .second, .val (.ref o5), .val (.ref o6), .val (.ref o7), .val (.ref o8), .val (.ref b9), .unset, .unset, .unset] [(.int (1 : Int32)), (.int (1 : Int32)), (.int Q0)]))
    refine own_by (fun tz kz => XS.icmpYes X35.here hx rfl (pc0 := 141) (pc' := 148) rfl (hb hby at_141) rfl (flt (by decide : ¬ (1 : Int32) < (1 : Int32))).2.2.2 (by decide) (by decide) kz) ?_
    show own_Go p e below s _ _ (T35.setTop (mkF m 148 #[.val (.long c0), .second, .val (.long c1), .second, .val (.long c2), .second, .val (.long c3), .second, .val (.int pp), .val (.int (1 : Int32)), .val (.long A0), .second, .val (.long A1), .second, .val (.long A2), .second, .val (.long A3), .second, .val (.ref o5), .val (.ref o6), .val (.ref o7), .val (.ref o8), .val (.ref b9), .unset, .unset, .unset] [(.int Q0)]))
    refine own_by (fun tz kz => XS.iconst X35.here hx rfl (hb hby at_148) kz) ?_
    show own_Go p e below s _ _ (T35.setTop (mkF m 149 #[.val (.long c0), .second, .val (.long c1), .second, .val (.long c2), .second, .val (.long c3), .second, .val (.int pp), .val (.int (1 : Int32)), .val (.long A0), .second, .val (.long A1), .second, .val (.long A2), .second, .val (.long A3), .second, .val (.ref o5), .val (.ref o6), .val (.ref o7), .val (.ref o8), .val (.ref b9), .unset, .unset, .unset] [(.int (0 : Int32)), (.int Q0)]))
    refine own_by (fun tz kz => XS.lload X35.here hx rfl (hb hby at_149) rfl kz) ?_
    show own_Go p e below s _ _ (T35.setTop (mkF m 151 #[.val (.long c0), .second, .val (.long c1), .second, .val (.long c2), .second, .val (.long c3), .second, .val (.int pp), .val (.int (1 : Int32)), .val (.long A0), .second, .val (.long A1), .second, .val (.long A2), .second, .val (.long A3), .second, .val (.ref o5), .val (.ref o6), .val (.ref o7), .val (.ref o8), .val (.ref b9), .unset, .unset, .unset] [(.long A1), (.int (0 : Int32)), (.int Q0)]))
    obtain ⟨_, _, ⟨T36, L36, k36, n36⟩, -, X36, ⟨Lc36, hQ36, l36, y36, z36⟩, st36⟩ := Jvm.LawKit.callS X35 hx (y := (⟨"com/example/liftwise/liftwise/eval/arithmetic/SidesIsOneSidedPinLaw", "positive", "(ZJ)I"⟩ : MethodName)) hown (mvT hZ (hw _ (List.mem_of_getElem? (i := 77) rfl))) (mvT hZ (hw _ (List.mem_of_getElem? (i := 78) rfl))) (mvT hZ (hw _ (List.mem_of_getElem? (i := 3) rfl))) (mvT hZ (hw _ (List.mem_of_getElem? (i := 79) rfl))) (by decide) (backOf (W := 1) (rm_ps l Z a0 hw [] (0 : Int32) A1 (0 : Int32) T34.heap n0 rfl) hZ (hw _ (List.mem_of_getElem? (i := 79) rfl)) (hw _ (List.mem_of_getElem? (i := 3) rfl)) (by decide) (by decide)) (g := (mkF m 151 #[.val (.long c0), .second, .val (.long c1), .second, .val (.long c2), .second, .val (.long c3), .second, .val (.int pp), .val (.int (1 : Int32)), .val (.long A0), .second, .val (.long A1), .second, .val (.long A2), .second, .val (.long A3), .second, .val (.ref o5), .val (.ref o6), .val (.ref o7), .val (.ref o8), .val (.ref b9), .unset, .unset, .unset] [(.long A1), (.int (0 : Int32)), (.int Q0)])) rfl (by rw [hml]; rfl) (argsL := [(.int (0 : Int32)), (.long A1)]) (rest := [(.int Q0)]) (lenOf pd_9 rfl) rfl (by show 2 * 0 + _ ≤ _; exact Nat.le_of_eq rfl) (hb hby at_151) (fun _ _ => ⟨rfl, e35, (by decide : ((((((0 + 2) + 2) + 2) + 2) + 1) + 1) + 0 ≤ _), (by decide : ((((((0 + 8) + 8) + 8) + 8) + 4) + 6) + 0 ≤ _)⟩)
    dsimp only [Pt.U, Pt.locs, Pt.cells, Pt.slots] at X36 l36 y36 z36 st36 hQ36
    rw [l36, y36, z36] at X36
    obtain ⟨rfl, Nq36, e36⟩ := hQ36
    have N36 := Fr.app N35 Nq36
    refine own_by st36 ?_
    show own_Go p e below s _ _ (T36.setTop (mkF m 154 #[.val (.long c0), .second, .val (.long c1), .second, .val (.long c2), .second, .val (.long c3), .second, .val (.int pp), .val (.int (1 : Int32)), .val (.long A0), .second, .val (.long A1), .second, .val (.long A2), .second, .val (.long A3), .second, .val (.ref o5), .val (.ref o6), .val (.ref o7), .val (.ref o8), .val (.ref b9), .unset, .unset, .unset] [(.int (0 : Int32)), (.int Q0)]))
    refine own_by (fun tz kz => XS.iadd X36.here hx rfl (hb hby at_154) rfl kz) ?_
    show own_Go p e below s _ _ (T36.setTop (mkF m 155 #[.val (.long c0), .second, .val (.long c1), .second, .val (.long c2), .second, .val (.long c3), .second, .val (.int pp), .val (.int (1 : Int32)), .val (.long A0), .second, .val (.long A1), .second, .val (.long A2), .second, .val (.long A3), .second, .val (.ref o5), .val (.ref o6), .val (.ref o7), .val (.ref o8), .val (.ref b9), .unset, .unset, .unset] [(.int (Q0 + (0 : Int32)))]))
    refine own_by (fun tz kz => XS.iload X36.here hx rfl (hb hby at_155) rfl  kz) ?_
    show own_Go p e below s _ _ (T36.setTop (mkF m 157 #[.val (.long c0), .second, .val (.long c1), .second, .val (.long c2), .second, .val (.long c3), .second, .val (.int pp), .val (.int (1 : Int32)), .val (.long A0), .second, .val (.long A1), .second, .val (.long A2), .second, .val (.long A3), .second, .val (.ref o5), .val (.ref o6), .val (.ref o7), .val (.ref o8), .val (.ref b9), .unset, .unset, .unset] [(.int (1 : Int32)), (.int (Q0 + (0 : Int32)))]))
    refine own_by (fun tz kz => XS.iconst X36.here hx rfl (hb hby at_157) kz) ?_
    show own_Go p e below s _ _ (T36.setTop (mkF m 158 #[.val (.long c0), .second, .val (.long c1), .second, .val (.long c2), .second, .val (.long c3), .second, .val (.int pp), .val (.int (1 : Int32)), .val (.long A0), .second, .val (.long A1), .second, .val (.long A2), .second, .val (.long A3), .second, .val (.ref o5), .val (.ref o6), .val (.ref o7), .val (.ref o8), .val (.ref b9), .unset, .unset, .unset] [(.int (2 : Int32)), (.int (1 : Int32)), (.int (Q0 + (0 : Int32)))]))
    refine own_by (fun tz kz => XS.icmpYes X36.here hx rfl (pc0 := 158) (pc' := 165) rfl (hb hby at_158) rfl (flt (by decide : ¬ (2 : Int32) < (1 : Int32))).2.2.2 (by decide) (by decide) kz) ?_
    show own_Go p e below s _ _ (T36.setTop (mkF m 165 #[.val (.long c0), .second, .val (.long c1), .second, .val (.long c2), .second, .val (.long c3), .second, .val (.int pp), .val (.int (1 : Int32)), .val (.long A0), .second, .val (.long A1), .second, .val (.long A2), .second, .val (.long A3), .second, .val (.ref o5), .val (.ref o6), .val (.ref o7), .val (.ref o8), .val (.ref b9), .unset, .unset, .unset] [(.int (Q0 + (0 : Int32)))]))
    refine own_by (fun tz kz => XS.iconst X36.here hx rfl (hb hby at_165) kz) ?_
    show own_Go p e below s _ _ (T36.setTop (mkF m 166 #[.val (.long c0), .second, .val (.long c1), .second, .val (.long c2), .second, .val (.long c3), .second, .val (.int pp), .val (.int (1 : Int32)), .val (.long A0), .second, .val (.long A1), .second, .val (.long A2), .second, .val (.long A3), .second, .val (.ref o5), .val (.ref o6), .val (.ref o7), .val (.ref o8), .val (.ref b9), .unset, .unset, .unset] [(.int (0 : Int32)), (.int (Q0 + (0 : Int32)))]))
    refine own_by (fun tz kz => XS.lload X36.here hx rfl (hb hby at_166) rfl kz) ?_
    show own_Go p e below s _ _ (T36.setTop (mkF m 168 #[.val (.long c0), .second, .val (.long c1), .second, .val (.long c2), .second, .val (.long c3), .second, .val (.int pp), .val (.int (1 : Int32)), .val (.long A0), .second, .val (.long A1), .second, .val (.long A2), .second, .val (.long A3), .second, .val (.ref o5), .val (.ref o6), .val (.ref o7), .val (.ref o8), .val (.ref b9), .unset, .unset, .unset] [(.long A2), (.int (0 : Int32)), (.int (Q0 + (0 : Int32)))]))
    obtain ⟨_, _, ⟨T37, L37, k37, n37⟩, -, X37, ⟨Lc37, hQ37, l37, y37, z37⟩, st37⟩ := Jvm.LawKit.callS X36 hx (y := (⟨"com/example/liftwise/liftwise/eval/arithmetic/SidesIsOneSidedPinLaw", "positive", "(ZJ)I"⟩ : MethodName)) hown (mvT hZ (hw _ (List.mem_of_getElem? (i := 77) rfl))) (mvT hZ (hw _ (List.mem_of_getElem? (i := 78) rfl))) (mvT hZ (hw _ (List.mem_of_getElem? (i := 3) rfl))) (mvT hZ (hw _ (List.mem_of_getElem? (i := 79) rfl))) (by decide) (backOf (W := 1) (rm_ps l Z a0 hw [] (0 : Int32) A2 (0 : Int32) T34.heap n0 rfl) hZ (hw _ (List.mem_of_getElem? (i := 79) rfl)) (hw _ (List.mem_of_getElem? (i := 3) rfl)) (by decide) (by decide)) (g := (mkF m 168 #[.val (.long c0), .second, .val (.long c1), .second, .val (.long c2), .second, .val (.long c3), .second, .val (.int pp), .val (.int (1 : Int32)), .val (.long A0), .second, .val (.long A1), .second, .val (.long A2), .second, .val (.long A3), .second, .val (.ref o5), .val (.ref o6), .val (.ref o7), .val (.ref o8), .val (.ref b9), .unset, .unset, .unset] [(.long A2), (.int (0 : Int32)), (.int (Q0 + (0 : Int32)))])) rfl (by rw [hml]; rfl) (argsL := [(.int (0 : Int32)), (.long A2)]) (rest := [(.int (Q0 + (0 : Int32)))]) (lenOf pd_9 rfl) rfl (by show 2 * 0 + _ ≤ _; exact Nat.le_of_eq rfl) (hb hby at_168) (fun _ _ => ⟨rfl, e36, (by decide : ((((((0 + 2) + 2) + 2) + 2) + 1) + 1) + 0 ≤ _), (by decide : ((((((0 + 8) + 8) + 8) + 8) + 4) + 6) + 0 ≤ _)⟩)
    dsimp only [Pt.U, Pt.locs, Pt.cells, Pt.slots] at X37 l37 y37 z37 st37 hQ37
    rw [l37, y37, z37] at X37
    obtain ⟨rfl, Nq37, e37⟩ := hQ37
    have N37 := Fr.app N36 Nq37
    refine own_by st37 ?_
    show own_Go p e below s _ _ (T37.setTop (mkF m 171 #[.val (.long c0), .second, .val (.long c1), .second, .val (.long c2), .second, .val (.long c3), .second, .val (.int pp), .val (.int (1 : Int32)), .val (.long A0), .second, .val (.long A1), .second, .val (.long A2), .second, .val (.long A3), .second, .val (.ref o5), .val (.ref o6), .val (.ref o7), .val (.ref o8), .val (.ref b9), .unset, .unset, .unset] [(.int (0 : Int32)), (.int (Q0 + (0 : Int32)))]))
    refine own_by (fun tz kz => XS.iadd X37.here hx rfl (hb hby at_171) rfl kz) ?_
    show own_Go p e below s _ _ (T37.setTop (mkF m 172 #[.val (.long c0), .second, .val (.long c1), .second, .val (.long c2), .second, .val (.long c3), .second, .val (.int pp), .val (.int (1 : Int32)), .val (.long A0), .second, .val (.long A1), .second, .val (.long A2), .second, .val (.long A3), .second, .val (.ref o5), .val (.ref o6), .val (.ref o7), .val (.ref o8), .val (.ref b9), .unset, .unset, .unset] [(.int ((Q0 + (0 : Int32)) + (0 : Int32)))]))
    refine own_by (fun tz kz => XS.iload X37.here hx rfl (hb hby at_172) rfl  kz) ?_
    show own_Go p e below s _ _ (T37.setTop (mkF m 174 #[.val (.long c0), .second, .val (.long c1), .second, .val (.long c2), .second, .val (.long c3), .second, .val (.int pp), .val (.int (1 : Int32)), .val (.long A0), .second, .val (.long A1), .second, .val (.long A2), .second, .val (.long A3), .second, .val (.ref o5), .val (.ref o6), .val (.ref o7), .val (.ref o8), .val (.ref b9), .unset, .unset, .unset] [(.int (1 : Int32)), (.int ((Q0 + (0 : Int32)) + (0 : Int32)))]))
    refine own_by (fun tz kz => XS.iconst X37.here hx rfl (hb hby at_174) kz) ?_
    show own_Go p e below s _ _ (T37.setTop (mkF m 175 #[.val (.long c0), .second, .val (.long c1), .second, .val (.long c2), .second, .val (.long c3), .second, .val (.int pp), .val (.int (1 : Int32)), .val (.long A0), .second, .val (.long A1), .second, .val (.long A2), .second, .val (.long A3), .second, .val (.ref o5), .val (.ref o6), .val (.ref o7), .val (.ref o8), .val (.ref b9), .unset, .unset, .unset] [(.int (3 : Int32)), (.int (1 : Int32)), (.int ((Q0 + (0 : Int32)) + (0 : Int32)))]))
    refine own_by (fun tz kz => XS.icmpYes X37.here hx rfl (pc0 := 175) (pc' := 182) rfl (hb hby at_175) rfl (flt (by decide : ¬ (3 : Int32) < (1 : Int32))).2.2.2 (by decide) (by decide) kz) ?_
    show own_Go p e below s _ _ (T37.setTop (mkF m 182 #[.val (.long c0), .second, .val (.long c1), .second, .val (.long c2), .second, .val (.long c3), .second, .val (.int pp), .val (.int (1 : Int32)), .val (.long A0), .second, .val (.long A1), .second, .val (.long A2), .second, .val (.long A3), .second, .val (.ref o5), .val (.ref o6), .val (.ref o7), .val (.ref o8), .val (.ref b9), .unset, .unset, .unset] [(.int ((Q0 + (0 : Int32)) + (0 : Int32)))]))
    refine own_by (fun tz kz => XS.iconst X37.here hx rfl (hb hby at_182) kz) ?_
    show own_Go p e below s _ _ (T37.setTop (mkF m 183 #[.val (.long c0), .second, .val (.long c1), .second, .val (.long c2), .second, .val (.long c3), .second, .val (.int pp), .val (.int (1 : Int32)), .val (.long A0), .second, .val (.long A1), .second, .val (.long A2), .second, .val (.long A3), .second, .val (.ref o5), .val (.ref o6), .val (.ref o7), .val (.ref o8), .val (.ref b9), .unset, .unset, .unset] [(.int (0 : Int32)), (.int ((Q0 + (0 : Int32)) + (0 : Int32)))]))
    refine own_by (fun tz kz => XS.lload X37.here hx rfl (hb hby at_183) rfl kz) ?_
    show own_Go p e below s _ _ (T37.setTop (mkF m 185 #[.val (.long c0), .second, .val (.long c1), .second, .val (.long c2), .second, .val (.long c3), .second, .val (.int pp), .val (.int (1 : Int32)), .val (.long A0), .second, .val (.long A1), .second, .val (.long A2), .second, .val (.long A3), .second, .val (.ref o5), .val (.ref o6), .val (.ref o7), .val (.ref o8), .val (.ref b9), .unset, .unset, .unset] [(.long A3), (.int (0 : Int32)), (.int ((Q0 + (0 : Int32)) + (0 : Int32)))]))
    obtain ⟨_, _, ⟨T38, L38, k38, n38⟩, -, X38, ⟨Lc38, hQ38, l38, y38, z38⟩, st38⟩ := Jvm.LawKit.callS X37 hx (y := (⟨"com/example/liftwise/liftwise/eval/arithmetic/SidesIsOneSidedPinLaw", "positive", "(ZJ)I"⟩ : MethodName)) hown (mvT hZ (hw _ (List.mem_of_getElem? (i := 77) rfl))) (mvT hZ (hw _ (List.mem_of_getElem? (i := 78) rfl))) (mvT hZ (hw _ (List.mem_of_getElem? (i := 3) rfl))) (mvT hZ (hw _ (List.mem_of_getElem? (i := 79) rfl))) (by decide) (backOf (W := 1) (rm_ps l Z a0 hw [] (0 : Int32) A3 (0 : Int32) T34.heap n0 rfl) hZ (hw _ (List.mem_of_getElem? (i := 79) rfl)) (hw _ (List.mem_of_getElem? (i := 3) rfl)) (by decide) (by decide)) (g := (mkF m 185 #[.val (.long c0), .second, .val (.long c1), .second, .val (.long c2), .second, .val (.long c3), .second, .val (.int pp), .val (.int (1 : Int32)), .val (.long A0), .second, .val (.long A1), .second, .val (.long A2), .second, .val (.long A3), .second, .val (.ref o5), .val (.ref o6), .val (.ref o7), .val (.ref o8), .val (.ref b9), .unset, .unset, .unset] [(.long A3), (.int (0 : Int32)), (.int ((Q0 + (0 : Int32)) + (0 : Int32)))])) rfl (by rw [hml]; rfl) (argsL := [(.int (0 : Int32)), (.long A3)]) (rest := [(.int ((Q0 + (0 : Int32)) + (0 : Int32)))]) (lenOf pd_9 rfl) rfl (by show 2 * 0 + _ ≤ _; exact Nat.le_of_eq rfl) (hb hby at_185) (fun _ _ => ⟨rfl, e37, (by decide : ((((((0 + 2) + 2) + 2) + 2) + 1) + 1) + 0 ≤ _), (by decide : ((((((0 + 8) + 8) + 8) + 8) + 4) + 6) + 0 ≤ _)⟩)
    dsimp only [Pt.U, Pt.locs, Pt.cells, Pt.slots] at X38 l38 y38 z38 st38 hQ38
    rw [l38, y38, z38] at X38
    obtain ⟨rfl, Nq38, e38⟩ := hQ38
    have N38 := Fr.app N37 Nq38
    refine own_by st38 ?_
    show own_Go p e below s _ _ (T38.setTop (mkF m 188 #[.val (.long c0), .second, .val (.long c1), .second, .val (.long c2), .second, .val (.long c3), .second, .val (.int pp), .val (.int (1 : Int32)), .val (.long A0), .second, .val (.long A1), .second, .val (.long A2), .second, .val (.long A3), .second, .val (.ref o5), .val (.ref o6), .val (.ref o7), .val (.ref o8), .val (.ref b9), .unset, .unset, .unset] [(.int (0 : Int32)), (.int ((Q0 + (0 : Int32)) + (0 : Int32)))]))
    refine own_by (fun tz kz => XS.iadd X38.here hx rfl (hb hby at_188) rfl kz) ?_
    show own_Go p e below s _ _ (T38.setTop (mkF m 189 #[.val (.long c0), .second, .val (.long c1), .second, .val (.long c2), .second, .val (.long c3), .second, .val (.int pp), .val (.int (1 : Int32)), .val (.long A0), .second, .val (.long A1), .second, .val (.long A2), .second, .val (.long A3), .second, .val (.ref o5), .val (.ref o6), .val (.ref o7), .val (.ref o8), .val (.ref b9), .unset, .unset, .unset] [(.int (((Q0 + (0 : Int32)) + (0 : Int32)) + (0 : Int32)))]))
    refine own_by (fun tz kz => XS.istore X38.here hx rfl (hb hby at_189) rfl (l' := #[.val (.long c0), .second, .val (.long c1), .second, .val (.long c2), .second, .val (.long c3), .second, .val (.int pp), .val (.int (1 : Int32)), .val (.long A0), .second, .val (.long A1), .second, .val (.long A2), .second, .val (.long A3), .second, .val (.ref o5), .val (.ref o6), .val (.ref o7), .val (.ref o8), .val (.ref b9), .val (.int (((Q0 + (0 : Int32)) + (0 : Int32)) + (0 : Int32))), .unset, .unset]) rfl kz) ?_
    show own_Go p e below s _ _ (T38.setTop (mkF m 191 #[.val (.long c0), .second, .val (.long c1), .second, .val (.long c2), .second, .val (.long c3), .second, .val (.int pp), .val (.int (1 : Int32)), .val (.long A0), .second, .val (.long A1), .second, .val (.long A2), .second, .val (.long A3), .second, .val (.ref o5), .val (.ref o6), .val (.ref o7), .val (.ref o8), .val (.ref b9), .val (.int (((Q0 + (0 : Int32)) + (0 : Int32)) + (0 : Int32))), .unset, .unset] []))
    refine own_by (fun tz kz => XS.iload X38.here hx rfl (hb hby at_191) rfl  kz) ?_
    show own_Go p e below s _ _ (T38.setTop (mkF m 193 #[.val (.long c0), .second, .val (.long c1), .second, .val (.long c2), .second, .val (.long c3), .second, .val (.int pp), .val (.int (1 : Int32)), .val (.long A0), .second, .val (.long A1), .second, .val (.long A2), .second, .val (.long A3), .second, .val (.ref o5), .val (.ref o6), .val (.ref o7), .val (.ref o8), .val (.ref b9), .val (.int (((Q0 + (0 : Int32)) + (0 : Int32)) + (0 : Int32))), .unset, .unset] [(.int (1 : Int32))]))
    refine own_by (fun tz kz => XS.iload X38.here hx rfl (hb hby at_193) rfl  kz) ?_
    show own_Go p e below s _ _ (T38.setTop (mkF m 195 #[.val (.long c0), .second, .val (.long c1), .second, .val (.long c2), .second, .val (.long c3), .second, .val (.int pp), .val (.int (1 : Int32)), .val (.long A0), .second, .val (.long A1), .second, .val (.long A2), .second, .val (.long A3), .second, .val (.ref o5), .val (.ref o6), .val (.ref o7), .val (.ref o8), .val (.ref b9), .val (.int (((Q0 + (0 : Int32)) + (0 : Int32)) + (0 : Int32))), .unset, .unset] [(.int (((Q0 + (0 : Int32)) + (0 : Int32)) + (0 : Int32))), (.int (1 : Int32))]))
    refine own_by (fun tz kz => XS.isub X38.here hx rfl (hb hby at_195) rfl kz) ?_
    show own_Go p e below s _ _ (T38.setTop (mkF m 196 #[.val (.long c0), .second, .val (.long c1), .second, .val (.long c2), .second, .val (.long c3), .second, .val (.int pp), .val (.int (1 : Int32)), .val (.long A0), .second, .val (.long A1), .second, .val (.long A2), .second, .val (.long A3), .second, .val (.ref o5), .val (.ref o6), .val (.ref o7), .val (.ref o8), .val (.ref b9), .val (.int (((Q0 + (0 : Int32)) + (0 : Int32)) + (0 : Int32))), .unset, .unset] [(.int ((1 : Int32) - (((Q0 + (0 : Int32)) + (0 : Int32)) + (0 : Int32))))]))
    refine own_by (fun tz kz => XS.istore X38.here hx rfl (hb hby at_196) rfl (l' := #[.val (.long c0), .second, .val (.long c1), .second, .val (.long c2), .second, .val (.long c3), .second, .val (.int pp), .val (.int (1 : Int32)), .val (.long A0), .second, .val (.long A1), .second, .val (.long A2), .second, .val (.long A3), .second, .val (.ref o5), .val (.ref o6), .val (.ref o7), .val (.ref o8), .val (.ref b9), .val (.int (((Q0 + (0 : Int32)) + (0 : Int32)) + (0 : Int32))), .val (.int ((1 : Int32) - (((Q0 + (0 : Int32)) + (0 : Int32)) + (0 : Int32)))), .unset]) rfl kz) ?_
    show own_Go p e below s _ _ (T38.setTop (mkF m 198 #[.val (.long c0), .second, .val (.long c1), .second, .val (.long c2), .second, .val (.long c3), .second, .val (.int pp), .val (.int (1 : Int32)), .val (.long A0), .second, .val (.long A1), .second, .val (.long A2), .second, .val (.long A3), .second, .val (.ref o5), .val (.ref o6), .val (.ref o7), .val (.ref o8), .val (.ref b9), .val (.int (((Q0 + (0 : Int32)) + (0 : Int32)) + (0 : Int32))), .val (.int ((1 : Int32) - (((Q0 + (0 : Int32)) + (0 : Int32)) + (0 : Int32)))), .unset] []))
    refine own_by (fun tz kz => XS.iload X38.here hx rfl (hb hby at_198) rfl  kz) ?_
    show own_Go p e below s _ _ (T38.setTop (mkF m 200 #[.val (.long c0), .second, .val (.long c1), .second, .val (.long c2), .second, .val (.long c3), .second, .val (.int pp), .val (.int (1 : Int32)), .val (.long A0), .second, .val (.long A1), .second, .val (.long A2), .second, .val (.long A3), .second, .val (.ref o5), .val (.ref o6), .val (.ref o7), .val (.ref o8), .val (.ref b9), .val (.int (((Q0 + (0 : Int32)) + (0 : Int32)) + (0 : Int32))), .val (.int ((1 : Int32) - (((Q0 + (0 : Int32)) + (0 : Int32)) + (0 : Int32)))), .unset] [(.int (((Q0 + (0 : Int32)) + (0 : Int32)) + (0 : Int32)))]))
    by_cases hc200_39 : (((Q0 + (0 : Int32)) + (0 : Int32)) + (0 : Int32)) = (0 : Int32)
    · refine own_by (fun tz kz => XS.ifYes X38.here hx rfl (pc0 := 200) (pc' := 208) rfl (hb hby at_200) rfl ((if0 _ _).trans (teq hc200_39).1) (by decide) (by decide) kz) ?_
      show own_Go p e below s _ _ (T38.setTop (mkF m 208 #[.val (.long c0), .second, .val (.long c1), .second, .val (.long c2), .second, .val (.long c3), .second, .val (.int pp), .val (.int (1 : Int32)), .val (.long A0), .second, .val (.long A1), .second, .val (.long A2), .second, .val (.long A3), .second, .val (.ref o5), .val (.ref o6), .val (.ref o7), .val (.ref o8), .val (.ref b9), .val (.int (((Q0 + (0 : Int32)) + (0 : Int32)) + (0 : Int32))), .val (.int ((1 : Int32) - (((Q0 + (0 : Int32)) + (0 : Int32)) + (0 : Int32)))), .unset] []))
      refine own_by (fun tz kz => XS.iconst X38.here hx rfl (hb hby at_208) kz) ?_
      show own_Go p e below s _ _ (T38.setTop (mkF m 209 #[.val (.long c0), .second, .val (.long c1), .second, .val (.long c2), .second, .val (.long c3), .second, .val (.int pp), .val (.int (1 : Int32)), .val (.long A0), .second, .val (.long A1), .second, .val (.long A2), .second, .val (.long A3), .second, .val (.ref o5), .val (.ref o6), .val (.ref o7), .val (.ref o8), .val (.ref b9), .val (.int (((Q0 + (0 : Int32)) + (0 : Int32)) + (0 : Int32))), .val (.int ((1 : Int32) - (((Q0 + (0 : Int32)) + (0 : Int32)) + (0 : Int32)))), .unset] [(.int (1 : Int32))]))
      refine own_by (fun tz kz => XS.goto X38.here hx rfl (pc0 := 209) (pc' := 213) rfl (hb hby at_209) (by decide) (by decide) kz) ?_
      show own_Go p e below s _ _ (T38.setTop (mkF m 213 #[.val (.long c0), .second, .val (.long c1), .second, .val (.long c2), .second, .val (.long c3), .second, .val (.int pp), .val (.int (1 : Int32)), .val (.long A0), .second, .val (.long A1), .second, .val (.long A2), .second, .val (.long A3), .second, .val (.ref o5), .val (.ref o6), .val (.ref o7), .val (.ref o8), .val (.ref b9), .val (.int (((Q0 + (0 : Int32)) + (0 : Int32)) + (0 : Int32))), .val (.int ((1 : Int32) - (((Q0 + (0 : Int32)) + (0 : Int32)) + (0 : Int32)))), .unset] [(.int (1 : Int32))]))
      refine own_by (fun tz kz => XS.istore X38.here hx rfl (hb hby at_213) rfl (l' := #[.val (.long c0), .second, .val (.long c1), .second, .val (.long c2), .second, .val (.long c3), .second, .val (.int pp), .val (.int (1 : Int32)), .val (.long A0), .second, .val (.long A1), .second, .val (.long A2), .second, .val (.long A3), .second, .val (.ref o5), .val (.ref o6), .val (.ref o7), .val (.ref o8), .val (.ref b9), .val (.int (((Q0 + (0 : Int32)) + (0 : Int32)) + (0 : Int32))), .val (.int ((1 : Int32) - (((Q0 + (0 : Int32)) + (0 : Int32)) + (0 : Int32)))), .val (.int (1 : Int32))]) rfl kz) ?_
      show own_Go p e below s _ _ (T38.setTop (mkF m 215 #[.val (.long c0), .second, .val (.long c1), .second, .val (.long c2), .second, .val (.long c3), .second, .val (.int pp), .val (.int (1 : Int32)), .val (.long A0), .second, .val (.long A1), .second, .val (.long A2), .second, .val (.long A3), .second, .val (.ref o5), .val (.ref o6), .val (.ref o7), .val (.ref o8), .val (.ref b9), .val (.int (((Q0 + (0 : Int32)) + (0 : Int32)) + (0 : Int32))), .val (.int ((1 : Int32) - (((Q0 + (0 : Int32)) + (0 : Int32)) + (0 : Int32)))), .val (.int (1 : Int32))] []))
      refine own_by (fun tz kz => XS.aload X38.here hx rfl (hb hby at_215) rfl rfl kz) ?_
      show own_Go p e below s _ _ (T38.setTop (mkF m 217 #[.val (.long c0), .second, .val (.long c1), .second, .val (.long c2), .second, .val (.long c3), .second, .val (.int pp), .val (.int (1 : Int32)), .val (.long A0), .second, .val (.long A1), .second, .val (.long A2), .second, .val (.long A3), .second, .val (.ref o5), .val (.ref o6), .val (.ref o7), .val (.ref o8), .val (.ref b9), .val (.int (((Q0 + (0 : Int32)) + (0 : Int32)) + (0 : Int32))), .val (.int ((1 : Int32) - (((Q0 + (0 : Int32)) + (0 : Int32)) + (0 : Int32)))), .val (.int (1 : Int32))] [(.ref b9)]))
      have f40 := (f33.keep Kq34)
      obtain ⟨cq41, kq41, q41a, q41b, q41c⟩ := isOf hZ e38 f40
      obtain ⟨_, _, ⟨T41, L41, k41, n41⟩, -, X41, ⟨Lc41, hQ41, l41, y41, z41⟩, st41⟩ := X38.virtualBack hx (y := (⟨"com/example/liftwise/liftwise/eval/arithmetic/Solver$Sides", "isOneSided", "()Z"⟩ : MethodName)) (z := (⟨"com/example/liftwise/liftwise/eval/arithmetic/Solver$Sides", "isOneSided", "()Z"⟩ : MethodName)) hown (mvT hZ (hw _ (List.mem_of_getElem? (i := 80) rfl))) (mvT hZ (hw _ (List.mem_of_getElem? (i := 81) rfl))) (notFace_of_selects (args := #[]) (mvT hZ (hw _ (List.mem_of_getElem? (i := 83) rfl)))) (mvT hZ (hw _ (List.mem_of_getElem? (i := 83) rfl))) (mvT hZ (hw _ (List.mem_of_getElem? (i := 82) rfl))) (by decide) (backOf (W := 0) (rm_one l Z a0 hw [] b9 (own_up A0 (0 : Int32)) (own_dn A0 (0 : Int32)) (1 : Int32) T34.heap n0 Fa34 Fb34 (if_pos (Or.inl ((own_rel1 A0 A1 A2 A3 hQ0).1.mpr hc200_39))).symm) hZ (hw _ (List.mem_of_getElem? (i := 84) rfl)) (hw _ (List.mem_of_getElem? (i := 34) rfl)) (by decide) (by decide)) q41a q41c (g := (mkF m 217 #[.val (.long c0), .second, .val (.long c1), .second, .val (.long c2), .second, .val (.long c3), .second, .val (.int pp), .val (.int (1 : Int32)), .val (.long A0), .second, .val (.long A1), .second, .val (.long A2), .second, .val (.long A3), .second, .val (.ref o5), .val (.ref o6), .val (.ref o7), .val (.ref o8), .val (.ref b9), .val (.int (((Q0 + (0 : Int32)) + (0 : Int32)) + (0 : Int32))), .val (.int ((1 : Int32) - (((Q0 + (0 : Int32)) + (0 : Int32)) + (0 : Int32)))), .val (.int (1 : Int32))] [(.ref b9)])) rfl (by rw [hml]; rfl) (Steps.refl _) (argsL := []) (rest := []) (lenOf pd_10 rfl) rfl (by show 2 * 0 + _ ≤ _; exact Nat.le_of_eq rfl) (hb hby at_217) (fun _ _ => ⟨rfl, e38, (by decide : ((((((0 + 2) + 2) + 2) + 2) + 1) + 1) + 0 ≤ _), (by decide : ((((((0 + 8) + 8) + 8) + 8) + 4) + 6) + 0 ≤ _)⟩)
      dsimp only [Pt.U, Pt.locs, Pt.cells, Pt.slots] at X41 l41 y41 z41 st41 hQ41
      rw [l41, y41, z41] at X41
      obtain ⟨rfl, Nq41, e41⟩ := hQ41
      have N41 := Fr.app N38 Nq41
      refine own_via st41 ?_
      show own_Go p e below s _ _ (T41.setTop (mkF m 220 #[.val (.long c0), .second, .val (.long c1), .second, .val (.long c2), .second, .val (.long c3), .second, .val (.int pp), .val (.int (1 : Int32)), .val (.long A0), .second, .val (.long A1), .second, .val (.long A2), .second, .val (.long A3), .second, .val (.ref o5), .val (.ref o6), .val (.ref o7), .val (.ref o8), .val (.ref b9), .val (.int (((Q0 + (0 : Int32)) + (0 : Int32)) + (0 : Int32))), .val (.int ((1 : Int32) - (((Q0 + (0 : Int32)) + (0 : Int32)) + (0 : Int32)))), .val (.int (1 : Int32))] [(.int (1 : Int32))]))
      refine own_by (fun tz kz => XS.iload X41.here hx rfl (hb hby at_220) rfl  kz) ?_
      show own_Go p e below s _ _ (T41.setTop (mkF m 222 #[.val (.long c0), .second, .val (.long c1), .second, .val (.long c2), .second, .val (.long c3), .second, .val (.int pp), .val (.int (1 : Int32)), .val (.long A0), .second, .val (.long A1), .second, .val (.long A2), .second, .val (.long A3), .second, .val (.ref o5), .val (.ref o6), .val (.ref o7), .val (.ref o8), .val (.ref b9), .val (.int (((Q0 + (0 : Int32)) + (0 : Int32)) + (0 : Int32))), .val (.int ((1 : Int32) - (((Q0 + (0 : Int32)) + (0 : Int32)) + (0 : Int32)))), .val (.int (1 : Int32))] [(.int (1 : Int32)), (.int (1 : Int32))]))
      refine own_by (fun tz kz => XS.icmpNo X41.here hx rfl (hb hby at_222) rfl (teq (by decide : (1 : Int32) = (1 : Int32))).2 kz) ?_
      show own_Go p e below s _ _ (T41.setTop (mkF m 225 #[.val (.long c0), .second, .val (.long c1), .second, .val (.long c2), .second, .val (.long c3), .second, .val (.int pp), .val (.int (1 : Int32)), .val (.long A0), .second, .val (.long A1), .second, .val (.long A2), .second, .val (.long A3), .second, .val (.ref o5), .val (.ref o6), .val (.ref o7), .val (.ref o8), .val (.ref b9), .val (.int (((Q0 + (0 : Int32)) + (0 : Int32)) + (0 : Int32))), .val (.int ((1 : Int32) - (((Q0 + (0 : Int32)) + (0 : Int32)) + (0 : Int32)))), .val (.int (1 : Int32))] []))
      refine own_by (fun tz kz => XS.iconst X41.here hx rfl (hb hby at_225) kz) ?_
      show own_Go p e below s _ _ (T41.setTop (mkF m 226 #[.val (.long c0), .second, .val (.long c1), .second, .val (.long c2), .second, .val (.long c3), .second, .val (.int pp), .val (.int (1 : Int32)), .val (.long A0), .second, .val (.long A1), .second, .val (.long A2), .second, .val (.long A3), .second, .val (.ref o5), .val (.ref o6), .val (.ref o7), .val (.ref o8), .val (.ref b9), .val (.int (((Q0 + (0 : Int32)) + (0 : Int32)) + (0 : Int32))), .val (.int ((1 : Int32) - (((Q0 + (0 : Int32)) + (0 : Int32)) + (0 : Int32)))), .val (.int (1 : Int32))] [(.int (1 : Int32))]))
      refine own_by (fun tz kz => XS.goto X41.here hx rfl (pc0 := 226) (pc' := 230) rfl (hb hby at_226) (by decide) (by decide) kz) ?_
      show own_Go p e below s _ _ (T41.setTop (mkF m 230 #[.val (.long c0), .second, .val (.long c1), .second, .val (.long c2), .second, .val (.long c3), .second, .val (.int pp), .val (.int (1 : Int32)), .val (.long A0), .second, .val (.long A1), .second, .val (.long A2), .second, .val (.long A3), .second, .val (.ref o5), .val (.ref o6), .val (.ref o7), .val (.ref o8), .val (.ref b9), .val (.int (((Q0 + (0 : Int32)) + (0 : Int32)) + (0 : Int32))), .val (.int ((1 : Int32) - (((Q0 + (0 : Int32)) + (0 : Int32)) + (0 : Int32)))), .val (.int (1 : Int32))] [(.int (1 : Int32))]))
      refine own_retI X41 hx hlk (t := .boolean) hret (by simp) rfl (hb hby at_230) ?_ (by decide) (by decide)
      exact ⟨rfl, N41⟩
    · refine own_by (fun tz kz => XS.ifNo X38.here hx rfl (hb hby at_200) rfl ((if0 _ _).trans (feq hc200_39).1) kz) ?_
      show own_Go p e below s _ _ (T38.setTop (mkF m 203 #[.val (.long c0), .second, .val (.long c1), .second, .val (.long c2), .second, .val (.long c3), .second, .val (.int pp), .val (.int (1 : Int32)), .val (.long A0), .second, .val (.long A1), .second, .val (.long A2), .second, .val (.long A3), .second, .val (.ref o5), .val (.ref o6), .val (.ref o7), .val (.ref o8), .val (.ref b9), .val (.int (((Q0 + (0 : Int32)) + (0 : Int32)) + (0 : Int32))), .val (.int ((1 : Int32) - (((Q0 + (0 : Int32)) + (0 : Int32)) + (0 : Int32)))), .unset] []))
      refine own_by (fun tz kz => XS.iload X38.here hx rfl (hb hby at_203) rfl  kz) ?_
      show own_Go p e below s _ _ (T38.setTop (mkF m 205 #[.val (.long c0), .second, .val (.long c1), .second, .val (.long c2), .second, .val (.long c3), .second, .val (.int pp), .val (.int (1 : Int32)), .val (.long A0), .second, .val (.long A1), .second, .val (.long A2), .second, .val (.long A3), .second, .val (.ref o5), .val (.ref o6), .val (.ref o7), .val (.ref o8), .val (.ref b9), .val (.int (((Q0 + (0 : Int32)) + (0 : Int32)) + (0 : Int32))), .val (.int ((1 : Int32) - (((Q0 + (0 : Int32)) + (0 : Int32)) + (0 : Int32)))), .unset] [(.int ((1 : Int32) - (((Q0 + (0 : Int32)) + (0 : Int32)) + (0 : Int32))))]))
      by_cases hc205_42 : ((1 : Int32) - (((Q0 + (0 : Int32)) + (0 : Int32)) + (0 : Int32))) = (0 : Int32)
      · refine own_by (fun tz kz => XS.ifNo X38.here hx rfl (hb hby at_205) rfl ((if0 _ _).trans (teq hc205_42).2) kz) ?_
        show own_Go p e below s _ _ (T38.setTop (mkF m 208 #[.val (.long c0), .second, .val (.long c1), .second, .val (.long c2), .second, .val (.long c3), .second, .val (.int pp), .val (.int (1 : Int32)), .val (.long A0), .second, .val (.long A1), .second, .val (.long A2), .second, .val (.long A3), .second, .val (.ref o5), .val (.ref o6), .val (.ref o7), .val (.ref o8), .val (.ref b9), .val (.int (((Q0 + (0 : Int32)) + (0 : Int32)) + (0 : Int32))), .val (.int ((1 : Int32) - (((Q0 + (0 : Int32)) + (0 : Int32)) + (0 : Int32)))), .unset] []))
        refine own_by (fun tz kz => XS.iconst X38.here hx rfl (hb hby at_208) kz) ?_
        show own_Go p e below s _ _ (T38.setTop (mkF m 209 #[.val (.long c0), .second, .val (.long c1), .second, .val (.long c2), .second, .val (.long c3), .second, .val (.int pp), .val (.int (1 : Int32)), .val (.long A0), .second, .val (.long A1), .second, .val (.long A2), .second, .val (.long A3), .second, .val (.ref o5), .val (.ref o6), .val (.ref o7), .val (.ref o8), .val (.ref b9), .val (.int (((Q0 + (0 : Int32)) + (0 : Int32)) + (0 : Int32))), .val (.int ((1 : Int32) - (((Q0 + (0 : Int32)) + (0 : Int32)) + (0 : Int32)))), .unset] [(.int (1 : Int32))]))
        refine own_by (fun tz kz => XS.goto X38.here hx rfl (pc0 := 209) (pc' := 213) rfl (hb hby at_209) (by decide) (by decide) kz) ?_
        show own_Go p e below s _ _ (T38.setTop (mkF m 213 #[.val (.long c0), .second, .val (.long c1), .second, .val (.long c2), .second, .val (.long c3), .second, .val (.int pp), .val (.int (1 : Int32)), .val (.long A0), .second, .val (.long A1), .second, .val (.long A2), .second, .val (.long A3), .second, .val (.ref o5), .val (.ref o6), .val (.ref o7), .val (.ref o8), .val (.ref b9), .val (.int (((Q0 + (0 : Int32)) + (0 : Int32)) + (0 : Int32))), .val (.int ((1 : Int32) - (((Q0 + (0 : Int32)) + (0 : Int32)) + (0 : Int32)))), .unset] [(.int (1 : Int32))]))
        refine own_by (fun tz kz => XS.istore X38.here hx rfl (hb hby at_213) rfl (l' := #[.val (.long c0), .second, .val (.long c1), .second, .val (.long c2), .second, .val (.long c3), .second, .val (.int pp), .val (.int (1 : Int32)), .val (.long A0), .second, .val (.long A1), .second, .val (.long A2), .second, .val (.long A3), .second, .val (.ref o5), .val (.ref o6), .val (.ref o7), .val (.ref o8), .val (.ref b9), .val (.int (((Q0 + (0 : Int32)) + (0 : Int32)) + (0 : Int32))), .val (.int ((1 : Int32) - (((Q0 + (0 : Int32)) + (0 : Int32)) + (0 : Int32)))), .val (.int (1 : Int32))]) rfl kz) ?_
        show own_Go p e below s _ _ (T38.setTop (mkF m 215 #[.val (.long c0), .second, .val (.long c1), .second, .val (.long c2), .second, .val (.long c3), .second, .val (.int pp), .val (.int (1 : Int32)), .val (.long A0), .second, .val (.long A1), .second, .val (.long A2), .second, .val (.long A3), .second, .val (.ref o5), .val (.ref o6), .val (.ref o7), .val (.ref o8), .val (.ref b9), .val (.int (((Q0 + (0 : Int32)) + (0 : Int32)) + (0 : Int32))), .val (.int ((1 : Int32) - (((Q0 + (0 : Int32)) + (0 : Int32)) + (0 : Int32)))), .val (.int (1 : Int32))] []))
        refine own_by (fun tz kz => XS.aload X38.here hx rfl (hb hby at_215) rfl rfl kz) ?_
        show own_Go p e below s _ _ (T38.setTop (mkF m 217 #[.val (.long c0), .second, .val (.long c1), .second, .val (.long c2), .second, .val (.long c3), .second, .val (.int pp), .val (.int (1 : Int32)), .val (.long A0), .second, .val (.long A1), .second, .val (.long A2), .second, .val (.long A3), .second, .val (.ref o5), .val (.ref o6), .val (.ref o7), .val (.ref o8), .val (.ref b9), .val (.int (((Q0 + (0 : Int32)) + (0 : Int32)) + (0 : Int32))), .val (.int ((1 : Int32) - (((Q0 + (0 : Int32)) + (0 : Int32)) + (0 : Int32)))), .val (.int (1 : Int32))] [(.ref b9)]))
        have f43 := (f33.keep Kq34)
        obtain ⟨cq44, kq44, q44a, q44b, q44c⟩ := isOf hZ e38 f43
        obtain ⟨_, _, ⟨T44, L44, k44, n44⟩, -, X44, ⟨Lc44, hQ44, l44, y44, z44⟩, st44⟩ := X38.virtualBack hx (y := (⟨"com/example/liftwise/liftwise/eval/arithmetic/Solver$Sides", "isOneSided", "()Z"⟩ : MethodName)) (z := (⟨"com/example/liftwise/liftwise/eval/arithmetic/Solver$Sides", "isOneSided", "()Z"⟩ : MethodName)) hown (mvT hZ (hw _ (List.mem_of_getElem? (i := 80) rfl))) (mvT hZ (hw _ (List.mem_of_getElem? (i := 81) rfl))) (notFace_of_selects (args := #[]) (mvT hZ (hw _ (List.mem_of_getElem? (i := 83) rfl)))) (mvT hZ (hw _ (List.mem_of_getElem? (i := 83) rfl))) (mvT hZ (hw _ (List.mem_of_getElem? (i := 82) rfl))) (by decide) (backOf (W := 0) (rm_one l Z a0 hw [] b9 (own_up A0 (0 : Int32)) (own_dn A0 (0 : Int32)) (1 : Int32) T34.heap n0 Fa34 Fb34 (if_pos (Or.inr ((own_rel1 A0 A1 A2 A3 hQ0).2.mpr hc205_42))).symm) hZ (hw _ (List.mem_of_getElem? (i := 84) rfl)) (hw _ (List.mem_of_getElem? (i := 34) rfl)) (by decide) (by decide)) q44a q44c (g := (mkF m 217 #[.val (.long c0), .second, .val (.long c1), .second, .val (.long c2), .second, .val (.long c3), .second, .val (.int pp), .val (.int (1 : Int32)), .val (.long A0), .second, .val (.long A1), .second, .val (.long A2), .second, .val (.long A3), .second, .val (.ref o5), .val (.ref o6), .val (.ref o7), .val (.ref o8), .val (.ref b9), .val (.int (((Q0 + (0 : Int32)) + (0 : Int32)) + (0 : Int32))), .val (.int ((1 : Int32) - (((Q0 + (0 : Int32)) + (0 : Int32)) + (0 : Int32)))), .val (.int (1 : Int32))] [(.ref b9)])) rfl (by rw [hml]; rfl) (Steps.refl _) (argsL := []) (rest := []) (lenOf pd_10 rfl) rfl (by show 2 * 0 + _ ≤ _; exact Nat.le_of_eq rfl) (hb hby at_217) (fun _ _ => ⟨rfl, e38, (by decide : ((((((0 + 2) + 2) + 2) + 2) + 1) + 1) + 0 ≤ _), (by decide : ((((((0 + 8) + 8) + 8) + 8) + 4) + 6) + 0 ≤ _)⟩)
        dsimp only [Pt.U, Pt.locs, Pt.cells, Pt.slots] at X44 l44 y44 z44 st44 hQ44
        rw [l44, y44, z44] at X44
        obtain ⟨rfl, Nq44, e44⟩ := hQ44
        have N44 := Fr.app N38 Nq44
        refine own_via st44 ?_
        show own_Go p e below s _ _ (T44.setTop (mkF m 220 #[.val (.long c0), .second, .val (.long c1), .second, .val (.long c2), .second, .val (.long c3), .second, .val (.int pp), .val (.int (1 : Int32)), .val (.long A0), .second, .val (.long A1), .second, .val (.long A2), .second, .val (.long A3), .second, .val (.ref o5), .val (.ref o6), .val (.ref o7), .val (.ref o8), .val (.ref b9), .val (.int (((Q0 + (0 : Int32)) + (0 : Int32)) + (0 : Int32))), .val (.int ((1 : Int32) - (((Q0 + (0 : Int32)) + (0 : Int32)) + (0 : Int32)))), .val (.int (1 : Int32))] [(.int (1 : Int32))]))
        refine own_by (fun tz kz => XS.iload X44.here hx rfl (hb hby at_220) rfl  kz) ?_
        show own_Go p e below s _ _ (T44.setTop (mkF m 222 #[.val (.long c0), .second, .val (.long c1), .second, .val (.long c2), .second, .val (.long c3), .second, .val (.int pp), .val (.int (1 : Int32)), .val (.long A0), .second, .val (.long A1), .second, .val (.long A2), .second, .val (.long A3), .second, .val (.ref o5), .val (.ref o6), .val (.ref o7), .val (.ref o8), .val (.ref b9), .val (.int (((Q0 + (0 : Int32)) + (0 : Int32)) + (0 : Int32))), .val (.int ((1 : Int32) - (((Q0 + (0 : Int32)) + (0 : Int32)) + (0 : Int32)))), .val (.int (1 : Int32))] [(.int (1 : Int32)), (.int (1 : Int32))]))
        refine own_by (fun tz kz => XS.icmpNo X44.here hx rfl (hb hby at_222) rfl (teq (by decide : (1 : Int32) = (1 : Int32))).2 kz) ?_
        show own_Go p e below s _ _ (T44.setTop (mkF m 225 #[.val (.long c0), .second, .val (.long c1), .second, .val (.long c2), .second, .val (.long c3), .second, .val (.int pp), .val (.int (1 : Int32)), .val (.long A0), .second, .val (.long A1), .second, .val (.long A2), .second, .val (.long A3), .second, .val (.ref o5), .val (.ref o6), .val (.ref o7), .val (.ref o8), .val (.ref b9), .val (.int (((Q0 + (0 : Int32)) + (0 : Int32)) + (0 : Int32))), .val (.int ((1 : Int32) - (((Q0 + (0 : Int32)) + (0 : Int32)) + (0 : Int32)))), .val (.int (1 : Int32))] []))
        refine own_by (fun tz kz => XS.iconst X44.here hx rfl (hb hby at_225) kz) ?_
        show own_Go p e below s _ _ (T44.setTop (mkF m 226 #[.val (.long c0), .second, .val (.long c1), .second, .val (.long c2), .second, .val (.long c3), .second, .val (.int pp), .val (.int (1 : Int32)), .val (.long A0), .second, .val (.long A1), .second, .val (.long A2), .second, .val (.long A3), .second, .val (.ref o5), .val (.ref o6), .val (.ref o7), .val (.ref o8), .val (.ref b9), .val (.int (((Q0 + (0 : Int32)) + (0 : Int32)) + (0 : Int32))), .val (.int ((1 : Int32) - (((Q0 + (0 : Int32)) + (0 : Int32)) + (0 : Int32)))), .val (.int (1 : Int32))] [(.int (1 : Int32))]))
        refine own_by (fun tz kz => XS.goto X44.here hx rfl (pc0 := 226) (pc' := 230) rfl (hb hby at_226) (by decide) (by decide) kz) ?_
        show own_Go p e below s _ _ (T44.setTop (mkF m 230 #[.val (.long c0), .second, .val (.long c1), .second, .val (.long c2), .second, .val (.long c3), .second, .val (.int pp), .val (.int (1 : Int32)), .val (.long A0), .second, .val (.long A1), .second, .val (.long A2), .second, .val (.long A3), .second, .val (.ref o5), .val (.ref o6), .val (.ref o7), .val (.ref o8), .val (.ref b9), .val (.int (((Q0 + (0 : Int32)) + (0 : Int32)) + (0 : Int32))), .val (.int ((1 : Int32) - (((Q0 + (0 : Int32)) + (0 : Int32)) + (0 : Int32)))), .val (.int (1 : Int32))] [(.int (1 : Int32))]))
        refine own_retI X44 hx hlk (t := .boolean) hret (by simp) rfl (hb hby at_230) ?_ (by decide) (by decide)
        exact ⟨rfl, N44⟩
      · refine own_by (fun tz kz => XS.ifYes X38.here hx rfl (pc0 := 205) (pc' := 212) rfl (hb hby at_205) rfl ((if0 _ _).trans (feq hc205_42).2) (by decide) (by decide) kz) ?_
        show own_Go p e below s _ _ (T38.setTop (mkF m 212 #[.val (.long c0), .second, .val (.long c1), .second, .val (.long c2), .second, .val (.long c3), .second, .val (.int pp), .val (.int (1 : Int32)), .val (.long A0), .second, .val (.long A1), .second, .val (.long A2), .second, .val (.long A3), .second, .val (.ref o5), .val (.ref o6), .val (.ref o7), .val (.ref o8), .val (.ref b9), .val (.int (((Q0 + (0 : Int32)) + (0 : Int32)) + (0 : Int32))), .val (.int ((1 : Int32) - (((Q0 + (0 : Int32)) + (0 : Int32)) + (0 : Int32)))), .unset] []))
        refine own_by (fun tz kz => XS.iconst X38.here hx rfl (hb hby at_212) kz) ?_
        show own_Go p e below s _ _ (T38.setTop (mkF m 213 #[.val (.long c0), .second, .val (.long c1), .second, .val (.long c2), .second, .val (.long c3), .second, .val (.int pp), .val (.int (1 : Int32)), .val (.long A0), .second, .val (.long A1), .second, .val (.long A2), .second, .val (.long A3), .second, .val (.ref o5), .val (.ref o6), .val (.ref o7), .val (.ref o8), .val (.ref b9), .val (.int (((Q0 + (0 : Int32)) + (0 : Int32)) + (0 : Int32))), .val (.int ((1 : Int32) - (((Q0 + (0 : Int32)) + (0 : Int32)) + (0 : Int32)))), .unset] [(.int (0 : Int32))]))
        refine own_by (fun tz kz => XS.istore X38.here hx rfl (hb hby at_213) rfl (l' := #[.val (.long c0), .second, .val (.long c1), .second, .val (.long c2), .second, .val (.long c3), .second, .val (.int pp), .val (.int (1 : Int32)), .val (.long A0), .second, .val (.long A1), .second, .val (.long A2), .second, .val (.long A3), .second, .val (.ref o5), .val (.ref o6), .val (.ref o7), .val (.ref o8), .val (.ref b9), .val (.int (((Q0 + (0 : Int32)) + (0 : Int32)) + (0 : Int32))), .val (.int ((1 : Int32) - (((Q0 + (0 : Int32)) + (0 : Int32)) + (0 : Int32)))), .val (.int (0 : Int32))]) rfl kz) ?_
        show own_Go p e below s _ _ (T38.setTop (mkF m 215 #[.val (.long c0), .second, .val (.long c1), .second, .val (.long c2), .second, .val (.long c3), .second, .val (.int pp), .val (.int (1 : Int32)), .val (.long A0), .second, .val (.long A1), .second, .val (.long A2), .second, .val (.long A3), .second, .val (.ref o5), .val (.ref o6), .val (.ref o7), .val (.ref o8), .val (.ref b9), .val (.int (((Q0 + (0 : Int32)) + (0 : Int32)) + (0 : Int32))), .val (.int ((1 : Int32) - (((Q0 + (0 : Int32)) + (0 : Int32)) + (0 : Int32)))), .val (.int (0 : Int32))] []))
        refine own_by (fun tz kz => XS.aload X38.here hx rfl (hb hby at_215) rfl rfl kz) ?_
        show own_Go p e below s _ _ (T38.setTop (mkF m 217 #[.val (.long c0), .second, .val (.long c1), .second, .val (.long c2), .second, .val (.long c3), .second, .val (.int pp), .val (.int (1 : Int32)), .val (.long A0), .second, .val (.long A1), .second, .val (.long A2), .second, .val (.long A3), .second, .val (.ref o5), .val (.ref o6), .val (.ref o7), .val (.ref o8), .val (.ref b9), .val (.int (((Q0 + (0 : Int32)) + (0 : Int32)) + (0 : Int32))), .val (.int ((1 : Int32) - (((Q0 + (0 : Int32)) + (0 : Int32)) + (0 : Int32)))), .val (.int (0 : Int32))] [(.ref b9)]))
        have f45 := (f33.keep Kq34)
        obtain ⟨cq46, kq46, q46a, q46b, q46c⟩ := isOf hZ e38 f45
        obtain ⟨_, _, ⟨T46, L46, k46, n46⟩, -, X46, ⟨Lc46, hQ46, l46, y46, z46⟩, st46⟩ := X38.virtualBack hx (y := (⟨"com/example/liftwise/liftwise/eval/arithmetic/Solver$Sides", "isOneSided", "()Z"⟩ : MethodName)) (z := (⟨"com/example/liftwise/liftwise/eval/arithmetic/Solver$Sides", "isOneSided", "()Z"⟩ : MethodName)) hown (mvT hZ (hw _ (List.mem_of_getElem? (i := 80) rfl))) (mvT hZ (hw _ (List.mem_of_getElem? (i := 81) rfl))) (notFace_of_selects (args := #[]) (mvT hZ (hw _ (List.mem_of_getElem? (i := 83) rfl)))) (mvT hZ (hw _ (List.mem_of_getElem? (i := 83) rfl))) (mvT hZ (hw _ (List.mem_of_getElem? (i := 82) rfl))) (by decide) (backOf (W := 0) (rm_one l Z a0 hw [] b9 (own_up A0 (0 : Int32)) (own_dn A0 (0 : Int32)) (0 : Int32) T34.heap n0 Fa34 Fb34 (if_neg (fun q => q.elim (fun q => hc200_39 ((own_rel1 A0 A1 A2 A3 hQ0).1.mp q)) (fun q => hc205_42 ((own_rel1 A0 A1 A2 A3 hQ0).2.mp q)))).symm) hZ (hw _ (List.mem_of_getElem? (i := 84) rfl)) (hw _ (List.mem_of_getElem? (i := 34) rfl)) (by decide) (by decide)) q46a q46c (g := (mkF m 217 #[.val (.long c0), .second, .val (.long c1), .second, .val (.long c2), .second, .val (.long c3), .second, .val (.int pp), .val (.int (1 : Int32)), .val (.long A0), .second, .val (.long A1), .second, .val (.long A2), .second, .val (.long A3), .second, .val (.ref o5), .val (.ref o6), .val (.ref o7), .val (.ref o8), .val (.ref b9), .val (.int (((Q0 + (0 : Int32)) + (0 : Int32)) + (0 : Int32))), .val (.int ((1 : Int32) - (((Q0 + (0 : Int32)) + (0 : Int32)) + (0 : Int32)))), .val (.int (0 : Int32))] [(.ref b9)])) rfl (by rw [hml]; rfl) (Steps.refl _) (argsL := []) (rest := []) (lenOf pd_10 rfl) rfl (by show 2 * 0 + _ ≤ _; exact Nat.le_of_eq rfl) (hb hby at_217) (fun _ _ => ⟨rfl, e38, (by decide : ((((((0 + 2) + 2) + 2) + 2) + 1) + 1) + 0 ≤ _), (by decide : ((((((0 + 8) + 8) + 8) + 8) + 4) + 6) + 0 ≤ _)⟩)
        dsimp only [Pt.U, Pt.locs, Pt.cells, Pt.slots] at X46 l46 y46 z46 st46 hQ46
        rw [l46, y46, z46] at X46
        obtain ⟨rfl, Nq46, e46⟩ := hQ46
        have N46 := Fr.app N38 Nq46
        refine own_via st46 ?_
        show own_Go p e below s _ _ (T46.setTop (mkF m 220 #[.val (.long c0), .second, .val (.long c1), .second, .val (.long c2), .second, .val (.long c3), .second, .val (.int pp), .val (.int (1 : Int32)), .val (.long A0), .second, .val (.long A1), .second, .val (.long A2), .second, .val (.long A3), .second, .val (.ref o5), .val (.ref o6), .val (.ref o7), .val (.ref o8), .val (.ref b9), .val (.int (((Q0 + (0 : Int32)) + (0 : Int32)) + (0 : Int32))), .val (.int ((1 : Int32) - (((Q0 + (0 : Int32)) + (0 : Int32)) + (0 : Int32)))), .val (.int (0 : Int32))] [(.int (0 : Int32))]))
        refine own_by (fun tz kz => XS.iload X46.here hx rfl (hb hby at_220) rfl  kz) ?_
        show own_Go p e below s _ _ (T46.setTop (mkF m 222 #[.val (.long c0), .second, .val (.long c1), .second, .val (.long c2), .second, .val (.long c3), .second, .val (.int pp), .val (.int (1 : Int32)), .val (.long A0), .second, .val (.long A1), .second, .val (.long A2), .second, .val (.long A3), .second, .val (.ref o5), .val (.ref o6), .val (.ref o7), .val (.ref o8), .val (.ref b9), .val (.int (((Q0 + (0 : Int32)) + (0 : Int32)) + (0 : Int32))), .val (.int ((1 : Int32) - (((Q0 + (0 : Int32)) + (0 : Int32)) + (0 : Int32)))), .val (.int (0 : Int32))] [(.int (0 : Int32)), (.int (0 : Int32))]))
        refine own_by (fun tz kz => XS.icmpNo X46.here hx rfl (hb hby at_222) rfl (teq (by decide : (0 : Int32) = (0 : Int32))).2 kz) ?_
        show own_Go p e below s _ _ (T46.setTop (mkF m 225 #[.val (.long c0), .second, .val (.long c1), .second, .val (.long c2), .second, .val (.long c3), .second, .val (.int pp), .val (.int (1 : Int32)), .val (.long A0), .second, .val (.long A1), .second, .val (.long A2), .second, .val (.long A3), .second, .val (.ref o5), .val (.ref o6), .val (.ref o7), .val (.ref o8), .val (.ref b9), .val (.int (((Q0 + (0 : Int32)) + (0 : Int32)) + (0 : Int32))), .val (.int ((1 : Int32) - (((Q0 + (0 : Int32)) + (0 : Int32)) + (0 : Int32)))), .val (.int (0 : Int32))] []))
        refine own_by (fun tz kz => XS.iconst X46.here hx rfl (hb hby at_225) kz) ?_
        show own_Go p e below s _ _ (T46.setTop (mkF m 226 #[.val (.long c0), .second, .val (.long c1), .second, .val (.long c2), .second, .val (.long c3), .second, .val (.int pp), .val (.int (1 : Int32)), .val (.long A0), .second, .val (.long A1), .second, .val (.long A2), .second, .val (.long A3), .second, .val (.ref o5), .val (.ref o6), .val (.ref o7), .val (.ref o8), .val (.ref b9), .val (.int (((Q0 + (0 : Int32)) + (0 : Int32)) + (0 : Int32))), .val (.int ((1 : Int32) - (((Q0 + (0 : Int32)) + (0 : Int32)) + (0 : Int32)))), .val (.int (0 : Int32))] [(.int (1 : Int32))]))
        refine own_by (fun tz kz => XS.goto X46.here hx rfl (pc0 := 226) (pc' := 230) rfl (hb hby at_226) (by decide) (by decide) kz) ?_
        show own_Go p e below s _ _ (T46.setTop (mkF m 230 #[.val (.long c0), .second, .val (.long c1), .second, .val (.long c2), .second, .val (.long c3), .second, .val (.int pp), .val (.int (1 : Int32)), .val (.long A0), .second, .val (.long A1), .second, .val (.long A2), .second, .val (.long A3), .second, .val (.ref o5), .val (.ref o6), .val (.ref o7), .val (.ref o8), .val (.ref b9), .val (.int (((Q0 + (0 : Int32)) + (0 : Int32)) + (0 : Int32))), .val (.int ((1 : Int32) - (((Q0 + (0 : Int32)) + (0 : Int32)) + (0 : Int32)))), .val (.int (0 : Int32))] [(.int (1 : Int32))]))
        refine own_retI X46 hx hlk (t := .boolean) hret (by simp) rfl (hb hby at_230) ?_ (by decide) (by decide)
        exact ⟨rfl, N46⟩
  · show own_Go p e below s _ _ (T16.setTop (mkF m 72 #[.val (.long c0), .second, .val (.long c1), .second, .val (.long c2), .second, .val (.long c3), .second, .val (.int pp), .val (.int (2 : Int32)), .val (.long A0), .second, .val (.long A1), .second, .val (.long A2), .second, .val (.long A3), .second, .val (.ref o5), .val (.ref o6), .val (.ref o7), .val (.ref o8), .val (.ref b9), .unset, .unset, .unset] []))
    refine own_by (fun tz kz => XS.iload X16.here hx rfl (hb hby at_72) rfl  kz) ?_
    show own_Go p e below s _ _ (T16.setTop (mkF m 74 #[.val (.long c0), .second, .val (.long c1), .second, .val (.long c2), .second, .val (.long c3), .second, .val (.int pp), .val (.int (2 : Int32)), .val (.long A0), .second, .val (.long A1), .second, .val (.long A2), .second, .val (.long A3), .second, .val (.ref o5), .val (.ref o6), .val (.ref o7), .val (.ref o8), .val (.ref b9), .unset, .unset, .unset] [(.int (2 : Int32))]))
    refine own_by (fun tz kz => XS.ifNo X16.here hx rfl (hb hby at_74) rfl ((if0 _ _).trans (tlt (by decide : (0 : Int32) < (2 : Int32))).2.2.2) kz) ?_
    show own_Go p e below s _ _ (T16.setTop (mkF m 77 #[.val (.long c0), .second, .val (.long c1), .second, .val (.long c2), .second, .val (.long c3), .second, .val (.int pp), .val (.int (2 : Int32)), .val (.long A0), .second, .val (.long A1), .second, .val (.long A2), .second, .val (.long A3), .second, .val (.ref o5), .val (.ref o6), .val (.ref o7), .val (.ref o8), .val (.ref b9), .unset, .unset, .unset] []))
    refine own_by (fun tz kz => XS.aload X16.here hx rfl (hb hby at_77) rfl rfl kz) ?_
    show own_Go p e below s _ _ (T16.setTop (mkF m 79 #[.val (.long c0), .second, .val (.long c1), .second, .val (.long c2), .second, .val (.long c3), .second, .val (.int pp), .val (.int (2 : Int32)), .val (.long A0), .second, .val (.long A1), .second, .val (.long A2), .second, .val (.long A3), .second, .val (.ref o5), .val (.ref o6), .val (.ref o7), .val (.ref o8), .val (.ref b9), .unset, .unset, .unset] [(.ref b9)]))
    refine own_by (fun tz kz => XS.aload X16.here hx rfl (hb hby at_79) rfl rfl kz) ?_
    show own_Go p e below s _ _ (T16.setTop (mkF m 81 #[.val (.long c0), .second, .val (.long c1), .second, .val (.long c2), .second, .val (.long c3), .second, .val (.int pp), .val (.int (2 : Int32)), .val (.long A0), .second, .val (.long A1), .second, .val (.long A2), .second, .val (.long A3), .second, .val (.ref o5), .val (.ref o6), .val (.ref o7), .val (.ref o8), .val (.ref b9), .unset, .unset, .unset] [(.ref o5), (.ref b9)]))
    have f47 := ((f10.ext E9).keep Kq16)
    have f48 := (((((Eb5.keep Kq6 nin0).keep Kq7 nin0).keep Kq8 nin0).ext E9).keep Kq16 (ninS ne_o5_b9 nin0))
    have f49 := (((((Ec5.keep Kq6 nin0).keep Kq7 nin0).keep Kq8 nin0).ext E9).keep Kq16 (ninS ne_o5_b9 nin0))
    have f50 := ((Arv.ext f11 E9).keep Kq16 (ninS ne_m5_b9 nin0))
    have f51 := (A9.keep Kq16)
    obtain ⟨cq52, kq52, q52a, q52b, q52c⟩ := isOf hZ e16 f51
    obtain ⟨_, _, ⟨T52, L52, k52, n52⟩, -, X52, ⟨Lc52, hQ52, l52, y52, z52⟩, st52⟩ := X16.virtualBack hx (y := (⟨"com/example/liftwise/liftwise/eval/arithmetic/Solver$Sides", "add", "(Ljava/math/BigInteger;)V"⟩ : MethodName)) (z := (⟨"com/example/liftwise/liftwise/eval/arithmetic/Solver$Sides", "add", "(Ljava/math/BigInteger;)V"⟩ : MethodName)) hown (mvT hZ (hw _ (List.mem_of_getElem? (i := 43) rfl))) (mvT hZ (hw _ (List.mem_of_getElem? (i := 44) rfl))) (notFace_of_selects (args := #[]) (mvT hZ (hw _ (List.mem_of_getElem? (i := 46) rfl)))) (mvT hZ (hw _ (List.mem_of_getElem? (i := 46) rfl))) (mvT hZ (hw _ (List.mem_of_getElem? (i := 45) rfl))) (by decide) (backOf (W := 0) (rm_add l Z a0 hw [] b9 o5 one om ko (own_sg A0) (own_un A0) (0 : Int32) (0 : Int32) (1 : Int32) (1 : Int32) (own_up A0 (0 : Int32)) (own_dn A0 (0 : Int32)) (own_lu A0 (1 : Int32)) (own_uu A0 (1 : Int32)) T16.heap n0 O16 S_ONE E_one Fs_one Fm_one V_one f51 Fa16 Fb16 Fc16 Fd16 g_b9 ⟨m5, kk5, nn5, vv5, f47, f48, f49, f50, Ee5⟩ (own_sg_or _) (own_un_or _) (Or.inr rfl) (Or.inr rfl) rfl rfl rfl rfl) hZ (hw _ (List.mem_of_getElem? (i := 47) rfl)) (hw _ (List.mem_of_getElem? (i := 34) rfl)) (by decide) (by decide)) q52a q52c (g := (mkF m 81 #[.val (.long c0), .second, .val (.long c1), .second, .val (.long c2), .second, .val (.long c3), .second, .val (.int pp), .val (.int (2 : Int32)), .val (.long A0), .second, .val (.long A1), .second, .val (.long A2), .second, .val (.long A3), .second, .val (.ref o5), .val (.ref o6), .val (.ref o7), .val (.ref o8), .val (.ref b9), .unset, .unset, .unset] [(.ref o5), (.ref b9)])) rfl (by rw [hml]; rfl) (Steps.refl _) (argsL := [(.ref o5)]) (rest := []) (lenOf pd_4 rfl) rfl (by show 2 * 0 + _ ≤ _; exact Nat.le_of_eq rfl) (hb hby at_81) (fun _ _ => ⟨rfl, e16, (by decide : (((((0 + 2) + 2) + 2) + 2) + 1) + 1 ≤ _), (by decide : (((((0 + 8) + 8) + 8) + 8) + 4) + 6 ≤ _)⟩)
    dsimp only [Pt.U, Pt.locs, Pt.cells, Pt.slots] at X52 l52 y52 z52 st52 hQ52
    rw [l52, y52, z52] at X52
    obtain ⟨rfl, Nq52, Kq52, Fa52, Fb52, Fc52, Fd52⟩ := hQ52
    have N52 := Fr.app N16 Nq52
    have e52 : T52.heap = T52.heap := rfl
    refine own_via st52 ?_
    have O52 := O16.keep Kq52 (allS g_b9 all0)
    have K52 := K16.trans Kq52 (allS (Or.inr sz_b9) all0)
    show own_Go p e below s _ _ (T52.setTop (mkF m 84 #[.val (.long c0), .second, .val (.long c1), .second, .val (.long c2), .second, .val (.long c3), .second, .val (.int pp), .val (.int (2 : Int32)), .val (.long A0), .second, .val (.long A1), .second, .val (.long A2), .second, .val (.long A3), .second, .val (.ref o5), .val (.ref o6), .val (.ref o7), .val (.ref o8), .val (.ref b9), .unset, .unset, .unset] []))
    refine own_by (fun tz kz => XS.iload X52.here hx rfl (hb hby at_84) rfl  kz) ?_
    show own_Go p e below s _ _ (T52.setTop (mkF m 86 #[.val (.long c0), .second, .val (.long c1), .second, .val (.long c2), .second, .val (.long c3), .second, .val (.int pp), .val (.int (2 : Int32)), .val (.long A0), .second, .val (.long A1), .second, .val (.long A2), .second, .val (.long A3), .second, .val (.ref o5), .val (.ref o6), .val (.ref o7), .val (.ref o8), .val (.ref b9), .unset, .unset, .unset] [(.int (2 : Int32))]))
    refine own_by (fun tz kz => XS.iconst X52.here hx rfl (hb hby at_86) kz) ?_
    show own_Go p e below s _ _ (T52.setTop (mkF m 87 #[.val (.long c0), .second, .val (.long c1), .second, .val (.long c2), .second, .val (.long c3), .second, .val (.int pp), .val (.int (2 : Int32)), .val (.long A0), .second, .val (.long A1), .second, .val (.long A2), .second, .val (.long A3), .second, .val (.ref o5), .val (.ref o6), .val (.ref o7), .val (.ref o8), .val (.ref b9), .unset, .unset, .unset] [(.int (1 : Int32)), (.int (2 : Int32))]))
    refine own_by (fun tz kz => XS.icmpNo X52.here hx rfl (hb hby at_87) rfl (tlt (by decide : (1 : Int32) < (2 : Int32))).2.2.2 kz) ?_
    show own_Go p e below s _ _ (T52.setTop (mkF m 90 #[.val (.long c0), .second, .val (.long c1), .second, .val (.long c2), .second, .val (.long c3), .second, .val (.int pp), .val (.int (2 : Int32)), .val (.long A0), .second, .val (.long A1), .second, .val (.long A2), .second, .val (.long A3), .second, .val (.ref o5), .val (.ref o6), .val (.ref o7), .val (.ref o8), .val (.ref b9), .unset, .unset, .unset] []))
    refine own_by (fun tz kz => XS.aload X52.here hx rfl (hb hby at_90) rfl rfl kz) ?_
    show own_Go p e below s _ _ (T52.setTop (mkF m 92 #[.val (.long c0), .second, .val (.long c1), .second, .val (.long c2), .second, .val (.long c3), .second, .val (.int pp), .val (.int (2 : Int32)), .val (.long A0), .second, .val (.long A1), .second, .val (.long A2), .second, .val (.long A3), .second, .val (.ref o5), .val (.ref o6), .val (.ref o7), .val (.ref o8), .val (.ref b9), .unset, .unset, .unset] [(.ref b9)]))
    refine own_by (fun tz kz => XS.aload X52.here hx rfl (hb hby at_92) rfl rfl kz) ?_
    show own_Go p e below s _ _ (T52.setTop (mkF m 94 #[.val (.long c0), .second, .val (.long c1), .second, .val (.long c2), .second, .val (.long c3), .second, .val (.int pp), .val (.int (2 : Int32)), .val (.long A0), .second, .val (.long A1), .second, .val (.long A2), .second, .val (.long A3), .second, .val (.ref o5), .val (.ref o6), .val (.ref o7), .val (.ref o8), .val (.ref b9), .unset, .unset, .unset] [(.ref o6), (.ref b9)]))
    have f53 := (((f12.ext E9).keep Kq16).keep Kq52)
    have f54 := (((((Eb6.keep Kq7 nin0).keep Kq8 nin0).ext E9).keep Kq16 (ninS ne_o6_b9 nin0)).keep Kq52 (ninS ne_o6_b9 nin0))
    have f55 := (((((Ec6.keep Kq7 nin0).keep Kq8 nin0).ext E9).keep Kq16 (ninS ne_o6_b9 nin0)).keep Kq52 (ninS ne_o6_b9 nin0))
    have f56 := (((Arv.ext f13 E9).keep Kq16 (ninS ne_m6_b9 nin0)).keep Kq52 (ninS ne_m6_b9 nin0))
    have f57 := (f51.keep Kq52)
    obtain ⟨cq58, kq58, q58a, q58b, q58c⟩ := isOf hZ e52 f57
    obtain ⟨_, _, ⟨T58, L58, k58, n58⟩, -, X58, ⟨Lc58, hQ58, l58, y58, z58⟩, st58⟩ := X52.virtualBack hx (y := (⟨"com/example/liftwise/liftwise/eval/arithmetic/Solver$Sides", "add", "(Ljava/math/BigInteger;)V"⟩ : MethodName)) (z := (⟨"com/example/liftwise/liftwise/eval/arithmetic/Solver$Sides", "add", "(Ljava/math/BigInteger;)V"⟩ : MethodName)) hown (mvT hZ (hw _ (List.mem_of_getElem? (i := 43) rfl))) (mvT hZ (hw _ (List.mem_of_getElem? (i := 44) rfl))) (notFace_of_selects (args := #[]) (mvT hZ (hw _ (List.mem_of_getElem? (i := 46) rfl)))) (mvT hZ (hw _ (List.mem_of_getElem? (i := 46) rfl))) (mvT hZ (hw _ (List.mem_of_getElem? (i := 45) rfl))) (by decide) (backOf (W := 0) (rm_add l Z a0 hw [] b9 o6 one om ko (own_sg A1) (own_un A1) (own_up A0 (0 : Int32)) (own_dn A0 (0 : Int32)) (own_lu A0 (1 : Int32)) (own_uu A0 (1 : Int32)) (own_up A1 (own_up A0 (0 : Int32))) (own_dn A1 (own_dn A0 (0 : Int32))) (own_lu A1 (own_lu A0 (1 : Int32))) (own_uu A1 (own_uu A0 (1 : Int32))) T52.heap n0 O52 S_ONE E_one Fs_one Fm_one V_one f57 Fa52 Fb52 Fc52 Fd52 g_b9 ⟨m6, kk6, nn6, vv6, f53, f54, f55, f56, Ee6⟩ (own_sg_or _) (own_un_or _) (own_lu_or A0 (Or.inr rfl)) (own_uu_or A0 (Or.inr rfl)) rfl rfl rfl rfl) hZ (hw _ (List.mem_of_getElem? (i := 47) rfl)) (hw _ (List.mem_of_getElem? (i := 34) rfl)) (by decide) (by decide)) q58a q58c (g := (mkF m 94 #[.val (.long c0), .second, .val (.long c1), .second, .val (.long c2), .second, .val (.long c3), .second, .val (.int pp), .val (.int (2 : Int32)), .val (.long A0), .second, .val (.long A1), .second, .val (.long A2), .second, .val (.long A3), .second, .val (.ref o5), .val (.ref o6), .val (.ref o7), .val (.ref o8), .val (.ref b9), .unset, .unset, .unset] [(.ref o6), (.ref b9)])) rfl (by rw [hml]; rfl) (Steps.refl _) (argsL := [(.ref o6)]) (rest := []) (lenOf pd_4 rfl) rfl (by show 2 * 0 + _ ≤ _; exact Nat.le_of_eq rfl) (hb hby at_94) (fun _ _ => ⟨rfl, e52, (by decide : ((((((0 + 2) + 2) + 2) + 2) + 1) + 1) + 1 ≤ _), (by decide : ((((((0 + 8) + 8) + 8) + 8) + 4) + 6) + 6 ≤ _)⟩)
    dsimp only [Pt.U, Pt.locs, Pt.cells, Pt.slots] at X58 l58 y58 z58 st58 hQ58
    rw [l58, y58, z58] at X58
    obtain ⟨rfl, Nq58, Kq58, Fa58, Fb58, Fc58, Fd58⟩ := hQ58
    have N58 := Fr.app N52 Nq58
    have e58 : T58.heap = T58.heap := rfl
    refine own_via st58 ?_
    have O58 := O52.keep Kq58 (allS g_b9 all0)
    have K58 := K52.trans Kq58 (allS (Or.inr sz_b9) all0)
    show own_Go p e below s _ _ (T58.setTop (mkF m 97 #[.val (.long c0), .second, .val (.long c1), .second, .val (.long c2), .second, .val (.long c3), .second, .val (.int pp), .val (.int (2 : Int32)), .val (.long A0), .second, .val (.long A1), .second, .val (.long A2), .second, .val (.long A3), .second, .val (.ref o5), .val (.ref o6), .val (.ref o7), .val (.ref o8), .val (.ref b9), .unset, .unset, .unset] []))
    refine own_by (fun tz kz => XS.iload X58.here hx rfl (hb hby at_97) rfl  kz) ?_
    show own_Go p e below s _ _ (T58.setTop (mkF m 99 #[.val (.long c0), .second, .val (.long c1), .second, .val (.long c2), .second, .val (.long c3), .second, .val (.int pp), .val (.int (2 : Int32)), .val (.long A0), .second, .val (.long A1), .second, .val (.long A2), .second, .val (.long A3), .second, .val (.ref o5), .val (.ref o6), .val (.ref o7), .val (.ref o8), .val (.ref b9), .unset, .unset, .unset] [(.int (2 : Int32))]))
    refine own_by (fun tz kz => XS.iconst X58.here hx rfl (hb hby at_99) kz) ?_
    show own_Go p e below s _ _ (T58.setTop (mkF m 100 #[.val (.long c0), .second, .val (.long c1), .second, .val (.long c2), .second, .val (.long c3), .second, .val (.int pp), .val (.int (2 : Int32)), .val (.long A0), .second, .val (.long A1), .second, .val (.long A2), .second, .val (.long A3), .second, .val (.ref o5), .val (.ref o6), .val (.ref o7), .val (.ref o8), .val (.ref b9), .unset, .unset, .unset] [(.int (2 : Int32)), (.int (2 : Int32))]))
    refine own_by (fun tz kz => XS.icmpYes X58.here hx rfl (pc0 := 100) (pc' := 110) rfl (hb hby at_100) rfl (flt (by decide : ¬ (2 : Int32) < (2 : Int32))).2.2.2 (by decide) (by decide) kz) ?_
    show own_Go p e below s _ _ (T58.setTop (mkF m 110 #[.val (.long c0), .second, .val (.long c1), .second, .val (.long c2), .second, .val (.long c3), .second, .val (.int pp), .val (.int (2 : Int32)), .val (.long A0), .second, .val (.long A1), .second, .val (.long A2), .second, .val (.long A3), .second, .val (.ref o5), .val (.ref o6), .val (.ref o7), .val (.ref o8), .val (.ref b9), .unset, .unset, .unset] []))
    refine own_by (fun tz kz => XS.iload X58.here hx rfl (hb hby at_110) rfl  kz) ?_
    show own_Go p e below s _ _ (T58.setTop (mkF m 112 #[.val (.long c0), .second, .val (.long c1), .second, .val (.long c2), .second, .val (.long c3), .second, .val (.int pp), .val (.int (2 : Int32)), .val (.long A0), .second, .val (.long A1), .second, .val (.long A2), .second, .val (.long A3), .second, .val (.ref o5), .val (.ref o6), .val (.ref o7), .val (.ref o8), .val (.ref b9), .unset, .unset, .unset] [(.int (2 : Int32))]))
    refine own_by (fun tz kz => XS.iconst X58.here hx rfl (hb hby at_112) kz) ?_
    show own_Go p e below s _ _ (T58.setTop (mkF m 113 #[.val (.long c0), .second, .val (.long c1), .second, .val (.long c2), .second, .val (.long c3), .second, .val (.int pp), .val (.int (2 : Int32)), .val (.long A0), .second, .val (.long A1), .second, .val (.long A2), .second, .val (.long A3), .second, .val (.ref o5), .val (.ref o6), .val (.ref o7), .val (.ref o8), .val (.ref b9), .unset, .unset, .unset] [(.int (3 : Int32)), (.int (2 : Int32))]))
    refine own_by (fun tz kz => XS.icmpYes X58.here hx rfl (pc0 := 113) (pc' := 123) rfl (hb hby at_113) rfl (flt (by decide : ¬ (3 : Int32) < (2 : Int32))).2.2.2 (by decide) (by decide) kz) ?_
    show own_Go p e below s _ _ (T58.setTop (mkF m 123 #[.val (.long c0), .second, .val (.long c1), .second, .val (.long c2), .second, .val (.long c3), .second, .val (.int pp), .val (.int (2 : Int32)), .val (.long A0), .second, .val (.long A1), .second, .val (.long A2), .second, .val (.long A3), .second, .val (.ref o5), .val (.ref o6), .val (.ref o7), .val (.ref o8), .val (.ref b9), .unset, .unset, .unset] []))
    refine own_by (fun tz kz => XS.iload X58.here hx rfl (hb hby at_123) rfl  kz) ?_
    show own_Go p e below s _ _ (T58.setTop (mkF m 125 #[.val (.long c0), .second, .val (.long c1), .second, .val (.long c2), .second, .val (.long c3), .second, .val (.int pp), .val (.int (2 : Int32)), .val (.long A0), .second, .val (.long A1), .second, .val (.long A2), .second, .val (.long A3), .second, .val (.ref o5), .val (.ref o6), .val (.ref o7), .val (.ref o8), .val (.ref b9), .unset, .unset, .unset] [(.int (2 : Int32))]))
    refine own_by (fun tz kz => XS.ifNo X58.here hx rfl (hb hby at_125) rfl ((if0 _ _).trans (tlt (by decide : (0 : Int32) < (2 : Int32))).2.2.2) kz) ?_
    show own_Go p e below s _ _ (T58.setTop (mkF m 128 #[.val (.long c0), .second, .val (.long c1), .second, .val (.long c2), .second, .val (.long c3), .second, .val (.int pp), .val (.int (2 : Int32)), .val (.long A0), .second, .val (.long A1), .second, .val (.long A2), .second, .val (.long A3), .second, .val (.ref o5), .val (.ref o6), .val (.ref o7), .val (.ref o8), .val (.ref b9), .unset, .unset, .unset] []))
    refine own_by (fun tz kz => XS.iconst X58.here hx rfl (hb hby at_128) kz) ?_
    show own_Go p e below s _ _ (T58.setTop (mkF m 129 #[.val (.long c0), .second, .val (.long c1), .second, .val (.long c2), .second, .val (.long c3), .second, .val (.int pp), .val (.int (2 : Int32)), .val (.long A0), .second, .val (.long A1), .second, .val (.long A2), .second, .val (.long A3), .second, .val (.ref o5), .val (.ref o6), .val (.ref o7), .val (.ref o8), .val (.ref b9), .unset, .unset, .unset] [(.int (1 : Int32))]))
    refine own_by (fun tz kz => XS.goto X58.here hx rfl (pc0 := 129) (pc' := 133) rfl (hb hby at_129) (by decide) (by decide) kz) ?_
    show own_Go p e below s _ _ (T58.setTop (mkF m 133 #[.val (.long c0), .second, .val (.long c1), .second, .val (.long c2), .second, .val (.long c3), .second, .val (.int pp), .val (.int (2 : Int32)), .val (.long A0), .second, .val (.long A1), .second, .val (.long A2), .second, .val (.long A3), .second, .val (.ref o5), .val (.ref o6), .val (.ref o7), .val (.ref o8), .val (.ref b9), .unset, .unset, .unset] [(.int (1 : Int32))]))
    refine own_by (fun tz kz => XS.lload X58.here hx rfl (hb hby at_133) rfl kz) ?_
    show own_Go p e below s _ _ (T58.setTop (mkF m 135 #[.val (.long c0), .second, .val (.long c1), .second, .val (.long c2), .second, .val (.long c3), .second, .val (.int pp), .val (.int (2 : Int32)), .val (.long A0), .second, .val (.long A1), .second, .val (.long A2), .second, .val (.long A3), .second, .val (.ref o5), .val (.ref o6), .val (.ref o7), .val (.ref o8), .val (.ref b9), .unset, .unset, .unset] [(.long A0), (.int (1 : Int32))]))
    obtain ⟨_, _, ⟨T59, L59, k59, n59⟩, -, X59, ⟨Lc59, hQ59, l59, y59, z59⟩, st59⟩ := Jvm.LawKit.callS X58 hx (y := (⟨"com/example/liftwise/liftwise/eval/arithmetic/SidesIsOneSidedPinLaw", "positive", "(ZJ)I"⟩ : MethodName)) hown (mvT hZ (hw _ (List.mem_of_getElem? (i := 77) rfl))) (mvT hZ (hw _ (List.mem_of_getElem? (i := 78) rfl))) (mvT hZ (hw _ (List.mem_of_getElem? (i := 3) rfl))) (mvT hZ (hw _ (List.mem_of_getElem? (i := 79) rfl))) (by decide) (backOf (W := 0) (rm_ps l Z a0 hw [] (1 : Int32) A0 Q0 T58.heap n0 hQ0) hZ (hw _ (List.mem_of_getElem? (i := 79) rfl)) (hw _ (List.mem_of_getElem? (i := 3) rfl)) (by decide) (by decide)) (g := (mkF m 135 #[.val (.long c0), .second, .val (.long c1), .second, .val (.long c2), .second, .val (.long c3), .second, .val (.int pp), .val (.int (2 : Int32)), .val (.long A0), .second, .val (.long A1), .second, .val (.long A2), .second, .val (.long A3), .second, .val (.ref o5), .val (.ref o6), .val (.ref o7), .val (.ref o8), .val (.ref b9), .unset, .unset, .unset] [(.long A0), (.int (1 : Int32))])) rfl (by rw [hml]; rfl) (argsL := [(.int (1 : Int32)), (.long A0)]) (rest := []) (lenOf pd_9 rfl) rfl (by show 2 * 0 + _ ≤ _; exact Nat.le_of_eq rfl) (hb hby at_135) (fun _ _ => ⟨rfl, e58, (by decide : (((((((0 + 2) + 2) + 2) + 2) + 1) + 1) + 1) + 0 ≤ _), (by decide : (((((((0 + 8) + 8) + 8) + 8) + 4) + 6) + 6) + 0 ≤ _)⟩)
    dsimp only [Pt.U, Pt.locs, Pt.cells, Pt.slots] at X59 l59 y59 z59 st59 hQ59
    rw [l59, y59, z59] at X59
    obtain ⟨rfl, Nq59, e59⟩ := hQ59
    have N59 := Fr.app N58 Nq59
    refine own_by st59 ?_
    show own_Go p e below s _ _ (T59.setTop (mkF m 138 #[.val (.long c0), .second, .val (.long c1), .second, .val (.long c2), .second, .val (.long c3), .second, .val (.int pp), .val (.int (2 : Int32)), .val (.long A0), .second, .val (.long A1), .second, .val (.long A2), .second, .val (.long A3), .second, .val (.ref o5), .val (.ref o6), .val (.ref o7), .val (.ref o8), .val (.ref b9), .unset, .unset, .unset] [(.int Q0)]))
    refine own_by (fun tz kz => XS.iload X59.here hx rfl (hb hby at_138) rfl  kz) ?_
    show own_Go p e below s _ _ (T59.setTop (mkF m 140 #[.val (.long c0), .second, .val (.long c1), .second, .val (.long c2), .second, .val (.long c3), .second, .val (.int pp), .val (.int (2 : Int32)), .val (.long A0), .second, .val (.long A1), .second, .val (.long A2), .second, .val (.long A3), .second, .val (.ref o5), .val (.ref o6), .val (.ref o7), .val (.ref o8), .val (.ref b9), .unset, .unset, .unset] [(.int (2 : Int32)), (.int Q0)]))
    refine own_by (fun tz kz => XS.iconst X59.here hx rfl (hb hby at_140) kz) ?_
    show own_Go p e below s _ _ (T59.setTop (mkF m 141 #[.val (.long c0), .second, .val (.long c1), .second, .val (.long c2), .second, .val (.long c3), .second, .val (.int pp), .val (.int (2 : Int32)), .val (.long A0), .second, .val (.long A1), .second, .val (.long A2), .second, .val (.long A3), .second, .val (.ref o5), .val (.ref o6), .val (.ref o7), .val (.ref o8), .val (.ref b9), .unset, .unset, .unset] [(.int (1 : Int32)), (.int (2 : Int32)), (.int Q0)]))
    refine own_by (fun tz kz => XS.icmpNo X59.here hx rfl (hb hby at_141) rfl (tlt (by decide : (1 : Int32) < (2 : Int32))).2.2.2 kz) ?_
    show own_Go p e below s _ _ (T59.setTop (mkF m 144 #[.val (.long c0), .second, .val (.long c1), .second, .val (.long c2), .second, .val (.long c3), .second, .val (.int pp), .val (.int (2 : Int32)), .val (.long A0), .second, .val (.long A1), .second, .val (.long A2), .second, .val (.long A3), .second, .val (.ref o5), .val (.ref o6), .val (.ref o7), .val (.ref o8), .val (.ref b9), .unset, .unset, .unset] [(.int Q0)]))
    refine own_by (fun tz kz => XS.iconst X59.here hx rfl (hb hby at_144) kz) ?_
    show own_Go p e below s _ _ (T59.setTop (mkF m 145 #[.val (.long c0), .second, .val (.long c1), .second, .val (.long c2), .second, .val (.long c3), .second, .val (.int pp), .val (.int (2 : Int32)), .val (.long A0), .second, .val (.long A1), .second, .val (.long A2), .second, .val (.long A3), .second, .val (.ref o5), .val (.ref o6), .val (.ref o7), .val (.ref o8), .val (.ref b9), .unset, .unset, .unset] [(.int (1 : Int32)), (.int Q0)]))
    refine own_by (fun tz kz => XS.goto X59.here hx rfl (pc0 := 145) (pc' := 149) rfl (hb hby at_145) (by decide) (by decide) kz) ?_
    show own_Go p e below s _ _ (T59.setTop (mkF m 149 #[.val (.long c0), .second, .val (.long c1), .second, .val (.long c2), .second, .val (.long c3), .second, .val (.int pp), .val (.int (2 : Int32)), .val (.long A0), .second, .val (.long A1), .second, .val (.long A2), .second, .val (.long A3), .second, .val (.ref o5), .val (.ref o6), .val (.ref o7), .val (.ref o8), .val (.ref b9), .unset, .unset, .unset] [(.int (1 : Int32)), (.int Q0)]))
    refine own_by (fun tz kz => XS.lload X59.here hx rfl (hb hby at_149) rfl kz) ?_
    show own_Go p e below s _ _ (T59.setTop (mkF m 151 #[.val (.long c0), .second, .val (.long c1), .second, .val (.long c2), .second, .val (.long c3), .second, .val (.int pp), .val (.int (2 : Int32)), .val (.long A0), .second, .val (.long A1), .second, .val (.long A2), .second, .val (.long A3), .second, .val (.ref o5), .val (.ref o6), .val (.ref o7), .val (.ref o8), .val (.ref b9), .unset, .unset, .unset] [(.long A1), (.int (1 : Int32)), (.int Q0)]))
    obtain ⟨_, _, ⟨T60, L60, k60, n60⟩, -, X60, ⟨Lc60, hQ60, l60, y60, z60⟩, st60⟩ := Jvm.LawKit.callS X59 hx (y := (⟨"com/example/liftwise/liftwise/eval/arithmetic/SidesIsOneSidedPinLaw", "positive", "(ZJ)I"⟩ : MethodName)) hown (mvT hZ (hw _ (List.mem_of_getElem? (i := 77) rfl))) (mvT hZ (hw _ (List.mem_of_getElem? (i := 78) rfl))) (mvT hZ (hw _ (List.mem_of_getElem? (i := 3) rfl))) (mvT hZ (hw _ (List.mem_of_getElem? (i := 79) rfl))) (by decide) (backOf (W := 1) (rm_ps l Z a0 hw [] (1 : Int32) A1 Q1 T58.heap n0 hQ1) hZ (hw _ (List.mem_of_getElem? (i := 79) rfl)) (hw _ (List.mem_of_getElem? (i := 3) rfl)) (by decide) (by decide)) (g := (mkF m 151 #[.val (.long c0), .second, .val (.long c1), .second, .val (.long c2), .second, .val (.long c3), .second, .val (.int pp), .val (.int (2 : Int32)), .val (.long A0), .second, .val (.long A1), .second, .val (.long A2), .second, .val (.long A3), .second, .val (.ref o5), .val (.ref o6), .val (.ref o7), .val (.ref o8), .val (.ref b9), .unset, .unset, .unset] [(.long A1), (.int (1 : Int32)), (.int Q0)])) rfl (by rw [hml]; rfl) (argsL := [(.int (1 : Int32)), (.long A1)]) (rest := [(.int Q0)]) (lenOf pd_9 rfl) rfl (by show 2 * 0 + _ ≤ _; exact Nat.le_of_eq rfl) (hb hby at_151) (fun _ _ => ⟨rfl, e59, (by decide : (((((((0 + 2) + 2) + 2) + 2) + 1) + 1) + 1) + 0 ≤ _), (by decide : (((((((0 + 8) + 8) + 8) + 8) + 4) + 6) + 6) + 0 ≤ _)⟩)
    dsimp only [Pt.U, Pt.locs, Pt.cells, Pt.slots] at X60 l60 y60 z60 st60 hQ60
    rw [l60, y60, z60] at X60
    obtain ⟨rfl, Nq60, e60⟩ := hQ60
    have N60 := Fr.app N59 Nq60
    refine own_by st60 ?_
    show own_Go p e below s _ _ (T60.setTop (mkF m 154 #[.val (.long c0), .second, .val (.long c1), .second, .val (.long c2), .second, .val (.long c3), .second, .val (.int pp), .val (.int (2 : Int32)), .val (.long A0), .second, .val (.long A1), .second, .val (.long A2), .second, .val (.long A3), .second, .val (.ref o5), .val (.ref o6), .val (.ref o7), .val (.ref o8), .val (.ref b9), .unset, .unset, .unset] [(.int Q1), (.int Q0)]))
    refine own_by (fun tz kz => XS.iadd X60.here hx rfl (hb hby at_154) rfl kz) ?_
    show own_Go p e below s _ _ (T60.setTop (mkF m 155 #[.val (.long c0), .second, .val (.long c1), .second, .val (.long c2), .second, .val (.long c3), .second, .val (.int pp), .val (.int (2 : Int32)), .val (.long A0), .second, .val (.long A1), .second, .val (.long A2), .second, .val (.long A3), .second, .val (.ref o5), .val (.ref o6), .val (.ref o7), .val (.ref o8), .val (.ref b9), .unset, .unset, .unset] [(.int (Q0 + Q1))]))
    refine own_by (fun tz kz => XS.iload X60.here hx rfl (hb hby at_155) rfl  kz) ?_
    show own_Go p e below s _ _ (T60.setTop (mkF m 157 #[.val (.long c0), .second, .val (.long c1), .second, .val (.long c2), .second, .val (.long c3), .second, .val (.int pp), .val (.int (2 : Int32)), .val (.long A0), .second, .val (.long A1), .second, .val (.long A2), .second, .val (.long A3), .second, .val (.ref o5), .val (.ref o6), .val (.ref o7), .val (.ref o8), .val (.ref b9), .unset, .unset, .unset] [(.int (2 : Int32)), (.int (Q0 + Q1))]))
    refine own_by (fun tz kz => XS.iconst X60.here hx rfl (hb hby at_157) kz) ?_
    show own_Go p e below s _ _ (T60.setTop (mkF m 158 #[.val (.long c0), .second, .val (.long c1), .second, .val (.long c2), .second, .val (.long c3), .second, .val (.int pp), .val (.int (2 : Int32)), .val (.long A0), .second, .val (.long A1), .second, .val (.long A2), .second, .val (.long A3), .second, .val (.ref o5), .val (.ref o6), .val (.ref o7), .val (.ref o8), .val (.ref b9), .unset, .unset, .unset] [(.int (2 : Int32)), (.int (2 : Int32)), (.int (Q0 + Q1))]))
    refine own_by (fun tz kz => XS.icmpYes X60.here hx rfl (pc0 := 158) (pc' := 165) rfl (hb hby at_158) rfl (flt (by decide : ¬ (2 : Int32) < (2 : Int32))).2.2.2 (by decide) (by decide) kz) ?_
    show own_Go p e below s _ _ (T60.setTop (mkF m 165 #[.val (.long c0), .second, .val (.long c1), .second, .val (.long c2), .second, .val (.long c3), .second, .val (.int pp), .val (.int (2 : Int32)), .val (.long A0), .second, .val (.long A1), .second, .val (.long A2), .second, .val (.long A3), .second, .val (.ref o5), .val (.ref o6), .val (.ref o7), .val (.ref o8), .val (.ref b9), .unset, .unset, .unset] [(.int (Q0 + Q1))]))
    refine own_by (fun tz kz => XS.iconst X60.here hx rfl (hb hby at_165) kz) ?_
    show own_Go p e below s _ _ (T60.setTop (mkF m 166 #[.val (.long c0), .second, .val (.long c1), .second, .val (.long c2), .second, .val (.long c3), .second, .val (.int pp), .val (.int (2 : Int32)), .val (.long A0), .second, .val (.long A1), .second, .val (.long A2), .second, .val (.long A3), .second, .val (.ref o5), .val (.ref o6), .val (.ref o7), .val (.ref o8), .val (.ref b9), .unset, .unset, .unset] [(.int (0 : Int32)), (.int (Q0 + Q1))]))
    refine own_by (fun tz kz => XS.lload X60.here hx rfl (hb hby at_166) rfl kz) ?_
    show own_Go p e below s _ _ (T60.setTop (mkF m 168 #[.val (.long c0), .second, .val (.long c1), .second, .val (.long c2), .second, .val (.long c3), .second, .val (.int pp), .val (.int (2 : Int32)), .val (.long A0), .second, .val (.long A1), .second, .val (.long A2), .second, .val (.long A3), .second, .val (.ref o5), .val (.ref o6), .val (.ref o7), .val (.ref o8), .val (.ref b9), .unset, .unset, .unset] [(.long A2), (.int (0 : Int32)), (.int (Q0 + Q1))]))
    obtain ⟨_, _, ⟨T61, L61, k61, n61⟩, -, X61, ⟨Lc61, hQ61, l61, y61, z61⟩, st61⟩ := Jvm.LawKit.callS X60 hx (y := (⟨"com/example/liftwise/liftwise/eval/arithmetic/SidesIsOneSidedPinLaw", "positive", "(ZJ)I"⟩ : MethodName)) hown (mvT hZ (hw _ (List.mem_of_getElem? (i := 77) rfl))) (mvT hZ (hw _ (List.mem_of_getElem? (i := 78) rfl))) (mvT hZ (hw _ (List.mem_of_getElem? (i := 3) rfl))) (mvT hZ (hw _ (List.mem_of_getElem? (i := 79) rfl))) (by decide) (backOf (W := 1) (rm_ps l Z a0 hw [] (0 : Int32) A2 (0 : Int32) T58.heap n0 rfl) hZ (hw _ (List.mem_of_getElem? (i := 79) rfl)) (hw _ (List.mem_of_getElem? (i := 3) rfl)) (by decide) (by decide)) (g := (mkF m 168 #[.val (.long c0), .second, .val (.long c1), .second, .val (.long c2), .second, .val (.long c3), .second, .val (.int pp), .val (.int (2 : Int32)), .val (.long A0), .second, .val (.long A1), .second, .val (.long A2), .second, .val (.long A3), .second, .val (.ref o5), .val (.ref o6), .val (.ref o7), .val (.ref o8), .val (.ref b9), .unset, .unset, .unset] [(.long A2), (.int (0 : Int32)), (.int (Q0 + Q1))])) rfl (by rw [hml]; rfl) (argsL := [(.int (0 : Int32)), (.long A2)]) (rest := [(.int (Q0 + Q1))]) (lenOf pd_9 rfl) rfl (by show 2 * 0 + _ ≤ _; exact Nat.le_of_eq rfl) (hb hby at_168) (fun _ _ => ⟨rfl, e60, (by decide : (((((((0 + 2) + 2) + 2) + 2) + 1) + 1) + 1) + 0 ≤ _), (by decide : (((((((0 + 8) + 8) + 8) + 8) + 4) + 6) + 6) + 0 ≤ _)⟩)
    dsimp only [Pt.U, Pt.locs, Pt.cells, Pt.slots] at X61 l61 y61 z61 st61 hQ61
    rw [l61, y61, z61] at X61
    obtain ⟨rfl, Nq61, e61⟩ := hQ61
    have N61 := Fr.app N60 Nq61
    refine own_by st61 ?_
    show own_Go p e below s _ _ (T61.setTop (mkF m 171 #[.val (.long c0), .second, .val (.long c1), .second, .val (.long c2), .second, .val (.long c3), .second, .val (.int pp), .val (.int (2 : Int32)), .val (.long A0), .second, .val (.long A1), .second, .val (.long A2), .second, .val (.long A3), .second, .val (.ref o5), .val (.ref o6), .val (.ref o7), .val (.ref o8), .val (.ref b9), .unset, .unset, .unset] [(.int (0 : Int32)), (.int (Q0 + Q1))]))
    refine own_by (fun tz kz => XS.iadd X61.here hx rfl (hb hby at_171) rfl kz) ?_
    show own_Go p e below s _ _ (T61.setTop (mkF m 172 #[.val (.long c0), .second, .val (.long c1), .second, .val (.long c2), .second, .val (.long c3), .second, .val (.int pp), .val (.int (2 : Int32)), .val (.long A0), .second, .val (.long A1), .second, .val (.long A2), .second, .val (.long A3), .second, .val (.ref o5), .val (.ref o6), .val (.ref o7), .val (.ref o8), .val (.ref b9), .unset, .unset, .unset] [(.int ((Q0 + Q1) + (0 : Int32)))]))
    refine own_by (fun tz kz => XS.iload X61.here hx rfl (hb hby at_172) rfl  kz) ?_
    show own_Go p e below s _ _ (T61.setTop (mkF m 174 #[.val (.long c0), .second, .val (.long c1), .second, .val (.long c2), .second, .val (.long c3), .second, .val (.int pp), .val (.int (2 : Int32)), .val (.long A0), .second, .val (.long A1), .second, .val (.long A2), .second, .val (.long A3), .second, .val (.ref o5), .val (.ref o6), .val (.ref o7), .val (.ref o8), .val (.ref b9), .unset, .unset, .unset] [(.int (2 : Int32)), (.int ((Q0 + Q1) + (0 : Int32)))]))
    refine own_by (fun tz kz => XS.iconst X61.here hx rfl (hb hby at_174) kz) ?_
    show own_Go p e below s _ _ (T61.setTop (mkF m 175 #[.val (.long c0), .second, .val (.long c1), .second, .val (.long c2), .second, .val (.long c3), .second, .val (.int pp), .val (.int (2 : Int32)), .val (.long A0), .second, .val (.long A1), .second, .val (.long A2), .second, .val (.long A3), .second, .val (.ref o5), .val (.ref o6), .val (.ref o7), .val (.ref o8), .val (.ref b9), .unset, .unset, .unset] [(.int (3 : Int32)), (.int (2 : Int32)), (.int ((Q0 + Q1) + (0 : Int32)))]))
    refine own_by (fun tz kz => XS.icmpYes X61.here hx rfl (pc0 := 175) (pc' := 182) rfl (hb hby at_175) rfl (flt (by decide : ¬ (3 : Int32) < (2 : Int32))).2.2.2 (by decide) (by decide) kz) ?_
    show own_Go p e below s _ _ (T61.setTop (mkF m 182 #[.val (.long c0), .second, .val (.long c1), .second, .val (.long c2), .second, .val (.long c3), .second, .val (.int pp), .val (.int (2 : Int32)), .val (.long A0), .second, .val (.long A1), .second, .val (.long A2), .second, .val (.long A3), .second, .val (.ref o5), .val (.ref o6), .val (.ref o7), .val (.ref o8), .val (.ref b9), .unset, .unset, .unset] [(.int ((Q0 + Q1) + (0 : Int32)))]))
    refine own_by (fun tz kz => XS.iconst X61.here hx rfl (hb hby at_182) kz) ?_
    show own_Go p e below s _ _ (T61.setTop (mkF m 183 #[.val (.long c0), .second, .val (.long c1), .second, .val (.long c2), .second, .val (.long c3), .second, .val (.int pp), .val (.int (2 : Int32)), .val (.long A0), .second, .val (.long A1), .second, .val (.long A2), .second, .val (.long A3), .second, .val (.ref o5), .val (.ref o6), .val (.ref o7), .val (.ref o8), .val (.ref b9), .unset, .unset, .unset] [(.int (0 : Int32)), (.int ((Q0 + Q1) + (0 : Int32)))]))
    refine own_by (fun tz kz => XS.lload X61.here hx rfl (hb hby at_183) rfl kz) ?_
    show own_Go p e below s _ _ (T61.setTop (mkF m 185 #[.val (.long c0), .second, .val (.long c1), .second, .val (.long c2), .second, .val (.long c3), .second, .val (.int pp), .val (.int (2 : Int32)), .val (.long A0), .second, .val (.long A1), .second, .val (.long A2), .second, .val (.long A3), .second, .val (.ref o5), .val (.ref o6), .val (.ref o7), .val (.ref o8), .val (.ref b9), .unset, .unset, .unset] [(.long A3), (.int (0 : Int32)), (.int ((Q0 + Q1) + (0 : Int32)))]))
    obtain ⟨_, _, ⟨T62, L62, k62, n62⟩, -, X62, ⟨Lc62, hQ62, l62, y62, z62⟩, st62⟩ := Jvm.LawKit.callS X61 hx (y := (⟨"com/example/liftwise/liftwise/eval/arithmetic/SidesIsOneSidedPinLaw", "positive", "(ZJ)I"⟩ : MethodName)) hown (mvT hZ (hw _ (List.mem_of_getElem? (i := 77) rfl))) (mvT hZ (hw _ (List.mem_of_getElem? (i := 78) rfl))) (mvT hZ (hw _ (List.mem_of_getElem? (i := 3) rfl))) (mvT hZ (hw _ (List.mem_of_getElem? (i := 79) rfl))) (by decide) (backOf (W := 1) (rm_ps l Z a0 hw [] (0 : Int32) A3 (0 : Int32) T58.heap n0 rfl) hZ (hw _ (List.mem_of_getElem? (i := 79) rfl)) (hw _ (List.mem_of_getElem? (i := 3) rfl)) (by decide) (by decide)) (g := (mkF m 185 #[.val (.long c0), .second, .val (.long c1), .second, .val (.long c2), .second, .val (.long c3), .second, .val (.int pp), .val (.int (2 : Int32)), .val (.long A0), .second, .val (.long A1), .second, .val (.long A2), .second, .val (.long A3), .second, .val (.ref o5), .val (.ref o6), .val (.ref o7), .val (.ref o8), .val (.ref b9), .unset, .unset, .unset] [(.long A3), (.int (0 : Int32)), (.int ((Q0 + Q1) + (0 : Int32)))])) rfl (by rw [hml]; rfl) (argsL := [(.int (0 : Int32)), (.long A3)]) (rest := [(.int ((Q0 + Q1) + (0 : Int32)))]) (lenOf pd_9 rfl) rfl (by show 2 * 0 + _ ≤ _; exact Nat.le_of_eq rfl) (hb hby at_185) (fun _ _ => ⟨rfl, e61, (by decide : (((((((0 + 2) + 2) + 2) + 2) + 1) + 1) + 1) + 0 ≤ _), (by decide : (((((((0 + 8) + 8) + 8) + 8) + 4) + 6) + 6) + 0 ≤ _)⟩)
    dsimp only [Pt.U, Pt.locs, Pt.cells, Pt.slots] at X62 l62 y62 z62 st62 hQ62
    rw [l62, y62, z62] at X62
    obtain ⟨rfl, Nq62, e62⟩ := hQ62
    have N62 := Fr.app N61 Nq62
    refine own_by st62 ?_
    show own_Go p e below s _ _ (T62.setTop (mkF m 188 #[.val (.long c0), .second, .val (.long c1), .second, .val (.long c2), .second, .val (.long c3), .second, .val (.int pp), .val (.int (2 : Int32)), .val (.long A0), .second, .val (.long A1), .second, .val (.long A2), .second, .val (.long A3), .second, .val (.ref o5), .val (.ref o6), .val (.ref o7), .val (.ref o8), .val (.ref b9), .unset, .unset, .unset] [(.int (0 : Int32)), (.int ((Q0 + Q1) + (0 : Int32)))]))
    refine own_by (fun tz kz => XS.iadd X62.here hx rfl (hb hby at_188) rfl kz) ?_
    show own_Go p e below s _ _ (T62.setTop (mkF m 189 #[.val (.long c0), .second, .val (.long c1), .second, .val (.long c2), .second, .val (.long c3), .second, .val (.int pp), .val (.int (2 : Int32)), .val (.long A0), .second, .val (.long A1), .second, .val (.long A2), .second, .val (.long A3), .second, .val (.ref o5), .val (.ref o6), .val (.ref o7), .val (.ref o8), .val (.ref b9), .unset, .unset, .unset] [(.int (((Q0 + Q1) + (0 : Int32)) + (0 : Int32)))]))
    refine own_by (fun tz kz => XS.istore X62.here hx rfl (hb hby at_189) rfl (l' := #[.val (.long c0), .second, .val (.long c1), .second, .val (.long c2), .second, .val (.long c3), .second, .val (.int pp), .val (.int (2 : Int32)), .val (.long A0), .second, .val (.long A1), .second, .val (.long A2), .second, .val (.long A3), .second, .val (.ref o5), .val (.ref o6), .val (.ref o7), .val (.ref o8), .val (.ref b9), .val (.int (((Q0 + Q1) + (0 : Int32)) + (0 : Int32))), .unset, .unset]) rfl kz) ?_
    show own_Go p e below s _ _ (T62.setTop (mkF m 191 #[.val (.long c0), .second, .val (.long c1), .second, .val (.long c2), .second, .val (.long c3), .second, .val (.int pp), .val (.int (2 : Int32)), .val (.long A0), .second, .val (.long A1), .second, .val (.long A2), .second, .val (.long A3), .second, .val (.ref o5), .val (.ref o6), .val (.ref o7), .val (.ref o8), .val (.ref b9), .val (.int (((Q0 + Q1) + (0 : Int32)) + (0 : Int32))), .unset, .unset] []))
    refine own_by (fun tz kz => XS.iload X62.here hx rfl (hb hby at_191) rfl  kz) ?_
    show own_Go p e below s _ _ (T62.setTop (mkF m 193 #[.val (.long c0), .second, .val (.long c1), .second, .val (.long c2), .second, .val (.long c3), .second, .val (.int pp), .val (.int (2 : Int32)), .val (.long A0), .second, .val (.long A1), .second, .val (.long A2), .second, .val (.long A3), .second, .val (.ref o5), .val (.ref o6), .val (.ref o7), .val (.ref o8), .val (.ref b9), .val (.int (((Q0 + Q1) + (0 : Int32)) + (0 : Int32))), .unset, .unset] [(.int (2 : Int32))]))
    refine own_by (fun tz kz => XS.iload X62.here hx rfl (hb hby at_193) rfl  kz) ?_
    show own_Go p e below s _ _ (T62.setTop (mkF m 195 #[.val (.long c0), .second, .val (.long c1), .second, .val (.long c2), .second, .val (.long c3), .second, .val (.int pp), .val (.int (2 : Int32)), .val (.long A0), .second, .val (.long A1), .second, .val (.long A2), .second, .val (.long A3), .second, .val (.ref o5), .val (.ref o6), .val (.ref o7), .val (.ref o8), .val (.ref b9), .val (.int (((Q0 + Q1) + (0 : Int32)) + (0 : Int32))), .unset, .unset] [(.int (((Q0 + Q1) + (0 : Int32)) + (0 : Int32))), (.int (2 : Int32))]))
    refine own_by (fun tz kz => XS.isub X62.here hx rfl (hb hby at_195) rfl kz) ?_
    show own_Go p e below s _ _ (T62.setTop (mkF m 196 #[.val (.long c0), .second, .val (.long c1), .second, .val (.long c2), .second, .val (.long c3), .second, .val (.int pp), .val (.int (2 : Int32)), .val (.long A0), .second, .val (.long A1), .second, .val (.long A2), .second, .val (.long A3), .second, .val (.ref o5), .val (.ref o6), .val (.ref o7), .val (.ref o8), .val (.ref b9), .val (.int (((Q0 + Q1) + (0 : Int32)) + (0 : Int32))), .unset, .unset] [(.int ((2 : Int32) - (((Q0 + Q1) + (0 : Int32)) + (0 : Int32))))]))
    refine own_by (fun tz kz => XS.istore X62.here hx rfl (hb hby at_196) rfl (l' := #[.val (.long c0), .second, .val (.long c1), .second, .val (.long c2), .second, .val (.long c3), .second, .val (.int pp), .val (.int (2 : Int32)), .val (.long A0), .second, .val (.long A1), .second, .val (.long A2), .second, .val (.long A3), .second, .val (.ref o5), .val (.ref o6), .val (.ref o7), .val (.ref o8), .val (.ref b9), .val (.int (((Q0 + Q1) + (0 : Int32)) + (0 : Int32))), .val (.int ((2 : Int32) - (((Q0 + Q1) + (0 : Int32)) + (0 : Int32)))), .unset]) rfl kz) ?_
    show own_Go p e below s _ _ (T62.setTop (mkF m 198 #[.val (.long c0), .second, .val (.long c1), .second, .val (.long c2), .second, .val (.long c3), .second, .val (.int pp), .val (.int (2 : Int32)), .val (.long A0), .second, .val (.long A1), .second, .val (.long A2), .second, .val (.long A3), .second, .val (.ref o5), .val (.ref o6), .val (.ref o7), .val (.ref o8), .val (.ref b9), .val (.int (((Q0 + Q1) + (0 : Int32)) + (0 : Int32))), .val (.int ((2 : Int32) - (((Q0 + Q1) + (0 : Int32)) + (0 : Int32)))), .unset] []))
    refine own_by (fun tz kz => XS.iload X62.here hx rfl (hb hby at_198) rfl  kz) ?_
    show own_Go p e below s _ _ (T62.setTop (mkF m 200 #[.val (.long c0), .second, .val (.long c1), .second, .val (.long c2), .second, .val (.long c3), .second, .val (.int pp), .val (.int (2 : Int32)), .val (.long A0), .second, .val (.long A1), .second, .val (.long A2), .second, .val (.long A3), .second, .val (.ref o5), .val (.ref o6), .val (.ref o7), .val (.ref o8), .val (.ref b9), .val (.int (((Q0 + Q1) + (0 : Int32)) + (0 : Int32))), .val (.int ((2 : Int32) - (((Q0 + Q1) + (0 : Int32)) + (0 : Int32)))), .unset] [(.int (((Q0 + Q1) + (0 : Int32)) + (0 : Int32)))]))
    by_cases hc200_63 : (((Q0 + Q1) + (0 : Int32)) + (0 : Int32)) = (0 : Int32)
    · refine own_by (fun tz kz => XS.ifYes X62.here hx rfl (pc0 := 200) (pc' := 208) rfl (hb hby at_200) rfl ((if0 _ _).trans (teq hc200_63).1) (by decide) (by decide) kz) ?_
      show own_Go p e below s _ _ (T62.setTop (mkF m 208 #[.val (.long c0), .second, .val (.long c1), .second, .val (.long c2), .second, .val (.long c3), .second, .val (.int pp), .val (.int (2 : Int32)), .val (.long A0), .second, .val (.long A1), .second, .val (.long A2), .second, .val (.long A3), .second, .val (.ref o5), .val (.ref o6), .val (.ref o7), .val (.ref o8), .val (.ref b9), .val (.int (((Q0 + Q1) + (0 : Int32)) + (0 : Int32))), .val (.int ((2 : Int32) - (((Q0 + Q1) + (0 : Int32)) + (0 : Int32)))), .unset] []))
      refine own_by (fun tz kz => XS.iconst X62.here hx rfl (hb hby at_208) kz) ?_
      show own_Go p e below s _ _ (T62.setTop (mkF m 209 #[.val (.long c0), .second, .val (.long c1), .second, .val (.long c2), .second, .val (.long c3), .second, .val (.int pp), .val (.int (2 : Int32)), .val (.long A0), .second, .val (.long A1), .second, .val (.long A2), .second, .val (.long A3), .second, .val (.ref o5), .val (.ref o6), .val (.ref o7), .val (.ref o8), .val (.ref b9), .val (.int (((Q0 + Q1) + (0 : Int32)) + (0 : Int32))), .val (.int ((2 : Int32) - (((Q0 + Q1) + (0 : Int32)) + (0 : Int32)))), .unset] [(.int (1 : Int32))]))
      refine own_by (fun tz kz => XS.goto X62.here hx rfl (pc0 := 209) (pc' := 213) rfl (hb hby at_209) (by decide) (by decide) kz) ?_
      show own_Go p e below s _ _ (T62.setTop (mkF m 213 #[.val (.long c0), .second, .val (.long c1), .second, .val (.long c2), .second, .val (.long c3), .second, .val (.int pp), .val (.int (2 : Int32)), .val (.long A0), .second, .val (.long A1), .second, .val (.long A2), .second, .val (.long A3), .second, .val (.ref o5), .val (.ref o6), .val (.ref o7), .val (.ref o8), .val (.ref b9), .val (.int (((Q0 + Q1) + (0 : Int32)) + (0 : Int32))), .val (.int ((2 : Int32) - (((Q0 + Q1) + (0 : Int32)) + (0 : Int32)))), .unset] [(.int (1 : Int32))]))
      refine own_by (fun tz kz => XS.istore X62.here hx rfl (hb hby at_213) rfl (l' := #[.val (.long c0), .second, .val (.long c1), .second, .val (.long c2), .second, .val (.long c3), .second, .val (.int pp), .val (.int (2 : Int32)), .val (.long A0), .second, .val (.long A1), .second, .val (.long A2), .second, .val (.long A3), .second, .val (.ref o5), .val (.ref o6), .val (.ref o7), .val (.ref o8), .val (.ref b9), .val (.int (((Q0 + Q1) + (0 : Int32)) + (0 : Int32))), .val (.int ((2 : Int32) - (((Q0 + Q1) + (0 : Int32)) + (0 : Int32)))), .val (.int (1 : Int32))]) rfl kz) ?_
      show own_Go p e below s _ _ (T62.setTop (mkF m 215 #[.val (.long c0), .second, .val (.long c1), .second, .val (.long c2), .second, .val (.long c3), .second, .val (.int pp), .val (.int (2 : Int32)), .val (.long A0), .second, .val (.long A1), .second, .val (.long A2), .second, .val (.long A3), .second, .val (.ref o5), .val (.ref o6), .val (.ref o7), .val (.ref o8), .val (.ref b9), .val (.int (((Q0 + Q1) + (0 : Int32)) + (0 : Int32))), .val (.int ((2 : Int32) - (((Q0 + Q1) + (0 : Int32)) + (0 : Int32)))), .val (.int (1 : Int32))] []))
      refine own_by (fun tz kz => XS.aload X62.here hx rfl (hb hby at_215) rfl rfl kz) ?_
      show own_Go p e below s _ _ (T62.setTop (mkF m 217 #[.val (.long c0), .second, .val (.long c1), .second, .val (.long c2), .second, .val (.long c3), .second, .val (.int pp), .val (.int (2 : Int32)), .val (.long A0), .second, .val (.long A1), .second, .val (.long A2), .second, .val (.long A3), .second, .val (.ref o5), .val (.ref o6), .val (.ref o7), .val (.ref o8), .val (.ref b9), .val (.int (((Q0 + Q1) + (0 : Int32)) + (0 : Int32))), .val (.int ((2 : Int32) - (((Q0 + Q1) + (0 : Int32)) + (0 : Int32)))), .val (.int (1 : Int32))] [(.ref b9)]))
      have f64 := (f57.keep Kq58)
      obtain ⟨cq65, kq65, q65a, q65b, q65c⟩ := isOf hZ e62 f64
      obtain ⟨_, _, ⟨T65, L65, k65, n65⟩, -, X65, ⟨Lc65, hQ65, l65, y65, z65⟩, st65⟩ := X62.virtualBack hx (y := (⟨"com/example/liftwise/liftwise/eval/arithmetic/Solver$Sides", "isOneSided", "()Z"⟩ : MethodName)) (z := (⟨"com/example/liftwise/liftwise/eval/arithmetic/Solver$Sides", "isOneSided", "()Z"⟩ : MethodName)) hown (mvT hZ (hw _ (List.mem_of_getElem? (i := 80) rfl))) (mvT hZ (hw _ (List.mem_of_getElem? (i := 81) rfl))) (notFace_of_selects (args := #[]) (mvT hZ (hw _ (List.mem_of_getElem? (i := 83) rfl)))) (mvT hZ (hw _ (List.mem_of_getElem? (i := 83) rfl))) (mvT hZ (hw _ (List.mem_of_getElem? (i := 82) rfl))) (by decide) (backOf (W := 0) (rm_one l Z a0 hw [] b9 (own_up A1 (own_up A0 (0 : Int32))) (own_dn A1 (own_dn A0 (0 : Int32))) (1 : Int32) T58.heap n0 Fa58 Fb58 (if_pos (Or.inl ((own_rel2 A0 A1 A2 A3 hQ0 hQ1).1.mpr hc200_63))).symm) hZ (hw _ (List.mem_of_getElem? (i := 84) rfl)) (hw _ (List.mem_of_getElem? (i := 34) rfl)) (by decide) (by decide)) q65a q65c (g := (mkF m 217 #[.val (.long c0), .second, .val (.long c1), .second, .val (.long c2), .second, .val (.long c3), .second, .val (.int pp), .val (.int (2 : Int32)), .val (.long A0), .second, .val (.long A1), .second, .val (.long A2), .second, .val (.long A3), .second, .val (.ref o5), .val (.ref o6), .val (.ref o7), .val (.ref o8), .val (.ref b9), .val (.int (((Q0 + Q1) + (0 : Int32)) + (0 : Int32))), .val (.int ((2 : Int32) - (((Q0 + Q1) + (0 : Int32)) + (0 : Int32)))), .val (.int (1 : Int32))] [(.ref b9)])) rfl (by rw [hml]; rfl) (Steps.refl _) (argsL := []) (rest := []) (lenOf pd_10 rfl) rfl (by show 2 * 0 + _ ≤ _; exact Nat.le_of_eq rfl) (hb hby at_217) (fun _ _ => ⟨rfl, e62, (by decide : (((((((0 + 2) + 2) + 2) + 2) + 1) + 1) + 1) + 0 ≤ _), (by decide : (((((((0 + 8) + 8) + 8) + 8) + 4) + 6) + 6) + 0 ≤ _)⟩)
      dsimp only [Pt.U, Pt.locs, Pt.cells, Pt.slots] at X65 l65 y65 z65 st65 hQ65
      rw [l65, y65, z65] at X65
      obtain ⟨rfl, Nq65, e65⟩ := hQ65
      have N65 := Fr.app N62 Nq65
      refine own_via st65 ?_
      show own_Go p e below s _ _ (T65.setTop (mkF m 220 #[.val (.long c0), .second, .val (.long c1), .second, .val (.long c2), .second, .val (.long c3), .second, .val (.int pp), .val (.int (2 : Int32)), .val (.long A0), .second, .val (.long A1), .second, .val (.long A2), .second, .val (.long A3), .second, .val (.ref o5), .val (.ref o6), .val (.ref o7), .val (.ref o8), .val (.ref b9), .val (.int (((Q0 + Q1) + (0 : Int32)) + (0 : Int32))), .val (.int ((2 : Int32) - (((Q0 + Q1) + (0 : Int32)) + (0 : Int32)))), .val (.int (1 : Int32))] [(.int (1 : Int32))]))
      refine own_by (fun tz kz => XS.iload X65.here hx rfl (hb hby at_220) rfl  kz) ?_
      show own_Go p e below s _ _ (T65.setTop (mkF m 222 #[.val (.long c0), .second, .val (.long c1), .second, .val (.long c2), .second, .val (.long c3), .second, .val (.int pp), .val (.int (2 : Int32)), .val (.long A0), .second, .val (.long A1), .second, .val (.long A2), .second, .val (.long A3), .second, .val (.ref o5), .val (.ref o6), .val (.ref o7), .val (.ref o8), .val (.ref b9), .val (.int (((Q0 + Q1) + (0 : Int32)) + (0 : Int32))), .val (.int ((2 : Int32) - (((Q0 + Q1) + (0 : Int32)) + (0 : Int32)))), .val (.int (1 : Int32))] [(.int (1 : Int32)), (.int (1 : Int32))]))
      refine own_by (fun tz kz => XS.icmpNo X65.here hx rfl (hb hby at_222) rfl (teq (by decide : (1 : Int32) = (1 : Int32))).2 kz) ?_
      show own_Go p e below s _ _ (T65.setTop (mkF m 225 #[.val (.long c0), .second, .val (.long c1), .second, .val (.long c2), .second, .val (.long c3), .second, .val (.int pp), .val (.int (2 : Int32)), .val (.long A0), .second, .val (.long A1), .second, .val (.long A2), .second, .val (.long A3), .second, .val (.ref o5), .val (.ref o6), .val (.ref o7), .val (.ref o8), .val (.ref b9), .val (.int (((Q0 + Q1) + (0 : Int32)) + (0 : Int32))), .val (.int ((2 : Int32) - (((Q0 + Q1) + (0 : Int32)) + (0 : Int32)))), .val (.int (1 : Int32))] []))
      refine own_by (fun tz kz => XS.iconst X65.here hx rfl (hb hby at_225) kz) ?_
      show own_Go p e below s _ _ (T65.setTop (mkF m 226 #[.val (.long c0), .second, .val (.long c1), .second, .val (.long c2), .second, .val (.long c3), .second, .val (.int pp), .val (.int (2 : Int32)), .val (.long A0), .second, .val (.long A1), .second, .val (.long A2), .second, .val (.long A3), .second, .val (.ref o5), .val (.ref o6), .val (.ref o7), .val (.ref o8), .val (.ref b9), .val (.int (((Q0 + Q1) + (0 : Int32)) + (0 : Int32))), .val (.int ((2 : Int32) - (((Q0 + Q1) + (0 : Int32)) + (0 : Int32)))), .val (.int (1 : Int32))] [(.int (1 : Int32))]))
      refine own_by (fun tz kz => XS.goto X65.here hx rfl (pc0 := 226) (pc' := 230) rfl (hb hby at_226) (by decide) (by decide) kz) ?_
      show own_Go p e below s _ _ (T65.setTop (mkF m 230 #[.val (.long c0), .second, .val (.long c1), .second, .val (.long c2), .second, .val (.long c3), .second, .val (.int pp), .val (.int (2 : Int32)), .val (.long A0), .second, .val (.long A1), .second, .val (.long A2), .second, .val (.long A3), .second, .val (.ref o5), .val (.ref o6), .val (.ref o7), .val (.ref o8), .val (.ref b9), .val (.int (((Q0 + Q1) + (0 : Int32)) + (0 : Int32))), .val (.int ((2 : Int32) - (((Q0 + Q1) + (0 : Int32)) + (0 : Int32)))), .val (.int (1 : Int32))] [(.int (1 : Int32))]))
      refine own_retI X65 hx hlk (t := .boolean) hret (by simp) rfl (hb hby at_230) ?_ (by decide) (by decide)
      exact ⟨rfl, N65⟩
    · refine own_by (fun tz kz => XS.ifNo X62.here hx rfl (hb hby at_200) rfl ((if0 _ _).trans (feq hc200_63).1) kz) ?_
      show own_Go p e below s _ _ (T62.setTop (mkF m 203 #[.val (.long c0), .second, .val (.long c1), .second, .val (.long c2), .second, .val (.long c3), .second, .val (.int pp), .val (.int (2 : Int32)), .val (.long A0), .second, .val (.long A1), .second, .val (.long A2), .second, .val (.long A3), .second, .val (.ref o5), .val (.ref o6), .val (.ref o7), .val (.ref o8), .val (.ref b9), .val (.int (((Q0 + Q1) + (0 : Int32)) + (0 : Int32))), .val (.int ((2 : Int32) - (((Q0 + Q1) + (0 : Int32)) + (0 : Int32)))), .unset] []))
      refine own_by (fun tz kz => XS.iload X62.here hx rfl (hb hby at_203) rfl  kz) ?_
      show own_Go p e below s _ _ (T62.setTop (mkF m 205 #[.val (.long c0), .second, .val (.long c1), .second, .val (.long c2), .second, .val (.long c3), .second, .val (.int pp), .val (.int (2 : Int32)), .val (.long A0), .second, .val (.long A1), .second, .val (.long A2), .second, .val (.long A3), .second, .val (.ref o5), .val (.ref o6), .val (.ref o7), .val (.ref o8), .val (.ref b9), .val (.int (((Q0 + Q1) + (0 : Int32)) + (0 : Int32))), .val (.int ((2 : Int32) - (((Q0 + Q1) + (0 : Int32)) + (0 : Int32)))), .unset] [(.int ((2 : Int32) - (((Q0 + Q1) + (0 : Int32)) + (0 : Int32))))]))
      by_cases hc205_66 : ((2 : Int32) - (((Q0 + Q1) + (0 : Int32)) + (0 : Int32))) = (0 : Int32)
      · refine own_by (fun tz kz => XS.ifNo X62.here hx rfl (hb hby at_205) rfl ((if0 _ _).trans (teq hc205_66).2) kz) ?_
        show own_Go p e below s _ _ (T62.setTop (mkF m 208 #[.val (.long c0), .second, .val (.long c1), .second, .val (.long c2), .second, .val (.long c3), .second, .val (.int pp), .val (.int (2 : Int32)), .val (.long A0), .second, .val (.long A1), .second, .val (.long A2), .second, .val (.long A3), .second, .val (.ref o5), .val (.ref o6), .val (.ref o7), .val (.ref o8), .val (.ref b9), .val (.int (((Q0 + Q1) + (0 : Int32)) + (0 : Int32))), .val (.int ((2 : Int32) - (((Q0 + Q1) + (0 : Int32)) + (0 : Int32)))), .unset] []))
        refine own_by (fun tz kz => XS.iconst X62.here hx rfl (hb hby at_208) kz) ?_
        show own_Go p e below s _ _ (T62.setTop (mkF m 209 #[.val (.long c0), .second, .val (.long c1), .second, .val (.long c2), .second, .val (.long c3), .second, .val (.int pp), .val (.int (2 : Int32)), .val (.long A0), .second, .val (.long A1), .second, .val (.long A2), .second, .val (.long A3), .second, .val (.ref o5), .val (.ref o6), .val (.ref o7), .val (.ref o8), .val (.ref b9), .val (.int (((Q0 + Q1) + (0 : Int32)) + (0 : Int32))), .val (.int ((2 : Int32) - (((Q0 + Q1) + (0 : Int32)) + (0 : Int32)))), .unset] [(.int (1 : Int32))]))
        refine own_by (fun tz kz => XS.goto X62.here hx rfl (pc0 := 209) (pc' := 213) rfl (hb hby at_209) (by decide) (by decide) kz) ?_
        show own_Go p e below s _ _ (T62.setTop (mkF m 213 #[.val (.long c0), .second, .val (.long c1), .second, .val (.long c2), .second, .val (.long c3), .second, .val (.int pp), .val (.int (2 : Int32)), .val (.long A0), .second, .val (.long A1), .second, .val (.long A2), .second, .val (.long A3), .second, .val (.ref o5), .val (.ref o6), .val (.ref o7), .val (.ref o8), .val (.ref b9), .val (.int (((Q0 + Q1) + (0 : Int32)) + (0 : Int32))), .val (.int ((2 : Int32) - (((Q0 + Q1) + (0 : Int32)) + (0 : Int32)))), .unset] [(.int (1 : Int32))]))
        refine own_by (fun tz kz => XS.istore X62.here hx rfl (hb hby at_213) rfl (l' := #[.val (.long c0), .second, .val (.long c1), .second, .val (.long c2), .second, .val (.long c3), .second, .val (.int pp), .val (.int (2 : Int32)), .val (.long A0), .second, .val (.long A1), .second, .val (.long A2), .second, .val (.long A3), .second, .val (.ref o5), .val (.ref o6), .val (.ref o7), .val (.ref o8), .val (.ref b9), .val (.int (((Q0 + Q1) + (0 : Int32)) + (0 : Int32))), .val (.int ((2 : Int32) - (((Q0 + Q1) + (0 : Int32)) + (0 : Int32)))), .val (.int (1 : Int32))]) rfl kz) ?_
        show own_Go p e below s _ _ (T62.setTop (mkF m 215 #[.val (.long c0), .second, .val (.long c1), .second, .val (.long c2), .second, .val (.long c3), .second, .val (.int pp), .val (.int (2 : Int32)), .val (.long A0), .second, .val (.long A1), .second, .val (.long A2), .second, .val (.long A3), .second, .val (.ref o5), .val (.ref o6), .val (.ref o7), .val (.ref o8), .val (.ref b9), .val (.int (((Q0 + Q1) + (0 : Int32)) + (0 : Int32))), .val (.int ((2 : Int32) - (((Q0 + Q1) + (0 : Int32)) + (0 : Int32)))), .val (.int (1 : Int32))] []))
        refine own_by (fun tz kz => XS.aload X62.here hx rfl (hb hby at_215) rfl rfl kz) ?_
        show own_Go p e below s _ _ (T62.setTop (mkF m 217 #[.val (.long c0), .second, .val (.long c1), .second, .val (.long c2), .second, .val (.long c3), .second, .val (.int pp), .val (.int (2 : Int32)), .val (.long A0), .second, .val (.long A1), .second, .val (.long A2), .second, .val (.long A3), .second, .val (.ref o5), .val (.ref o6), .val (.ref o7), .val (.ref o8), .val (.ref b9), .val (.int (((Q0 + Q1) + (0 : Int32)) + (0 : Int32))), .val (.int ((2 : Int32) - (((Q0 + Q1) + (0 : Int32)) + (0 : Int32)))), .val (.int (1 : Int32))] [(.ref b9)]))
        have f67 := (f57.keep Kq58)
        obtain ⟨cq68, kq68, q68a, q68b, q68c⟩ := isOf hZ e62 f67
        obtain ⟨_, _, ⟨T68, L68, k68, n68⟩, -, X68, ⟨Lc68, hQ68, l68, y68, z68⟩, st68⟩ := X62.virtualBack hx (y := (⟨"com/example/liftwise/liftwise/eval/arithmetic/Solver$Sides", "isOneSided", "()Z"⟩ : MethodName)) (z := (⟨"com/example/liftwise/liftwise/eval/arithmetic/Solver$Sides", "isOneSided", "()Z"⟩ : MethodName)) hown (mvT hZ (hw _ (List.mem_of_getElem? (i := 80) rfl))) (mvT hZ (hw _ (List.mem_of_getElem? (i := 81) rfl))) (notFace_of_selects (args := #[]) (mvT hZ (hw _ (List.mem_of_getElem? (i := 83) rfl)))) (mvT hZ (hw _ (List.mem_of_getElem? (i := 83) rfl))) (mvT hZ (hw _ (List.mem_of_getElem? (i := 82) rfl))) (by decide) (backOf (W := 0) (rm_one l Z a0 hw [] b9 (own_up A1 (own_up A0 (0 : Int32))) (own_dn A1 (own_dn A0 (0 : Int32))) (1 : Int32) T58.heap n0 Fa58 Fb58 (if_pos (Or.inr ((own_rel2 A0 A1 A2 A3 hQ0 hQ1).2.mpr hc205_66))).symm) hZ (hw _ (List.mem_of_getElem? (i := 84) rfl)) (hw _ (List.mem_of_getElem? (i := 34) rfl)) (by decide) (by decide)) q68a q68c (g := (mkF m 217 #[.val (.long c0), .second, .val (.long c1), .second, .val (.long c2), .second, .val (.long c3), .second, .val (.int pp), .val (.int (2 : Int32)), .val (.long A0), .second, .val (.long A1), .second, .val (.long A2), .second, .val (.long A3), .second, .val (.ref o5), .val (.ref o6), .val (.ref o7), .val (.ref o8), .val (.ref b9), .val (.int (((Q0 + Q1) + (0 : Int32)) + (0 : Int32))), .val (.int ((2 : Int32) - (((Q0 + Q1) + (0 : Int32)) + (0 : Int32)))), .val (.int (1 : Int32))] [(.ref b9)])) rfl (by rw [hml]; rfl) (Steps.refl _) (argsL := []) (rest := []) (lenOf pd_10 rfl) rfl (by show 2 * 0 + _ ≤ _; exact Nat.le_of_eq rfl) (hb hby at_217) (fun _ _ => ⟨rfl, e62, (by decide : (((((((0 + 2) + 2) + 2) + 2) + 1) + 1) + 1) + 0 ≤ _), (by decide : (((((((0 + 8) + 8) + 8) + 8) + 4) + 6) + 6) + 0 ≤ _)⟩)
        dsimp only [Pt.U, Pt.locs, Pt.cells, Pt.slots] at X68 l68 y68 z68 st68 hQ68
        rw [l68, y68, z68] at X68
        obtain ⟨rfl, Nq68, e68⟩ := hQ68
        have N68 := Fr.app N62 Nq68
        refine own_via st68 ?_
        show own_Go p e below s _ _ (T68.setTop (mkF m 220 #[.val (.long c0), .second, .val (.long c1), .second, .val (.long c2), .second, .val (.long c3), .second, .val (.int pp), .val (.int (2 : Int32)), .val (.long A0), .second, .val (.long A1), .second, .val (.long A2), .second, .val (.long A3), .second, .val (.ref o5), .val (.ref o6), .val (.ref o7), .val (.ref o8), .val (.ref b9), .val (.int (((Q0 + Q1) + (0 : Int32)) + (0 : Int32))), .val (.int ((2 : Int32) - (((Q0 + Q1) + (0 : Int32)) + (0 : Int32)))), .val (.int (1 : Int32))] [(.int (1 : Int32))]))
        refine own_by (fun tz kz => XS.iload X68.here hx rfl (hb hby at_220) rfl  kz) ?_
        show own_Go p e below s _ _ (T68.setTop (mkF m 222 #[.val (.long c0), .second, .val (.long c1), .second, .val (.long c2), .second, .val (.long c3), .second, .val (.int pp), .val (.int (2 : Int32)), .val (.long A0), .second, .val (.long A1), .second, .val (.long A2), .second, .val (.long A3), .second, .val (.ref o5), .val (.ref o6), .val (.ref o7), .val (.ref o8), .val (.ref b9), .val (.int (((Q0 + Q1) + (0 : Int32)) + (0 : Int32))), .val (.int ((2 : Int32) - (((Q0 + Q1) + (0 : Int32)) + (0 : Int32)))), .val (.int (1 : Int32))] [(.int (1 : Int32)), (.int (1 : Int32))]))
        refine own_by (fun tz kz => XS.icmpNo X68.here hx rfl (hb hby at_222) rfl (teq (by decide : (1 : Int32) = (1 : Int32))).2 kz) ?_
        show own_Go p e below s _ _ (T68.setTop (mkF m 225 #[.val (.long c0), .second, .val (.long c1), .second, .val (.long c2), .second, .val (.long c3), .second, .val (.int pp), .val (.int (2 : Int32)), .val (.long A0), .second, .val (.long A1), .second, .val (.long A2), .second, .val (.long A3), .second, .val (.ref o5), .val (.ref o6), .val (.ref o7), .val (.ref o8), .val (.ref b9), .val (.int (((Q0 + Q1) + (0 : Int32)) + (0 : Int32))), .val (.int ((2 : Int32) - (((Q0 + Q1) + (0 : Int32)) + (0 : Int32)))), .val (.int (1 : Int32))] []))
        refine own_by (fun tz kz => XS.iconst X68.here hx rfl (hb hby at_225) kz) ?_
        show own_Go p e below s _ _ (T68.setTop (mkF m 226 #[.val (.long c0), .second, .val (.long c1), .second, .val (.long c2), .second, .val (.long c3), .second, .val (.int pp), .val (.int (2 : Int32)), .val (.long A0), .second, .val (.long A1), .second, .val (.long A2), .second, .val (.long A3), .second, .val (.ref o5), .val (.ref o6), .val (.ref o7), .val (.ref o8), .val (.ref b9), .val (.int (((Q0 + Q1) + (0 : Int32)) + (0 : Int32))), .val (.int ((2 : Int32) - (((Q0 + Q1) + (0 : Int32)) + (0 : Int32)))), .val (.int (1 : Int32))] [(.int (1 : Int32))]))
        refine own_by (fun tz kz => XS.goto X68.here hx rfl (pc0 := 226) (pc' := 230) rfl (hb hby at_226) (by decide) (by decide) kz) ?_
        show own_Go p e below s _ _ (T68.setTop (mkF m 230 #[.val (.long c0), .second, .val (.long c1), .second, .val (.long c2), .second, .val (.long c3), .second, .val (.int pp), .val (.int (2 : Int32)), .val (.long A0), .second, .val (.long A1), .second, .val (.long A2), .second, .val (.long A3), .second, .val (.ref o5), .val (.ref o6), .val (.ref o7), .val (.ref o8), .val (.ref b9), .val (.int (((Q0 + Q1) + (0 : Int32)) + (0 : Int32))), .val (.int ((2 : Int32) - (((Q0 + Q1) + (0 : Int32)) + (0 : Int32)))), .val (.int (1 : Int32))] [(.int (1 : Int32))]))
        refine own_retI X68 hx hlk (t := .boolean) hret (by simp) rfl (hb hby at_230) ?_ (by decide) (by decide)
        exact ⟨rfl, N68⟩
      · refine own_by (fun tz kz => XS.ifYes X62.here hx rfl (pc0 := 205) (pc' := 212) rfl (hb hby at_205) rfl ((if0 _ _).trans (feq hc205_66).2) (by decide) (by decide) kz) ?_
        show own_Go p e below s _ _ (T62.setTop (mkF m 212 #[.val (.long c0), .second, .val (.long c1), .second, .val (.long c2), .second, .val (.long c3), .second, .val (.int pp), .val (.int (2 : Int32)), .val (.long A0), .second, .val (.long A1), .second, .val (.long A2), .second, .val (.long A3), .second, .val (.ref o5), .val (.ref o6), .val (.ref o7), .val (.ref o8), .val (.ref b9), .val (.int (((Q0 + Q1) + (0 : Int32)) + (0 : Int32))), .val (.int ((2 : Int32) - (((Q0 + Q1) + (0 : Int32)) + (0 : Int32)))), .unset] []))
        refine own_by (fun tz kz => XS.iconst X62.here hx rfl (hb hby at_212) kz) ?_
        show own_Go p e below s _ _ (T62.setTop (mkF m 213 #[.val (.long c0), .second, .val (.long c1), .second, .val (.long c2), .second, .val (.long c3), .second, .val (.int pp), .val (.int (2 : Int32)), .val (.long A0), .second, .val (.long A1), .second, .val (.long A2), .second, .val (.long A3), .second, .val (.ref o5), .val (.ref o6), .val (.ref o7), .val (.ref o8), .val (.ref b9), .val (.int (((Q0 + Q1) + (0 : Int32)) + (0 : Int32))), .val (.int ((2 : Int32) - (((Q0 + Q1) + (0 : Int32)) + (0 : Int32)))), .unset] [(.int (0 : Int32))]))
        refine own_by (fun tz kz => XS.istore X62.here hx rfl (hb hby at_213) rfl (l' := #[.val (.long c0), .second, .val (.long c1), .second, .val (.long c2), .second, .val (.long c3), .second, .val (.int pp), .val (.int (2 : Int32)), .val (.long A0), .second, .val (.long A1), .second, .val (.long A2), .second, .val (.long A3), .second, .val (.ref o5), .val (.ref o6), .val (.ref o7), .val (.ref o8), .val (.ref b9), .val (.int (((Q0 + Q1) + (0 : Int32)) + (0 : Int32))), .val (.int ((2 : Int32) - (((Q0 + Q1) + (0 : Int32)) + (0 : Int32)))), .val (.int (0 : Int32))]) rfl kz) ?_
        show own_Go p e below s _ _ (T62.setTop (mkF m 215 #[.val (.long c0), .second, .val (.long c1), .second, .val (.long c2), .second, .val (.long c3), .second, .val (.int pp), .val (.int (2 : Int32)), .val (.long A0), .second, .val (.long A1), .second, .val (.long A2), .second, .val (.long A3), .second, .val (.ref o5), .val (.ref o6), .val (.ref o7), .val (.ref o8), .val (.ref b9), .val (.int (((Q0 + Q1) + (0 : Int32)) + (0 : Int32))), .val (.int ((2 : Int32) - (((Q0 + Q1) + (0 : Int32)) + (0 : Int32)))), .val (.int (0 : Int32))] []))
        refine own_by (fun tz kz => XS.aload X62.here hx rfl (hb hby at_215) rfl rfl kz) ?_
        show own_Go p e below s _ _ (T62.setTop (mkF m 217 #[.val (.long c0), .second, .val (.long c1), .second, .val (.long c2), .second, .val (.long c3), .second, .val (.int pp), .val (.int (2 : Int32)), .val (.long A0), .second, .val (.long A1), .second, .val (.long A2), .second, .val (.long A3), .second, .val (.ref o5), .val (.ref o6), .val (.ref o7), .val (.ref o8), .val (.ref b9), .val (.int (((Q0 + Q1) + (0 : Int32)) + (0 : Int32))), .val (.int ((2 : Int32) - (((Q0 + Q1) + (0 : Int32)) + (0 : Int32)))), .val (.int (0 : Int32))] [(.ref b9)]))
        have f69 := (f57.keep Kq58)
        obtain ⟨cq70, kq70, q70a, q70b, q70c⟩ := isOf hZ e62 f69
        obtain ⟨_, _, ⟨T70, L70, k70, n70⟩, -, X70, ⟨Lc70, hQ70, l70, y70, z70⟩, st70⟩ := X62.virtualBack hx (y := (⟨"com/example/liftwise/liftwise/eval/arithmetic/Solver$Sides", "isOneSided", "()Z"⟩ : MethodName)) (z := (⟨"com/example/liftwise/liftwise/eval/arithmetic/Solver$Sides", "isOneSided", "()Z"⟩ : MethodName)) hown (mvT hZ (hw _ (List.mem_of_getElem? (i := 80) rfl))) (mvT hZ (hw _ (List.mem_of_getElem? (i := 81) rfl))) (notFace_of_selects (args := #[]) (mvT hZ (hw _ (List.mem_of_getElem? (i := 83) rfl)))) (mvT hZ (hw _ (List.mem_of_getElem? (i := 83) rfl))) (mvT hZ (hw _ (List.mem_of_getElem? (i := 82) rfl))) (by decide) (backOf (W := 0) (rm_one l Z a0 hw [] b9 (own_up A1 (own_up A0 (0 : Int32))) (own_dn A1 (own_dn A0 (0 : Int32))) (0 : Int32) T58.heap n0 Fa58 Fb58 (if_neg (fun q => q.elim (fun q => hc200_63 ((own_rel2 A0 A1 A2 A3 hQ0 hQ1).1.mp q)) (fun q => hc205_66 ((own_rel2 A0 A1 A2 A3 hQ0 hQ1).2.mp q)))).symm) hZ (hw _ (List.mem_of_getElem? (i := 84) rfl)) (hw _ (List.mem_of_getElem? (i := 34) rfl)) (by decide) (by decide)) q70a q70c (g := (mkF m 217 #[.val (.long c0), .second, .val (.long c1), .second, .val (.long c2), .second, .val (.long c3), .second, .val (.int pp), .val (.int (2 : Int32)), .val (.long A0), .second, .val (.long A1), .second, .val (.long A2), .second, .val (.long A3), .second, .val (.ref o5), .val (.ref o6), .val (.ref o7), .val (.ref o8), .val (.ref b9), .val (.int (((Q0 + Q1) + (0 : Int32)) + (0 : Int32))), .val (.int ((2 : Int32) - (((Q0 + Q1) + (0 : Int32)) + (0 : Int32)))), .val (.int (0 : Int32))] [(.ref b9)])) rfl (by rw [hml]; rfl) (Steps.refl _) (argsL := []) (rest := []) (lenOf pd_10 rfl) rfl (by show 2 * 0 + _ ≤ _; exact Nat.le_of_eq rfl) (hb hby at_217) (fun _ _ => ⟨rfl, e62, (by decide : (((((((0 + 2) + 2) + 2) + 2) + 1) + 1) + 1) + 0 ≤ _), (by decide : (((((((0 + 8) + 8) + 8) + 8) + 4) + 6) + 6) + 0 ≤ _)⟩)
        dsimp only [Pt.U, Pt.locs, Pt.cells, Pt.slots] at X70 l70 y70 z70 st70 hQ70
        rw [l70, y70, z70] at X70
        obtain ⟨rfl, Nq70, e70⟩ := hQ70
        have N70 := Fr.app N62 Nq70
        refine own_via st70 ?_
        show own_Go p e below s _ _ (T70.setTop (mkF m 220 #[.val (.long c0), .second, .val (.long c1), .second, .val (.long c2), .second, .val (.long c3), .second, .val (.int pp), .val (.int (2 : Int32)), .val (.long A0), .second, .val (.long A1), .second, .val (.long A2), .second, .val (.long A3), .second, .val (.ref o5), .val (.ref o6), .val (.ref o7), .val (.ref o8), .val (.ref b9), .val (.int (((Q0 + Q1) + (0 : Int32)) + (0 : Int32))), .val (.int ((2 : Int32) - (((Q0 + Q1) + (0 : Int32)) + (0 : Int32)))), .val (.int (0 : Int32))] [(.int (0 : Int32))]))
        refine own_by (fun tz kz => XS.iload X70.here hx rfl (hb hby at_220) rfl  kz) ?_
        show own_Go p e below s _ _ (T70.setTop (mkF m 222 #[.val (.long c0), .second, .val (.long c1), .second, .val (.long c2), .second, .val (.long c3), .second, .val (.int pp), .val (.int (2 : Int32)), .val (.long A0), .second, .val (.long A1), .second, .val (.long A2), .second, .val (.long A3), .second, .val (.ref o5), .val (.ref o6), .val (.ref o7), .val (.ref o8), .val (.ref b9), .val (.int (((Q0 + Q1) + (0 : Int32)) + (0 : Int32))), .val (.int ((2 : Int32) - (((Q0 + Q1) + (0 : Int32)) + (0 : Int32)))), .val (.int (0 : Int32))] [(.int (0 : Int32)), (.int (0 : Int32))]))
        refine own_by (fun tz kz => XS.icmpNo X70.here hx rfl (hb hby at_222) rfl (teq (by decide : (0 : Int32) = (0 : Int32))).2 kz) ?_
        show own_Go p e below s _ _ (T70.setTop (mkF m 225 #[.val (.long c0), .second, .val (.long c1), .second, .val (.long c2), .second, .val (.long c3), .second, .val (.int pp), .val (.int (2 : Int32)), .val (.long A0), .second, .val (.long A1), .second, .val (.long A2), .second, .val (.long A3), .second, .val (.ref o5), .val (.ref o6), .val (.ref o7), .val (.ref o8), .val (.ref b9), .val (.int (((Q0 + Q1) + (0 : Int32)) + (0 : Int32))), .val (.int ((2 : Int32) - (((Q0 + Q1) + (0 : Int32)) + (0 : Int32)))), .val (.int (0 : Int32))] []))
        refine own_by (fun tz kz => XS.iconst X70.here hx rfl (hb hby at_225) kz) ?_
        show own_Go p e below s _ _ (T70.setTop (mkF m 226 #[.val (.long c0), .second, .val (.long c1), .second, .val (.long c2), .second, .val (.long c3), .second, .val (.int pp), .val (.int (2 : Int32)), .val (.long A0), .second, .val (.long A1), .second, .val (.long A2), .second, .val (.long A3), .second, .val (.ref o5), .val (.ref o6), .val (.ref o7), .val (.ref o8), .val (.ref b9), .val (.int (((Q0 + Q1) + (0 : Int32)) + (0 : Int32))), .val (.int ((2 : Int32) - (((Q0 + Q1) + (0 : Int32)) + (0 : Int32)))), .val (.int (0 : Int32))] [(.int (1 : Int32))]))
        refine own_by (fun tz kz => XS.goto X70.here hx rfl (pc0 := 226) (pc' := 230) rfl (hb hby at_226) (by decide) (by decide) kz) ?_
        show own_Go p e below s _ _ (T70.setTop (mkF m 230 #[.val (.long c0), .second, .val (.long c1), .second, .val (.long c2), .second, .val (.long c3), .second, .val (.int pp), .val (.int (2 : Int32)), .val (.long A0), .second, .val (.long A1), .second, .val (.long A2), .second, .val (.long A3), .second, .val (.ref o5), .val (.ref o6), .val (.ref o7), .val (.ref o8), .val (.ref b9), .val (.int (((Q0 + Q1) + (0 : Int32)) + (0 : Int32))), .val (.int ((2 : Int32) - (((Q0 + Q1) + (0 : Int32)) + (0 : Int32)))), .val (.int (0 : Int32))] [(.int (1 : Int32))]))
        refine own_retI X70 hx hlk (t := .boolean) hret (by simp) rfl (hb hby at_230) ?_ (by decide) (by decide)
        exact ⟨rfl, N70⟩
  · show own_Go p e below s _ _ (T16.setTop (mkF m 72 #[.val (.long c0), .second, .val (.long c1), .second, .val (.long c2), .second, .val (.long c3), .second, .val (.int pp), .val (.int (3 : Int32)), .val (.long A0), .second, .val (.long A1), .second, .val (.long A2), .second, .val (.long A3), .second, .val (.ref o5), .val (.ref o6), .val (.ref o7), .val (.ref o8), .val (.ref b9), .unset, .unset, .unset] []))
    refine own_by (fun tz kz => XS.iload X16.here hx rfl (hb hby at_72) rfl  kz) ?_
    show own_Go p e below s _ _ (T16.setTop (mkF m 74 #[.val (.long c0), .second, .val (.long c1), .second, .val (.long c2), .second, .val (.long c3), .second, .val (.int pp), .val (.int (3 : Int32)), .val (.long A0), .second, .val (.long A1), .second, .val (.long A2), .second, .val (.long A3), .second, .val (.ref o5), .val (.ref o6), .val (.ref o7), .val (.ref o8), .val (.ref b9), .unset, .unset, .unset] [(.int (3 : Int32))]))
    refine own_by (fun tz kz => XS.ifNo X16.here hx rfl (hb hby at_74) rfl ((if0 _ _).trans (tlt (by decide : (0 : Int32) < (3 : Int32))).2.2.2) kz) ?_
    show own_Go p e below s _ _ (T16.setTop (mkF m 77 #[.val (.long c0), .second, .val (.long c1), .second, .val (.long c2), .second, .val (.long c3), .second, .val (.int pp), .val (.int (3 : Int32)), .val (.long A0), .second, .val (.long A1), .second, .val (.long A2), .second, .val (.long A3), .second, .val (.ref o5), .val (.ref o6), .val (.ref o7), .val (.ref o8), .val (.ref b9), .unset, .unset, .unset] []))
    refine own_by (fun tz kz => XS.aload X16.here hx rfl (hb hby at_77) rfl rfl kz) ?_
    show own_Go p e below s _ _ (T16.setTop (mkF m 79 #[.val (.long c0), .second, .val (.long c1), .second, .val (.long c2), .second, .val (.long c3), .second, .val (.int pp), .val (.int (3 : Int32)), .val (.long A0), .second, .val (.long A1), .second, .val (.long A2), .second, .val (.long A3), .second, .val (.ref o5), .val (.ref o6), .val (.ref o7), .val (.ref o8), .val (.ref b9), .unset, .unset, .unset] [(.ref b9)]))
    refine own_by (fun tz kz => XS.aload X16.here hx rfl (hb hby at_79) rfl rfl kz) ?_
    show own_Go p e below s _ _ (T16.setTop (mkF m 81 #[.val (.long c0), .second, .val (.long c1), .second, .val (.long c2), .second, .val (.long c3), .second, .val (.int pp), .val (.int (3 : Int32)), .val (.long A0), .second, .val (.long A1), .second, .val (.long A2), .second, .val (.long A3), .second, .val (.ref o5), .val (.ref o6), .val (.ref o7), .val (.ref o8), .val (.ref b9), .unset, .unset, .unset] [(.ref o5), (.ref b9)]))
    have f71 := ((f10.ext E9).keep Kq16)
    have f72 := (((((Eb5.keep Kq6 nin0).keep Kq7 nin0).keep Kq8 nin0).ext E9).keep Kq16 (ninS ne_o5_b9 nin0))
    have f73 := (((((Ec5.keep Kq6 nin0).keep Kq7 nin0).keep Kq8 nin0).ext E9).keep Kq16 (ninS ne_o5_b9 nin0))
    have f74 := ((Arv.ext f11 E9).keep Kq16 (ninS ne_m5_b9 nin0))
    have f75 := (A9.keep Kq16)
    obtain ⟨cq76, kq76, q76a, q76b, q76c⟩ := isOf hZ e16 f75
    obtain ⟨_, _, ⟨T76, L76, k76, n76⟩, -, X76, ⟨Lc76, hQ76, l76, y76, z76⟩, st76⟩ := X16.virtualBack hx (y := (⟨"com/example/liftwise/liftwise/eval/arithmetic/Solver$Sides", "add", "(Ljava/math/BigInteger;)V"⟩ : MethodName)) (z := (⟨"com/example/liftwise/liftwise/eval/arithmetic/Solver$Sides", "add", "(Ljava/math/BigInteger;)V"⟩ : MethodName)) hown (mvT hZ (hw _ (List.mem_of_getElem? (i := 43) rfl))) (mvT hZ (hw _ (List.mem_of_getElem? (i := 44) rfl))) (notFace_of_selects (args := #[]) (mvT hZ (hw _ (List.mem_of_getElem? (i := 46) rfl)))) (mvT hZ (hw _ (List.mem_of_getElem? (i := 46) rfl))) (mvT hZ (hw _ (List.mem_of_getElem? (i := 45) rfl))) (by decide) (backOf (W := 0) (rm_add l Z a0 hw [] b9 o5 one om ko (own_sg A0) (own_un A0) (0 : Int32) (0 : Int32) (1 : Int32) (1 : Int32) (own_up A0 (0 : Int32)) (own_dn A0 (0 : Int32)) (own_lu A0 (1 : Int32)) (own_uu A0 (1 : Int32)) T16.heap n0 O16 S_ONE E_one Fs_one Fm_one V_one f75 Fa16 Fb16 Fc16 Fd16 g_b9 ⟨m5, kk5, nn5, vv5, f71, f72, f73, f74, Ee5⟩ (own_sg_or _) (own_un_or _) (Or.inr rfl) (Or.inr rfl) rfl rfl rfl rfl) hZ (hw _ (List.mem_of_getElem? (i := 47) rfl)) (hw _ (List.mem_of_getElem? (i := 34) rfl)) (by decide) (by decide)) q76a q76c (g := (mkF m 81 #[.val (.long c0), .second, .val (.long c1), .second, .val (.long c2), .second, .val (.long c3), .second, .val (.int pp), .val (.int (3 : Int32)), .val (.long A0), .second, .val (.long A1), .second, .val (.long A2), .second, .val (.long A3), .second, .val (.ref o5), .val (.ref o6), .val (.ref o7), .val (.ref o8), .val (.ref b9), .unset, .unset, .unset] [(.ref o5), (.ref b9)])) rfl (by rw [hml]; rfl) (Steps.refl _) (argsL := [(.ref o5)]) (rest := []) (lenOf pd_4 rfl) rfl (by show 2 * 0 + _ ≤ _; exact Nat.le_of_eq rfl) (hb hby at_81) (fun _ _ => ⟨rfl, e16, (by decide : (((((0 + 2) + 2) + 2) + 2) + 1) + 1 ≤ _), (by decide : (((((0 + 8) + 8) + 8) + 8) + 4) + 6 ≤ _)⟩)
    dsimp only [Pt.U, Pt.locs, Pt.cells, Pt.slots] at X76 l76 y76 z76 st76 hQ76
    rw [l76, y76, z76] at X76
    obtain ⟨rfl, Nq76, Kq76, Fa76, Fb76, Fc76, Fd76⟩ := hQ76
    have N76 := Fr.app N16 Nq76
    have e76 : T76.heap = T76.heap := rfl
    refine own_via st76 ?_
    have O76 := O16.keep Kq76 (allS g_b9 all0)
    have K76 := K16.trans Kq76 (allS (Or.inr sz_b9) all0)
    show own_Go p e below s _ _ (T76.setTop (mkF m 84 #[.val (.long c0), .second, .val (.long c1), .second, .val (.long c2), .second, .val (.long c3), .second, .val (.int pp), .val (.int (3 : Int32)), .val (.long A0), .second, .val (.long A1), .second, .val (.long A2), .second, .val (.long A3), .second, .val (.ref o5), .val (.ref o6), .val (.ref o7), .val (.ref o8), .val (.ref b9), .unset, .unset, .unset] []))
    refine own_by (fun tz kz => XS.iload X76.here hx rfl (hb hby at_84) rfl  kz) ?_
    show own_Go p e below s _ _ (T76.setTop (mkF m 86 #[.val (.long c0), .second, .val (.long c1), .second, .val (.long c2), .second, .val (.long c3), .second, .val (.int pp), .val (.int (3 : Int32)), .val (.long A0), .second, .val (.long A1), .second, .val (.long A2), .second, .val (.long A3), .second, .val (.ref o5), .val (.ref o6), .val (.ref o7), .val (.ref o8), .val (.ref b9), .unset, .unset, .unset] [(.int (3 : Int32))]))
    refine own_by (fun tz kz => XS.iconst X76.here hx rfl (hb hby at_86) kz) ?_
    show own_Go p e below s _ _ (T76.setTop (mkF m 87 #[.val (.long c0), .second, .val (.long c1), .second, .val (.long c2), .second, .val (.long c3), .second, .val (.int pp), .val (.int (3 : Int32)), .val (.long A0), .second, .val (.long A1), .second, .val (.long A2), .second, .val (.long A3), .second, .val (.ref o5), .val (.ref o6), .val (.ref o7), .val (.ref o8), .val (.ref b9), .unset, .unset, .unset] [(.int (1 : Int32)), (.int (3 : Int32))]))
    refine own_by (fun tz kz => XS.icmpNo X76.here hx rfl (hb hby at_87) rfl (tlt (by decide : (1 : Int32) < (3 : Int32))).2.2.2 kz) ?_
    show own_Go p e below s _ _ (T76.setTop (mkF m 90 #[.val (.long c0), .second, .val (.long c1), .second, .val (.long c2), .second, .val (.long c3), .second, .val (.int pp), .val (.int (3 : Int32)), .val (.long A0), .second, .val (.long A1), .second, .val (.long A2), .second, .val (.long A3), .second, .val (.ref o5), .val (.ref o6), .val (.ref o7), .val (.ref o8), .val (.ref b9), .unset, .unset, .unset] []))
    refine own_by (fun tz kz => XS.aload X76.here hx rfl (hb hby at_90) rfl rfl kz) ?_
    show own_Go p e below s _ _ (T76.setTop (mkF m 92 #[.val (.long c0), .second, .val (.long c1), .second, .val (.long c2), .second, .val (.long c3), .second, .val (.int pp), .val (.int (3 : Int32)), .val (.long A0), .second, .val (.long A1), .second, .val (.long A2), .second, .val (.long A3), .second, .val (.ref o5), .val (.ref o6), .val (.ref o7), .val (.ref o8), .val (.ref b9), .unset, .unset, .unset] [(.ref b9)]))
    refine own_by (fun tz kz => XS.aload X76.here hx rfl (hb hby at_92) rfl rfl kz) ?_
    show own_Go p e below s _ _ (T76.setTop (mkF m 94 #[.val (.long c0), .second, .val (.long c1), .second, .val (.long c2), .second, .val (.long c3), .second, .val (.int pp), .val (.int (3 : Int32)), .val (.long A0), .second, .val (.long A1), .second, .val (.long A2), .second, .val (.long A3), .second, .val (.ref o5), .val (.ref o6), .val (.ref o7), .val (.ref o8), .val (.ref b9), .unset, .unset, .unset] [(.ref o6), (.ref b9)]))
    have f77 := (((f12.ext E9).keep Kq16).keep Kq76)
    have f78 := (((((Eb6.keep Kq7 nin0).keep Kq8 nin0).ext E9).keep Kq16 (ninS ne_o6_b9 nin0)).keep Kq76 (ninS ne_o6_b9 nin0))
    have f79 := (((((Ec6.keep Kq7 nin0).keep Kq8 nin0).ext E9).keep Kq16 (ninS ne_o6_b9 nin0)).keep Kq76 (ninS ne_o6_b9 nin0))
    have f80 := (((Arv.ext f13 E9).keep Kq16 (ninS ne_m6_b9 nin0)).keep Kq76 (ninS ne_m6_b9 nin0))
    have f81 := (f75.keep Kq76)
    obtain ⟨cq82, kq82, q82a, q82b, q82c⟩ := isOf hZ e76 f81
    obtain ⟨_, _, ⟨T82, L82, k82, n82⟩, -, X82, ⟨Lc82, hQ82, l82, y82, z82⟩, st82⟩ := X76.virtualBack hx (y := (⟨"com/example/liftwise/liftwise/eval/arithmetic/Solver$Sides", "add", "(Ljava/math/BigInteger;)V"⟩ : MethodName)) (z := (⟨"com/example/liftwise/liftwise/eval/arithmetic/Solver$Sides", "add", "(Ljava/math/BigInteger;)V"⟩ : MethodName)) hown (mvT hZ (hw _ (List.mem_of_getElem? (i := 43) rfl))) (mvT hZ (hw _ (List.mem_of_getElem? (i := 44) rfl))) (notFace_of_selects (args := #[]) (mvT hZ (hw _ (List.mem_of_getElem? (i := 46) rfl)))) (mvT hZ (hw _ (List.mem_of_getElem? (i := 46) rfl))) (mvT hZ (hw _ (List.mem_of_getElem? (i := 45) rfl))) (by decide) (backOf (W := 0) (rm_add l Z a0 hw [] b9 o6 one om ko (own_sg A1) (own_un A1) (own_up A0 (0 : Int32)) (own_dn A0 (0 : Int32)) (own_lu A0 (1 : Int32)) (own_uu A0 (1 : Int32)) (own_up A1 (own_up A0 (0 : Int32))) (own_dn A1 (own_dn A0 (0 : Int32))) (own_lu A1 (own_lu A0 (1 : Int32))) (own_uu A1 (own_uu A0 (1 : Int32))) T76.heap n0 O76 S_ONE E_one Fs_one Fm_one V_one f81 Fa76 Fb76 Fc76 Fd76 g_b9 ⟨m6, kk6, nn6, vv6, f77, f78, f79, f80, Ee6⟩ (own_sg_or _) (own_un_or _) (own_lu_or A0 (Or.inr rfl)) (own_uu_or A0 (Or.inr rfl)) rfl rfl rfl rfl) hZ (hw _ (List.mem_of_getElem? (i := 47) rfl)) (hw _ (List.mem_of_getElem? (i := 34) rfl)) (by decide) (by decide)) q82a q82c (g := (mkF m 94 #[.val (.long c0), .second, .val (.long c1), .second, .val (.long c2), .second, .val (.long c3), .second, .val (.int pp), .val (.int (3 : Int32)), .val (.long A0), .second, .val (.long A1), .second, .val (.long A2), .second, .val (.long A3), .second, .val (.ref o5), .val (.ref o6), .val (.ref o7), .val (.ref o8), .val (.ref b9), .unset, .unset, .unset] [(.ref o6), (.ref b9)])) rfl (by rw [hml]; rfl) (Steps.refl _) (argsL := [(.ref o6)]) (rest := []) (lenOf pd_4 rfl) rfl (by show 2 * 0 + _ ≤ _; exact Nat.le_of_eq rfl) (hb hby at_94) (fun _ _ => ⟨rfl, e76, (by decide : ((((((0 + 2) + 2) + 2) + 2) + 1) + 1) + 1 ≤ _), (by decide : ((((((0 + 8) + 8) + 8) + 8) + 4) + 6) + 6 ≤ _)⟩)
    dsimp only [Pt.U, Pt.locs, Pt.cells, Pt.slots] at X82 l82 y82 z82 st82 hQ82
    rw [l82, y82, z82] at X82
    obtain ⟨rfl, Nq82, Kq82, Fa82, Fb82, Fc82, Fd82⟩ := hQ82
    have N82 := Fr.app N76 Nq82
    have e82 : T82.heap = T82.heap := rfl
    refine own_via st82 ?_
    have O82 := O76.keep Kq82 (allS g_b9 all0)
    have K82 := K76.trans Kq82 (allS (Or.inr sz_b9) all0)
    show own_Go p e below s _ _ (T82.setTop (mkF m 97 #[.val (.long c0), .second, .val (.long c1), .second, .val (.long c2), .second, .val (.long c3), .second, .val (.int pp), .val (.int (3 : Int32)), .val (.long A0), .second, .val (.long A1), .second, .val (.long A2), .second, .val (.long A3), .second, .val (.ref o5), .val (.ref o6), .val (.ref o7), .val (.ref o8), .val (.ref b9), .unset, .unset, .unset] []))
    refine own_by (fun tz kz => XS.iload X82.here hx rfl (hb hby at_97) rfl  kz) ?_
    show own_Go p e below s _ _ (T82.setTop (mkF m 99 #[.val (.long c0), .second, .val (.long c1), .second, .val (.long c2), .second, .val (.long c3), .second, .val (.int pp), .val (.int (3 : Int32)), .val (.long A0), .second, .val (.long A1), .second, .val (.long A2), .second, .val (.long A3), .second, .val (.ref o5), .val (.ref o6), .val (.ref o7), .val (.ref o8), .val (.ref b9), .unset, .unset, .unset] [(.int (3 : Int32))]))
    refine own_by (fun tz kz => XS.iconst X82.here hx rfl (hb hby at_99) kz) ?_
    show own_Go p e below s _ _ (T82.setTop (mkF m 100 #[.val (.long c0), .second, .val (.long c1), .second, .val (.long c2), .second, .val (.long c3), .second, .val (.int pp), .val (.int (3 : Int32)), .val (.long A0), .second, .val (.long A1), .second, .val (.long A2), .second, .val (.long A3), .second, .val (.ref o5), .val (.ref o6), .val (.ref o7), .val (.ref o8), .val (.ref b9), .unset, .unset, .unset] [(.int (2 : Int32)), (.int (3 : Int32))]))
    refine own_by (fun tz kz => XS.icmpNo X82.here hx rfl (hb hby at_100) rfl (tlt (by decide : (2 : Int32) < (3 : Int32))).2.2.2 kz) ?_
    show own_Go p e below s _ _ (T82.setTop (mkF m 103 #[.val (.long c0), .second, .val (.long c1), .second, .val (.long c2), .second, .val (.long c3), .second, .val (.int pp), .val (.int (3 : Int32)), .val (.long A0), .second, .val (.long A1), .second, .val (.long A2), .second, .val (.long A3), .second, .val (.ref o5), .val (.ref o6), .val (.ref o7), .val (.ref o8), .val (.ref b9), .unset, .unset, .unset] []))
    refine own_by (fun tz kz => XS.aload X82.here hx rfl (hb hby at_103) rfl rfl kz) ?_
    show own_Go p e below s _ _ (T82.setTop (mkF m 105 #[.val (.long c0), .second, .val (.long c1), .second, .val (.long c2), .second, .val (.long c3), .second, .val (.int pp), .val (.int (3 : Int32)), .val (.long A0), .second, .val (.long A1), .second, .val (.long A2), .second, .val (.long A3), .second, .val (.ref o5), .val (.ref o6), .val (.ref o7), .val (.ref o8), .val (.ref b9), .unset, .unset, .unset] [(.ref b9)]))
    refine own_by (fun tz kz => XS.aload X82.here hx rfl (hb hby at_105) rfl rfl kz) ?_
    show own_Go p e below s _ _ (T82.setTop (mkF m 107 #[.val (.long c0), .second, .val (.long c1), .second, .val (.long c2), .second, .val (.long c3), .second, .val (.int pp), .val (.int (3 : Int32)), .val (.long A0), .second, .val (.long A1), .second, .val (.long A2), .second, .val (.long A3), .second, .val (.ref o5), .val (.ref o6), .val (.ref o7), .val (.ref o8), .val (.ref b9), .unset, .unset, .unset] [(.ref o7), (.ref b9)]))
    have f83 := ((((f14.ext E9).keep Kq16).keep Kq76).keep Kq82)
    have f84 := (((((Eb7.keep Kq8 nin0).ext E9).keep Kq16 (ninS ne_o7_b9 nin0)).keep Kq76 (ninS ne_o7_b9 nin0)).keep Kq82 (ninS ne_o7_b9 nin0))
    have f85 := (((((Ec7.keep Kq8 nin0).ext E9).keep Kq16 (ninS ne_o7_b9 nin0)).keep Kq76 (ninS ne_o7_b9 nin0)).keep Kq82 (ninS ne_o7_b9 nin0))
    have f86 := ((((Arv.ext f15 E9).keep Kq16 (ninS ne_m7_b9 nin0)).keep Kq76 (ninS ne_m7_b9 nin0)).keep Kq82 (ninS ne_m7_b9 nin0))
    have f87 := (f81.keep Kq82)
    obtain ⟨cq88, kq88, q88a, q88b, q88c⟩ := isOf hZ e82 f87
    obtain ⟨_, _, ⟨T88, L88, k88, n88⟩, -, X88, ⟨Lc88, hQ88, l88, y88, z88⟩, st88⟩ := X82.virtualBack hx (y := (⟨"com/example/liftwise/liftwise/eval/arithmetic/Solver$Sides", "add", "(Ljava/math/BigInteger;)V"⟩ : MethodName)) (z := (⟨"com/example/liftwise/liftwise/eval/arithmetic/Solver$Sides", "add", "(Ljava/math/BigInteger;)V"⟩ : MethodName)) hown (mvT hZ (hw _ (List.mem_of_getElem? (i := 43) rfl))) (mvT hZ (hw _ (List.mem_of_getElem? (i := 44) rfl))) (notFace_of_selects (args := #[]) (mvT hZ (hw _ (List.mem_of_getElem? (i := 46) rfl)))) (mvT hZ (hw _ (List.mem_of_getElem? (i := 46) rfl))) (mvT hZ (hw _ (List.mem_of_getElem? (i := 45) rfl))) (by decide) (backOf (W := 0) (rm_add l Z a0 hw [] b9 o7 one om ko (own_sg A2) (own_un A2) (own_up A1 (own_up A0 (0 : Int32))) (own_dn A1 (own_dn A0 (0 : Int32))) (own_lu A1 (own_lu A0 (1 : Int32))) (own_uu A1 (own_uu A0 (1 : Int32))) (own_up A2 (own_up A1 (own_up A0 (0 : Int32)))) (own_dn A2 (own_dn A1 (own_dn A0 (0 : Int32)))) (own_lu A2 (own_lu A1 (own_lu A0 (1 : Int32)))) (own_uu A2 (own_uu A1 (own_uu A0 (1 : Int32)))) T82.heap n0 O82 S_ONE E_one Fs_one Fm_one V_one f87 Fa82 Fb82 Fc82 Fd82 g_b9 ⟨m7, kk7, nn7, vv7, f83, f84, f85, f86, Ee7⟩ (own_sg_or _) (own_un_or _) (own_lu_or A1 (own_lu_or A0 (Or.inr rfl))) (own_uu_or A1 (own_uu_or A0 (Or.inr rfl))) rfl rfl rfl rfl) hZ (hw _ (List.mem_of_getElem? (i := 47) rfl)) (hw _ (List.mem_of_getElem? (i := 34) rfl)) (by decide) (by decide)) q88a q88c (g := (mkF m 107 #[.val (.long c0), .second, .val (.long c1), .second, .val (.long c2), .second, .val (.long c3), .second, .val (.int pp), .val (.int (3 : Int32)), .val (.long A0), .second, .val (.long A1), .second, .val (.long A2), .second, .val (.long A3), .second, .val (.ref o5), .val (.ref o6), .val (.ref o7), .val (.ref o8), .val (.ref b9), .unset, .unset, .unset] [(.ref o7), (.ref b9)])) rfl (by rw [hml]; rfl) (Steps.refl _) (argsL := [(.ref o7)]) (rest := []) (lenOf pd_4 rfl) rfl (by show 2 * 0 + _ ≤ _; exact Nat.le_of_eq rfl) (hb hby at_107) (fun _ _ => ⟨rfl, e82, (by decide : (((((((0 + 2) + 2) + 2) + 2) + 1) + 1) + 1) + 1 ≤ _), (by decide : (((((((0 + 8) + 8) + 8) + 8) + 4) + 6) + 6) + 6 ≤ _)⟩)
    dsimp only [Pt.U, Pt.locs, Pt.cells, Pt.slots] at X88 l88 y88 z88 st88 hQ88
    rw [l88, y88, z88] at X88
    obtain ⟨rfl, Nq88, Kq88, Fa88, Fb88, Fc88, Fd88⟩ := hQ88
    have N88 := Fr.app N82 Nq88
    have e88 : T88.heap = T88.heap := rfl
    refine own_via st88 ?_
    have O88 := O82.keep Kq88 (allS g_b9 all0)
    have K88 := K82.trans Kq88 (allS (Or.inr sz_b9) all0)
    show own_Go p e below s _ _ (T88.setTop (mkF m 110 #[.val (.long c0), .second, .val (.long c1), .second, .val (.long c2), .second, .val (.long c3), .second, .val (.int pp), .val (.int (3 : Int32)), .val (.long A0), .second, .val (.long A1), .second, .val (.long A2), .second, .val (.long A3), .second, .val (.ref o5), .val (.ref o6), .val (.ref o7), .val (.ref o8), .val (.ref b9), .unset, .unset, .unset] []))
    refine own_by (fun tz kz => XS.iload X88.here hx rfl (hb hby at_110) rfl  kz) ?_
    show own_Go p e below s _ _ (T88.setTop (mkF m 112 #[.val (.long c0), .second, .val (.long c1), .second, .val (.long c2), .second, .val (.long c3), .second, .val (.int pp), .val (.int (3 : Int32)), .val (.long A0), .second, .val (.long A1), .second, .val (.long A2), .second, .val (.long A3), .second, .val (.ref o5), .val (.ref o6), .val (.ref o7), .val (.ref o8), .val (.ref b9), .unset, .unset, .unset] [(.int (3 : Int32))]))
    refine own_by (fun tz kz => XS.iconst X88.here hx rfl (hb hby at_112) kz) ?_
    show own_Go p e below s _ _ (T88.setTop (mkF m 113 #[.val (.long c0), .second, .val (.long c1), .second, .val (.long c2), .second, .val (.long c3), .second, .val (.int pp), .val (.int (3 : Int32)), .val (.long A0), .second, .val (.long A1), .second, .val (.long A2), .second, .val (.long A3), .second, .val (.ref o5), .val (.ref o6), .val (.ref o7), .val (.ref o8), .val (.ref b9), .unset, .unset, .unset] [(.int (3 : Int32)), (.int (3 : Int32))]))
    refine own_by (fun tz kz => XS.icmpYes X88.here hx rfl (pc0 := 113) (pc' := 123) rfl (hb hby at_113) rfl (flt (by decide : ¬ (3 : Int32) < (3 : Int32))).2.2.2 (by decide) (by decide) kz) ?_
    show own_Go p e below s _ _ (T88.setTop (mkF m 123 #[.val (.long c0), .second, .val (.long c1), .second, .val (.long c2), .second, .val (.long c3), .second, .val (.int pp), .val (.int (3 : Int32)), .val (.long A0), .second, .val (.long A1), .second, .val (.long A2), .second, .val (.long A3), .second, .val (.ref o5), .val (.ref o6), .val (.ref o7), .val (.ref o8), .val (.ref b9), .unset, .unset, .unset] []))
    refine own_by (fun tz kz => XS.iload X88.here hx rfl (hb hby at_123) rfl  kz) ?_
    show own_Go p e below s _ _ (T88.setTop (mkF m 125 #[.val (.long c0), .second, .val (.long c1), .second, .val (.long c2), .second, .val (.long c3), .second, .val (.int pp), .val (.int (3 : Int32)), .val (.long A0), .second, .val (.long A1), .second, .val (.long A2), .second, .val (.long A3), .second, .val (.ref o5), .val (.ref o6), .val (.ref o7), .val (.ref o8), .val (.ref b9), .unset, .unset, .unset] [(.int (3 : Int32))]))
    refine own_by (fun tz kz => XS.ifNo X88.here hx rfl (hb hby at_125) rfl ((if0 _ _).trans (tlt (by decide : (0 : Int32) < (3 : Int32))).2.2.2) kz) ?_
    show own_Go p e below s _ _ (T88.setTop (mkF m 128 #[.val (.long c0), .second, .val (.long c1), .second, .val (.long c2), .second, .val (.long c3), .second, .val (.int pp), .val (.int (3 : Int32)), .val (.long A0), .second, .val (.long A1), .second, .val (.long A2), .second, .val (.long A3), .second, .val (.ref o5), .val (.ref o6), .val (.ref o7), .val (.ref o8), .val (.ref b9), .unset, .unset, .unset] []))
    refine own_by (fun tz kz => XS.iconst X88.here hx rfl (hb hby at_128) kz) ?_
    show own_Go p e below s _ _ (T88.setTop (mkF m 129 #[.val (.long c0), .second, .val (.long c1), .second, .val (.long c2), .second, .val (.long c3), .second, .val (.int pp), .val (.int (3 : Int32)), .val (.long A0), .second, .val (.long A1), .second, .val (.long A2), .second, .val (.long A3), .second, .val (.ref o5), .val (.ref o6), .val (.ref o7), .val (.ref o8), .val (.ref b9), .unset, .unset, .unset] [(.int (1 : Int32))]))
    refine own_by (fun tz kz => XS.goto X88.here hx rfl (pc0 := 129) (pc' := 133) rfl (hb hby at_129) (by decide) (by decide) kz) ?_
    show own_Go p e below s _ _ (T88.setTop (mkF m 133 #[.val (.long c0), .second, .val (.long c1), .second, .val (.long c2), .second, .val (.long c3), .second, .val (.int pp), .val (.int (3 : Int32)), .val (.long A0), .second, .val (.long A1), .second, .val (.long A2), .second, .val (.long A3), .second, .val (.ref o5), .val (.ref o6), .val (.ref o7), .val (.ref o8), .val (.ref b9), .unset, .unset, .unset] [(.int (1 : Int32))]))
    refine own_by (fun tz kz => XS.lload X88.here hx rfl (hb hby at_133) rfl kz) ?_
    show own_Go p e below s _ _ (T88.setTop (mkF m 135 #[.val (.long c0), .second, .val (.long c1), .second, .val (.long c2), .second, .val (.long c3), .second, .val (.int pp), .val (.int (3 : Int32)), .val (.long A0), .second, .val (.long A1), .second, .val (.long A2), .second, .val (.long A3), .second, .val (.ref o5), .val (.ref o6), .val (.ref o7), .val (.ref o8), .val (.ref b9), .unset, .unset, .unset] [(.long A0), (.int (1 : Int32))]))
    obtain ⟨_, _, ⟨T89, L89, k89, n89⟩, -, X89, ⟨Lc89, hQ89, l89, y89, z89⟩, st89⟩ := Jvm.LawKit.callS X88 hx (y := (⟨"com/example/liftwise/liftwise/eval/arithmetic/SidesIsOneSidedPinLaw", "positive", "(ZJ)I"⟩ : MethodName)) hown (mvT hZ (hw _ (List.mem_of_getElem? (i := 77) rfl))) (mvT hZ (hw _ (List.mem_of_getElem? (i := 78) rfl))) (mvT hZ (hw _ (List.mem_of_getElem? (i := 3) rfl))) (mvT hZ (hw _ (List.mem_of_getElem? (i := 79) rfl))) (by decide) (backOf (W := 0) (rm_ps l Z a0 hw [] (1 : Int32) A0 Q0 T88.heap n0 hQ0) hZ (hw _ (List.mem_of_getElem? (i := 79) rfl)) (hw _ (List.mem_of_getElem? (i := 3) rfl)) (by decide) (by decide)) (g := (mkF m 135 #[.val (.long c0), .second, .val (.long c1), .second, .val (.long c2), .second, .val (.long c3), .second, .val (.int pp), .val (.int (3 : Int32)), .val (.long A0), .second, .val (.long A1), .second, .val (.long A2), .second, .val (.long A3), .second, .val (.ref o5), .val (.ref o6), .val (.ref o7), .val (.ref o8), .val (.ref b9), .unset, .unset, .unset] [(.long A0), (.int (1 : Int32))])) rfl (by rw [hml]; rfl) (argsL := [(.int (1 : Int32)), (.long A0)]) (rest := []) (lenOf pd_9 rfl) rfl (by show 2 * 0 + _ ≤ _; exact Nat.le_of_eq rfl) (hb hby at_135) (fun _ _ => ⟨rfl, e88, (by decide : ((((((((0 + 2) + 2) + 2) + 2) + 1) + 1) + 1) + 1) + 0 ≤ _), (by decide : ((((((((0 + 8) + 8) + 8) + 8) + 4) + 6) + 6) + 6) + 0 ≤ _)⟩)
    dsimp only [Pt.U, Pt.locs, Pt.cells, Pt.slots] at X89 l89 y89 z89 st89 hQ89
    rw [l89, y89, z89] at X89
    obtain ⟨rfl, Nq89, e89⟩ := hQ89
    have N89 := Fr.app N88 Nq89
    refine own_by st89 ?_
    show own_Go p e below s _ _ (T89.setTop (mkF m 138 #[.val (.long c0), .second, .val (.long c1), .second, .val (.long c2), .second, .val (.long c3), .second, .val (.int pp), .val (.int (3 : Int32)), .val (.long A0), .second, .val (.long A1), .second, .val (.long A2), .second, .val (.long A3), .second, .val (.ref o5), .val (.ref o6), .val (.ref o7), .val (.ref o8), .val (.ref b9), .unset, .unset, .unset] [(.int Q0)]))
    refine own_by (fun tz kz => XS.iload X89.here hx rfl (hb hby at_138) rfl  kz) ?_
    show own_Go p e below s _ _ (T89.setTop (mkF m 140 #[.val (.long c0), .second, .val (.long c1), .second, .val (.long c2), .second, .val (.long c3), .second, .val (.int pp), .val (.int (3 : Int32)), .val (.long A0), .second, .val (.long A1), .second, .val (.long A2), .second, .val (.long A3), .second, .val (.ref o5), .val (.ref o6), .val (.ref o7), .val (.ref o8), .val (.ref b9), .unset, .unset, .unset] [(.int (3 : Int32)), (.int Q0)]))
    refine own_by (fun tz kz => XS.iconst X89.here hx rfl (hb hby at_140) kz) ?_
    show own_Go p e below s _ _ (T89.setTop (mkF m 141 #[.val (.long c0), .second, .val (.long c1), .second, .val (.long c2), .second, .val (.long c3), .second, .val (.int pp), .val (.int (3 : Int32)), .val (.long A0), .second, .val (.long A1), .second, .val (.long A2), .second, .val (.long A3), .second, .val (.ref o5), .val (.ref o6), .val (.ref o7), .val (.ref o8), .val (.ref b9), .unset, .unset, .unset] [(.int (1 : Int32)), (.int (3 : Int32)), (.int Q0)]))
    refine own_by (fun tz kz => XS.icmpNo X89.here hx rfl (hb hby at_141) rfl (tlt (by decide : (1 : Int32) < (3 : Int32))).2.2.2 kz) ?_
    show own_Go p e below s _ _ (T89.setTop (mkF m 144 #[.val (.long c0), .second, .val (.long c1), .second, .val (.long c2), .second, .val (.long c3), .second, .val (.int pp), .val (.int (3 : Int32)), .val (.long A0), .second, .val (.long A1), .second, .val (.long A2), .second, .val (.long A3), .second, .val (.ref o5), .val (.ref o6), .val (.ref o7), .val (.ref o8), .val (.ref b9), .unset, .unset, .unset] [(.int Q0)]))
    refine own_by (fun tz kz => XS.iconst X89.here hx rfl (hb hby at_144) kz) ?_
    show own_Go p e below s _ _ (T89.setTop (mkF m 145 #[.val (.long c0), .second, .val (.long c1), .second, .val (.long c2), .second, .val (.long c3), .second, .val (.int pp), .val (.int (3 : Int32)), .val (.long A0), .second, .val (.long A1), .second, .val (.long A2), .second, .val (.long A3), .second, .val (.ref o5), .val (.ref o6), .val (.ref o7), .val (.ref o8), .val (.ref b9), .unset, .unset, .unset] [(.int (1 : Int32)), (.int Q0)]))
    refine own_by (fun tz kz => XS.goto X89.here hx rfl (pc0 := 145) (pc' := 149) rfl (hb hby at_145) (by decide) (by decide) kz) ?_
    show own_Go p e below s _ _ (T89.setTop (mkF m 149 #[.val (.long c0), .second, .val (.long c1), .second, .val (.long c2), .second, .val (.long c3), .second, .val (.int pp), .val (.int (3 : Int32)), .val (.long A0), .second, .val (.long A1), .second, .val (.long A2), .second, .val (.long A3), .second, .val (.ref o5), .val (.ref o6), .val (.ref o7), .val (.ref o8), .val (.ref b9), .unset, .unset, .unset] [(.int (1 : Int32)), (.int Q0)]))
    refine own_by (fun tz kz => XS.lload X89.here hx rfl (hb hby at_149) rfl kz) ?_
    show own_Go p e below s _ _ (T89.setTop (mkF m 151 #[.val (.long c0), .second, .val (.long c1), .second, .val (.long c2), .second, .val (.long c3), .second, .val (.int pp), .val (.int (3 : Int32)), .val (.long A0), .second, .val (.long A1), .second, .val (.long A2), .second, .val (.long A3), .second, .val (.ref o5), .val (.ref o6), .val (.ref o7), .val (.ref o8), .val (.ref b9), .unset, .unset, .unset] [(.long A1), (.int (1 : Int32)), (.int Q0)]))
    obtain ⟨_, _, ⟨T90, L90, k90, n90⟩, -, X90, ⟨Lc90, hQ90, l90, y90, z90⟩, st90⟩ := Jvm.LawKit.callS X89 hx (y := (⟨"com/example/liftwise/liftwise/eval/arithmetic/SidesIsOneSidedPinLaw", "positive", "(ZJ)I"⟩ : MethodName)) hown (mvT hZ (hw _ (List.mem_of_getElem? (i := 77) rfl))) (mvT hZ (hw _ (List.mem_of_getElem? (i := 78) rfl))) (mvT hZ (hw _ (List.mem_of_getElem? (i := 3) rfl))) (mvT hZ (hw _ (List.mem_of_getElem? (i := 79) rfl))) (by decide) (backOf (W := 1) (rm_ps l Z a0 hw [] (1 : Int32) A1 Q1 T88.heap n0 hQ1) hZ (hw _ (List.mem_of_getElem? (i := 79) rfl)) (hw _ (List.mem_of_getElem? (i := 3) rfl)) (by decide) (by decide)) (g := (mkF m 151 #[.val (.long c0), .second, .val (.long c1), .second, .val (.long c2), .second, .val (.long c3), .second, .val (.int pp), .val (.int (3 : Int32)), .val (.long A0), .second, .val (.long A1), .second, .val (.long A2), .second, .val (.long A3), .second, .val (.ref o5), .val (.ref o6), .val (.ref o7), .val (.ref o8), .val (.ref b9), .unset, .unset, .unset] [(.long A1), (.int (1 : Int32)), (.int Q0)])) rfl (by rw [hml]; rfl) (argsL := [(.int (1 : Int32)), (.long A1)]) (rest := [(.int Q0)]) (lenOf pd_9 rfl) rfl (by show 2 * 0 + _ ≤ _; exact Nat.le_of_eq rfl) (hb hby at_151) (fun _ _ => ⟨rfl, e89, (by decide : ((((((((0 + 2) + 2) + 2) + 2) + 1) + 1) + 1) + 1) + 0 ≤ _), (by decide : ((((((((0 + 8) + 8) + 8) + 8) + 4) + 6) + 6) + 6) + 0 ≤ _)⟩)
    dsimp only [Pt.U, Pt.locs, Pt.cells, Pt.slots] at X90 l90 y90 z90 st90 hQ90
    rw [l90, y90, z90] at X90
    obtain ⟨rfl, Nq90, e90⟩ := hQ90
    have N90 := Fr.app N89 Nq90
    refine own_by st90 ?_
    show own_Go p e below s _ _ (T90.setTop (mkF m 154 #[.val (.long c0), .second, .val (.long c1), .second, .val (.long c2), .second, .val (.long c3), .second, .val (.int pp), .val (.int (3 : Int32)), .val (.long A0), .second, .val (.long A1), .second, .val (.long A2), .second, .val (.long A3), .second, .val (.ref o5), .val (.ref o6), .val (.ref o7), .val (.ref o8), .val (.ref b9), .unset, .unset, .unset] [(.int Q1), (.int Q0)]))
    refine own_by (fun tz kz => XS.iadd X90.here hx rfl (hb hby at_154) rfl kz) ?_
    show own_Go p e below s _ _ (T90.setTop (mkF m 155 #[.val (.long c0), .second, .val (.long c1), .second, .val (.long c2), .second, .val (.long c3), .second, .val (.int pp), .val (.int (3 : Int32)), .val (.long A0), .second, .val (.long A1), .second, .val (.long A2), .second, .val (.long A3), .second, .val (.ref o5), .val (.ref o6), .val (.ref o7), .val (.ref o8), .val (.ref b9), .unset, .unset, .unset] [(.int (Q0 + Q1))]))
    refine own_by (fun tz kz => XS.iload X90.here hx rfl (hb hby at_155) rfl  kz) ?_
    show own_Go p e below s _ _ (T90.setTop (mkF m 157 #[.val (.long c0), .second, .val (.long c1), .second, .val (.long c2), .second, .val (.long c3), .second, .val (.int pp), .val (.int (3 : Int32)), .val (.long A0), .second, .val (.long A1), .second, .val (.long A2), .second, .val (.long A3), .second, .val (.ref o5), .val (.ref o6), .val (.ref o7), .val (.ref o8), .val (.ref b9), .unset, .unset, .unset] [(.int (3 : Int32)), (.int (Q0 + Q1))]))
    refine own_by (fun tz kz => XS.iconst X90.here hx rfl (hb hby at_157) kz) ?_
    show own_Go p e below s _ _ (T90.setTop (mkF m 158 #[.val (.long c0), .second, .val (.long c1), .second, .val (.long c2), .second, .val (.long c3), .second, .val (.int pp), .val (.int (3 : Int32)), .val (.long A0), .second, .val (.long A1), .second, .val (.long A2), .second, .val (.long A3), .second, .val (.ref o5), .val (.ref o6), .val (.ref o7), .val (.ref o8), .val (.ref b9), .unset, .unset, .unset] [(.int (2 : Int32)), (.int (3 : Int32)), (.int (Q0 + Q1))]))
    refine own_by (fun tz kz => XS.icmpNo X90.here hx rfl (hb hby at_158) rfl (tlt (by decide : (2 : Int32) < (3 : Int32))).2.2.2 kz) ?_
    show own_Go p e below s _ _ (T90.setTop (mkF m 161 #[.val (.long c0), .second, .val (.long c1), .second, .val (.long c2), .second, .val (.long c3), .second, .val (.int pp), .val (.int (3 : Int32)), .val (.long A0), .second, .val (.long A1), .second, .val (.long A2), .second, .val (.long A3), .second, .val (.ref o5), .val (.ref o6), .val (.ref o7), .val (.ref o8), .val (.ref b9), .unset, .unset, .unset] [(.int (Q0 + Q1))]))
    refine own_by (fun tz kz => XS.iconst X90.here hx rfl (hb hby at_161) kz) ?_
    show own_Go p e below s _ _ (T90.setTop (mkF m 162 #[.val (.long c0), .second, .val (.long c1), .second, .val (.long c2), .second, .val (.long c3), .second, .val (.int pp), .val (.int (3 : Int32)), .val (.long A0), .second, .val (.long A1), .second, .val (.long A2), .second, .val (.long A3), .second, .val (.ref o5), .val (.ref o6), .val (.ref o7), .val (.ref o8), .val (.ref b9), .unset, .unset, .unset] [(.int (1 : Int32)), (.int (Q0 + Q1))]))
    refine own_by (fun tz kz => XS.goto X90.here hx rfl (pc0 := 162) (pc' := 166) rfl (hb hby at_162) (by decide) (by decide) kz) ?_
    show own_Go p e below s _ _ (T90.setTop (mkF m 166 #[.val (.long c0), .second, .val (.long c1), .second, .val (.long c2), .second, .val (.long c3), .second, .val (.int pp), .val (.int (3 : Int32)), .val (.long A0), .second, .val (.long A1), .second, .val (.long A2), .second, .val (.long A3), .second, .val (.ref o5), .val (.ref o6), .val (.ref o7), .val (.ref o8), .val (.ref b9), .unset, .unset, .unset] [(.int (1 : Int32)), (.int (Q0 + Q1))]))
    refine own_by (fun tz kz => XS.lload X90.here hx rfl (hb hby at_166) rfl kz) ?_
    show own_Go p e below s _ _ (T90.setTop (mkF m 168 #[.val (.long c0), .second, .val (.long c1), .second, .val (.long c2), .second, .val (.long c3), .second, .val (.int pp), .val (.int (3 : Int32)), .val (.long A0), .second, .val (.long A1), .second, .val (.long A2), .second, .val (.long A3), .second, .val (.ref o5), .val (.ref o6), .val (.ref o7), .val (.ref o8), .val (.ref b9), .unset, .unset, .unset] [(.long A2), (.int (1 : Int32)), (.int (Q0 + Q1))]))
    obtain ⟨_, _, ⟨T91, L91, k91, n91⟩, -, X91, ⟨Lc91, hQ91, l91, y91, z91⟩, st91⟩ := Jvm.LawKit.callS X90 hx (y := (⟨"com/example/liftwise/liftwise/eval/arithmetic/SidesIsOneSidedPinLaw", "positive", "(ZJ)I"⟩ : MethodName)) hown (mvT hZ (hw _ (List.mem_of_getElem? (i := 77) rfl))) (mvT hZ (hw _ (List.mem_of_getElem? (i := 78) rfl))) (mvT hZ (hw _ (List.mem_of_getElem? (i := 3) rfl))) (mvT hZ (hw _ (List.mem_of_getElem? (i := 79) rfl))) (by decide) (backOf (W := 1) (rm_ps l Z a0 hw [] (1 : Int32) A2 Q2 T88.heap n0 hQ2) hZ (hw _ (List.mem_of_getElem? (i := 79) rfl)) (hw _ (List.mem_of_getElem? (i := 3) rfl)) (by decide) (by decide)) (g := (mkF m 168 #[.val (.long c0), .second, .val (.long c1), .second, .val (.long c2), .second, .val (.long c3), .second, .val (.int pp), .val (.int (3 : Int32)), .val (.long A0), .second, .val (.long A1), .second, .val (.long A2), .second, .val (.long A3), .second, .val (.ref o5), .val (.ref o6), .val (.ref o7), .val (.ref o8), .val (.ref b9), .unset, .unset, .unset] [(.long A2), (.int (1 : Int32)), (.int (Q0 + Q1))])) rfl (by rw [hml]; rfl) (argsL := [(.int (1 : Int32)), (.long A2)]) (rest := [(.int (Q0 + Q1))]) (lenOf pd_9 rfl) rfl (by show 2 * 0 + _ ≤ _; exact Nat.le_of_eq rfl) (hb hby at_168) (fun _ _ => ⟨rfl, e90, (by decide : ((((((((0 + 2) + 2) + 2) + 2) + 1) + 1) + 1) + 1) + 0 ≤ _), (by decide : ((((((((0 + 8) + 8) + 8) + 8) + 4) + 6) + 6) + 6) + 0 ≤ _)⟩)
    dsimp only [Pt.U, Pt.locs, Pt.cells, Pt.slots] at X91 l91 y91 z91 st91 hQ91
    rw [l91, y91, z91] at X91
    obtain ⟨rfl, Nq91, e91⟩ := hQ91
    have N91 := Fr.app N90 Nq91
    refine own_by st91 ?_
    show own_Go p e below s _ _ (T91.setTop (mkF m 171 #[.val (.long c0), .second, .val (.long c1), .second, .val (.long c2), .second, .val (.long c3), .second, .val (.int pp), .val (.int (3 : Int32)), .val (.long A0), .second, .val (.long A1), .second, .val (.long A2), .second, .val (.long A3), .second, .val (.ref o5), .val (.ref o6), .val (.ref o7), .val (.ref o8), .val (.ref b9), .unset, .unset, .unset] [(.int Q2), (.int (Q0 + Q1))]))
    refine own_by (fun tz kz => XS.iadd X91.here hx rfl (hb hby at_171) rfl kz) ?_
    show own_Go p e below s _ _ (T91.setTop (mkF m 172 #[.val (.long c0), .second, .val (.long c1), .second, .val (.long c2), .second, .val (.long c3), .second, .val (.int pp), .val (.int (3 : Int32)), .val (.long A0), .second, .val (.long A1), .second, .val (.long A2), .second, .val (.long A3), .second, .val (.ref o5), .val (.ref o6), .val (.ref o7), .val (.ref o8), .val (.ref b9), .unset, .unset, .unset] [(.int ((Q0 + Q1) + Q2))]))
    refine own_by (fun tz kz => XS.iload X91.here hx rfl (hb hby at_172) rfl  kz) ?_
    show own_Go p e below s _ _ (T91.setTop (mkF m 174 #[.val (.long c0), .second, .val (.long c1), .second, .val (.long c2), .second, .val (.long c3), .second, .val (.int pp), .val (.int (3 : Int32)), .val (.long A0), .second, .val (.long A1), .second, .val (.long A2), .second, .val (.long A3), .second, .val (.ref o5), .val (.ref o6), .val (.ref o7), .val (.ref o8), .val (.ref b9), .unset, .unset, .unset] [(.int (3 : Int32)), (.int ((Q0 + Q1) + Q2))]))
    refine own_by (fun tz kz => XS.iconst X91.here hx rfl (hb hby at_174) kz) ?_
    show own_Go p e below s _ _ (T91.setTop (mkF m 175 #[.val (.long c0), .second, .val (.long c1), .second, .val (.long c2), .second, .val (.long c3), .second, .val (.int pp), .val (.int (3 : Int32)), .val (.long A0), .second, .val (.long A1), .second, .val (.long A2), .second, .val (.long A3), .second, .val (.ref o5), .val (.ref o6), .val (.ref o7), .val (.ref o8), .val (.ref b9), .unset, .unset, .unset] [(.int (3 : Int32)), (.int (3 : Int32)), (.int ((Q0 + Q1) + Q2))]))
    refine own_by (fun tz kz => XS.icmpYes X91.here hx rfl (pc0 := 175) (pc' := 182) rfl (hb hby at_175) rfl (flt (by decide : ¬ (3 : Int32) < (3 : Int32))).2.2.2 (by decide) (by decide) kz) ?_
    show own_Go p e below s _ _ (T91.setTop (mkF m 182 #[.val (.long c0), .second, .val (.long c1), .second, .val (.long c2), .second, .val (.long c3), .second, .val (.int pp), .val (.int (3 : Int32)), .val (.long A0), .second, .val (.long A1), .second, .val (.long A2), .second, .val (.long A3), .second, .val (.ref o5), .val (.ref o6), .val (.ref o7), .val (.ref o8), .val (.ref b9), .unset, .unset, .unset] [(.int ((Q0 + Q1) + Q2))]))
    refine own_by (fun tz kz => XS.iconst X91.here hx rfl (hb hby at_182) kz) ?_
    show own_Go p e below s _ _ (T91.setTop (mkF m 183 #[.val (.long c0), .second, .val (.long c1), .second, .val (.long c2), .second, .val (.long c3), .second, .val (.int pp), .val (.int (3 : Int32)), .val (.long A0), .second, .val (.long A1), .second, .val (.long A2), .second, .val (.long A3), .second, .val (.ref o5), .val (.ref o6), .val (.ref o7), .val (.ref o8), .val (.ref b9), .unset, .unset, .unset] [(.int (0 : Int32)), (.int ((Q0 + Q1) + Q2))]))
    refine own_by (fun tz kz => XS.lload X91.here hx rfl (hb hby at_183) rfl kz) ?_
    show own_Go p e below s _ _ (T91.setTop (mkF m 185 #[.val (.long c0), .second, .val (.long c1), .second, .val (.long c2), .second, .val (.long c3), .second, .val (.int pp), .val (.int (3 : Int32)), .val (.long A0), .second, .val (.long A1), .second, .val (.long A2), .second, .val (.long A3), .second, .val (.ref o5), .val (.ref o6), .val (.ref o7), .val (.ref o8), .val (.ref b9), .unset, .unset, .unset] [(.long A3), (.int (0 : Int32)), (.int ((Q0 + Q1) + Q2))]))
    obtain ⟨_, _, ⟨T92, L92, k92, n92⟩, -, X92, ⟨Lc92, hQ92, l92, y92, z92⟩, st92⟩ := Jvm.LawKit.callS X91 hx (y := (⟨"com/example/liftwise/liftwise/eval/arithmetic/SidesIsOneSidedPinLaw", "positive", "(ZJ)I"⟩ : MethodName)) hown (mvT hZ (hw _ (List.mem_of_getElem? (i := 77) rfl))) (mvT hZ (hw _ (List.mem_of_getElem? (i := 78) rfl))) (mvT hZ (hw _ (List.mem_of_getElem? (i := 3) rfl))) (mvT hZ (hw _ (List.mem_of_getElem? (i := 79) rfl))) (by decide) (backOf (W := 1) (rm_ps l Z a0 hw [] (0 : Int32) A3 (0 : Int32) T88.heap n0 rfl) hZ (hw _ (List.mem_of_getElem? (i := 79) rfl)) (hw _ (List.mem_of_getElem? (i := 3) rfl)) (by decide) (by decide)) (g := (mkF m 185 #[.val (.long c0), .second, .val (.long c1), .second, .val (.long c2), .second, .val (.long c3), .second, .val (.int pp), .val (.int (3 : Int32)), .val (.long A0), .second, .val (.long A1), .second, .val (.long A2), .second, .val (.long A3), .second, .val (.ref o5), .val (.ref o6), .val (.ref o7), .val (.ref o8), .val (.ref b9), .unset, .unset, .unset] [(.long A3), (.int (0 : Int32)), (.int ((Q0 + Q1) + Q2))])) rfl (by rw [hml]; rfl) (argsL := [(.int (0 : Int32)), (.long A3)]) (rest := [(.int ((Q0 + Q1) + Q2))]) (lenOf pd_9 rfl) rfl (by show 2 * 0 + _ ≤ _; exact Nat.le_of_eq rfl) (hb hby at_185) (fun _ _ => ⟨rfl, e91, (by decide : ((((((((0 + 2) + 2) + 2) + 2) + 1) + 1) + 1) + 1) + 0 ≤ _), (by decide : ((((((((0 + 8) + 8) + 8) + 8) + 4) + 6) + 6) + 6) + 0 ≤ _)⟩)
    dsimp only [Pt.U, Pt.locs, Pt.cells, Pt.slots] at X92 l92 y92 z92 st92 hQ92
    rw [l92, y92, z92] at X92
    obtain ⟨rfl, Nq92, e92⟩ := hQ92
    have N92 := Fr.app N91 Nq92
    refine own_by st92 ?_
    show own_Go p e below s _ _ (T92.setTop (mkF m 188 #[.val (.long c0), .second, .val (.long c1), .second, .val (.long c2), .second, .val (.long c3), .second, .val (.int pp), .val (.int (3 : Int32)), .val (.long A0), .second, .val (.long A1), .second, .val (.long A2), .second, .val (.long A3), .second, .val (.ref o5), .val (.ref o6), .val (.ref o7), .val (.ref o8), .val (.ref b9), .unset, .unset, .unset] [(.int (0 : Int32)), (.int ((Q0 + Q1) + Q2))]))
    refine own_by (fun tz kz => XS.iadd X92.here hx rfl (hb hby at_188) rfl kz) ?_
    show own_Go p e below s _ _ (T92.setTop (mkF m 189 #[.val (.long c0), .second, .val (.long c1), .second, .val (.long c2), .second, .val (.long c3), .second, .val (.int pp), .val (.int (3 : Int32)), .val (.long A0), .second, .val (.long A1), .second, .val (.long A2), .second, .val (.long A3), .second, .val (.ref o5), .val (.ref o6), .val (.ref o7), .val (.ref o8), .val (.ref b9), .unset, .unset, .unset] [(.int (((Q0 + Q1) + Q2) + (0 : Int32)))]))
    refine own_by (fun tz kz => XS.istore X92.here hx rfl (hb hby at_189) rfl (l' := #[.val (.long c0), .second, .val (.long c1), .second, .val (.long c2), .second, .val (.long c3), .second, .val (.int pp), .val (.int (3 : Int32)), .val (.long A0), .second, .val (.long A1), .second, .val (.long A2), .second, .val (.long A3), .second, .val (.ref o5), .val (.ref o6), .val (.ref o7), .val (.ref o8), .val (.ref b9), .val (.int (((Q0 + Q1) + Q2) + (0 : Int32))), .unset, .unset]) rfl kz) ?_
    show own_Go p e below s _ _ (T92.setTop (mkF m 191 #[.val (.long c0), .second, .val (.long c1), .second, .val (.long c2), .second, .val (.long c3), .second, .val (.int pp), .val (.int (3 : Int32)), .val (.long A0), .second, .val (.long A1), .second, .val (.long A2), .second, .val (.long A3), .second, .val (.ref o5), .val (.ref o6), .val (.ref o7), .val (.ref o8), .val (.ref b9), .val (.int (((Q0 + Q1) + Q2) + (0 : Int32))), .unset, .unset] []))
    refine own_by (fun tz kz => XS.iload X92.here hx rfl (hb hby at_191) rfl  kz) ?_
    show own_Go p e below s _ _ (T92.setTop (mkF m 193 #[.val (.long c0), .second, .val (.long c1), .second, .val (.long c2), .second, .val (.long c3), .second, .val (.int pp), .val (.int (3 : Int32)), .val (.long A0), .second, .val (.long A1), .second, .val (.long A2), .second, .val (.long A3), .second, .val (.ref o5), .val (.ref o6), .val (.ref o7), .val (.ref o8), .val (.ref b9), .val (.int (((Q0 + Q1) + Q2) + (0 : Int32))), .unset, .unset] [(.int (3 : Int32))]))
    refine own_by (fun tz kz => XS.iload X92.here hx rfl (hb hby at_193) rfl  kz) ?_
    show own_Go p e below s _ _ (T92.setTop (mkF m 195 #[.val (.long c0), .second, .val (.long c1), .second, .val (.long c2), .second, .val (.long c3), .second, .val (.int pp), .val (.int (3 : Int32)), .val (.long A0), .second, .val (.long A1), .second, .val (.long A2), .second, .val (.long A3), .second, .val (.ref o5), .val (.ref o6), .val (.ref o7), .val (.ref o8), .val (.ref b9), .val (.int (((Q0 + Q1) + Q2) + (0 : Int32))), .unset, .unset] [(.int (((Q0 + Q1) + Q2) + (0 : Int32))), (.int (3 : Int32))]))
    refine own_by (fun tz kz => XS.isub X92.here hx rfl (hb hby at_195) rfl kz) ?_
    show own_Go p e below s _ _ (T92.setTop (mkF m 196 #[.val (.long c0), .second, .val (.long c1), .second, .val (.long c2), .second, .val (.long c3), .second, .val (.int pp), .val (.int (3 : Int32)), .val (.long A0), .second, .val (.long A1), .second, .val (.long A2), .second, .val (.long A3), .second, .val (.ref o5), .val (.ref o6), .val (.ref o7), .val (.ref o8), .val (.ref b9), .val (.int (((Q0 + Q1) + Q2) + (0 : Int32))), .unset, .unset] [(.int ((3 : Int32) - (((Q0 + Q1) + Q2) + (0 : Int32))))]))
    refine own_by (fun tz kz => XS.istore X92.here hx rfl (hb hby at_196) rfl (l' := #[.val (.long c0), .second, .val (.long c1), .second, .val (.long c2), .second, .val (.long c3), .second, .val (.int pp), .val (.int (3 : Int32)), .val (.long A0), .second, .val (.long A1), .second, .val (.long A2), .second, .val (.long A3), .second, .val (.ref o5), .val (.ref o6), .val (.ref o7), .val (.ref o8), .val (.ref b9), .val (.int (((Q0 + Q1) + Q2) + (0 : Int32))), .val (.int ((3 : Int32) - (((Q0 + Q1) + Q2) + (0 : Int32)))), .unset]) rfl kz) ?_
    show own_Go p e below s _ _ (T92.setTop (mkF m 198 #[.val (.long c0), .second, .val (.long c1), .second, .val (.long c2), .second, .val (.long c3), .second, .val (.int pp), .val (.int (3 : Int32)), .val (.long A0), .second, .val (.long A1), .second, .val (.long A2), .second, .val (.long A3), .second, .val (.ref o5), .val (.ref o6), .val (.ref o7), .val (.ref o8), .val (.ref b9), .val (.int (((Q0 + Q1) + Q2) + (0 : Int32))), .val (.int ((3 : Int32) - (((Q0 + Q1) + Q2) + (0 : Int32)))), .unset] []))
    refine own_by (fun tz kz => XS.iload X92.here hx rfl (hb hby at_198) rfl  kz) ?_
    show own_Go p e below s _ _ (T92.setTop (mkF m 200 #[.val (.long c0), .second, .val (.long c1), .second, .val (.long c2), .second, .val (.long c3), .second, .val (.int pp), .val (.int (3 : Int32)), .val (.long A0), .second, .val (.long A1), .second, .val (.long A2), .second, .val (.long A3), .second, .val (.ref o5), .val (.ref o6), .val (.ref o7), .val (.ref o8), .val (.ref b9), .val (.int (((Q0 + Q1) + Q2) + (0 : Int32))), .val (.int ((3 : Int32) - (((Q0 + Q1) + Q2) + (0 : Int32)))), .unset] [(.int (((Q0 + Q1) + Q2) + (0 : Int32)))]))
    by_cases hc200_93 : (((Q0 + Q1) + Q2) + (0 : Int32)) = (0 : Int32)
    · refine own_by (fun tz kz => XS.ifYes X92.here hx rfl (pc0 := 200) (pc' := 208) rfl (hb hby at_200) rfl ((if0 _ _).trans (teq hc200_93).1) (by decide) (by decide) kz) ?_
      show own_Go p e below s _ _ (T92.setTop (mkF m 208 #[.val (.long c0), .second, .val (.long c1), .second, .val (.long c2), .second, .val (.long c3), .second, .val (.int pp), .val (.int (3 : Int32)), .val (.long A0), .second, .val (.long A1), .second, .val (.long A2), .second, .val (.long A3), .second, .val (.ref o5), .val (.ref o6), .val (.ref o7), .val (.ref o8), .val (.ref b9), .val (.int (((Q0 + Q1) + Q2) + (0 : Int32))), .val (.int ((3 : Int32) - (((Q0 + Q1) + Q2) + (0 : Int32)))), .unset] []))
      refine own_by (fun tz kz => XS.iconst X92.here hx rfl (hb hby at_208) kz) ?_
      show own_Go p e below s _ _ (T92.setTop (mkF m 209 #[.val (.long c0), .second, .val (.long c1), .second, .val (.long c2), .second, .val (.long c3), .second, .val (.int pp), .val (.int (3 : Int32)), .val (.long A0), .second, .val (.long A1), .second, .val (.long A2), .second, .val (.long A3), .second, .val (.ref o5), .val (.ref o6), .val (.ref o7), .val (.ref o8), .val (.ref b9), .val (.int (((Q0 + Q1) + Q2) + (0 : Int32))), .val (.int ((3 : Int32) - (((Q0 + Q1) + Q2) + (0 : Int32)))), .unset] [(.int (1 : Int32))]))
      refine own_by (fun tz kz => XS.goto X92.here hx rfl (pc0 := 209) (pc' := 213) rfl (hb hby at_209) (by decide) (by decide) kz) ?_
      show own_Go p e below s _ _ (T92.setTop (mkF m 213 #[.val (.long c0), .second, .val (.long c1), .second, .val (.long c2), .second, .val (.long c3), .second, .val (.int pp), .val (.int (3 : Int32)), .val (.long A0), .second, .val (.long A1), .second, .val (.long A2), .second, .val (.long A3), .second, .val (.ref o5), .val (.ref o6), .val (.ref o7), .val (.ref o8), .val (.ref b9), .val (.int (((Q0 + Q1) + Q2) + (0 : Int32))), .val (.int ((3 : Int32) - (((Q0 + Q1) + Q2) + (0 : Int32)))), .unset] [(.int (1 : Int32))]))
      refine own_by (fun tz kz => XS.istore X92.here hx rfl (hb hby at_213) rfl (l' := #[.val (.long c0), .second, .val (.long c1), .second, .val (.long c2), .second, .val (.long c3), .second, .val (.int pp), .val (.int (3 : Int32)), .val (.long A0), .second, .val (.long A1), .second, .val (.long A2), .second, .val (.long A3), .second, .val (.ref o5), .val (.ref o6), .val (.ref o7), .val (.ref o8), .val (.ref b9), .val (.int (((Q0 + Q1) + Q2) + (0 : Int32))), .val (.int ((3 : Int32) - (((Q0 + Q1) + Q2) + (0 : Int32)))), .val (.int (1 : Int32))]) rfl kz) ?_
      show own_Go p e below s _ _ (T92.setTop (mkF m 215 #[.val (.long c0), .second, .val (.long c1), .second, .val (.long c2), .second, .val (.long c3), .second, .val (.int pp), .val (.int (3 : Int32)), .val (.long A0), .second, .val (.long A1), .second, .val (.long A2), .second, .val (.long A3), .second, .val (.ref o5), .val (.ref o6), .val (.ref o7), .val (.ref o8), .val (.ref b9), .val (.int (((Q0 + Q1) + Q2) + (0 : Int32))), .val (.int ((3 : Int32) - (((Q0 + Q1) + Q2) + (0 : Int32)))), .val (.int (1 : Int32))] []))
      refine own_by (fun tz kz => XS.aload X92.here hx rfl (hb hby at_215) rfl rfl kz) ?_
      show own_Go p e below s _ _ (T92.setTop (mkF m 217 #[.val (.long c0), .second, .val (.long c1), .second, .val (.long c2), .second, .val (.long c3), .second, .val (.int pp), .val (.int (3 : Int32)), .val (.long A0), .second, .val (.long A1), .second, .val (.long A2), .second, .val (.long A3), .second, .val (.ref o5), .val (.ref o6), .val (.ref o7), .val (.ref o8), .val (.ref b9), .val (.int (((Q0 + Q1) + Q2) + (0 : Int32))), .val (.int ((3 : Int32) - (((Q0 + Q1) + Q2) + (0 : Int32)))), .val (.int (1 : Int32))] [(.ref b9)]))
      have f94 := (f87.keep Kq88)
      obtain ⟨cq95, kq95, q95a, q95b, q95c⟩ := isOf hZ e92 f94
      obtain ⟨_, _, ⟨T95, L95, k95, n95⟩, -, X95, ⟨Lc95, hQ95, l95, y95, z95⟩, st95⟩ := X92.virtualBack hx (y := (⟨"com/example/liftwise/liftwise/eval/arithmetic/Solver$Sides", "isOneSided", "()Z"⟩ : MethodName)) (z := (⟨"com/example/liftwise/liftwise/eval/arithmetic/Solver$Sides", "isOneSided", "()Z"⟩ : MethodName)) hown (mvT hZ (hw _ (List.mem_of_getElem? (i := 80) rfl))) (mvT hZ (hw _ (List.mem_of_getElem? (i := 81) rfl))) (notFace_of_selects (args := #[]) (mvT hZ (hw _ (List.mem_of_getElem? (i := 83) rfl)))) (mvT hZ (hw _ (List.mem_of_getElem? (i := 83) rfl))) (mvT hZ (hw _ (List.mem_of_getElem? (i := 82) rfl))) (by decide) (backOf (W := 0) (rm_one l Z a0 hw [] b9 (own_up A2 (own_up A1 (own_up A0 (0 : Int32)))) (own_dn A2 (own_dn A1 (own_dn A0 (0 : Int32)))) (1 : Int32) T88.heap n0 Fa88 Fb88 (if_pos (Or.inl ((own_rel3 A0 A1 A2 A3 hQ0 hQ1 hQ2).1.mpr hc200_93))).symm) hZ (hw _ (List.mem_of_getElem? (i := 84) rfl)) (hw _ (List.mem_of_getElem? (i := 34) rfl)) (by decide) (by decide)) q95a q95c (g := (mkF m 217 #[.val (.long c0), .second, .val (.long c1), .second, .val (.long c2), .second, .val (.long c3), .second, .val (.int pp), .val (.int (3 : Int32)), .val (.long A0), .second, .val (.long A1), .second, .val (.long A2), .second, .val (.long A3), .second, .val (.ref o5), .val (.ref o6), .val (.ref o7), .val (.ref o8), .val (.ref b9), .val (.int (((Q0 + Q1) + Q2) + (0 : Int32))), .val (.int ((3 : Int32) - (((Q0 + Q1) + Q2) + (0 : Int32)))), .val (.int (1 : Int32))] [(.ref b9)])) rfl (by rw [hml]; rfl) (Steps.refl _) (argsL := []) (rest := []) (lenOf pd_10 rfl) rfl (by show 2 * 0 + _ ≤ _; exact Nat.le_of_eq rfl) (hb hby at_217) (fun _ _ => ⟨rfl, e92, (by decide : ((((((((0 + 2) + 2) + 2) + 2) + 1) + 1) + 1) + 1) + 0 ≤ _), (by decide : ((((((((0 + 8) + 8) + 8) + 8) + 4) + 6) + 6) + 6) + 0 ≤ _)⟩)
      dsimp only [Pt.U, Pt.locs, Pt.cells, Pt.slots] at X95 l95 y95 z95 st95 hQ95
      rw [l95, y95, z95] at X95
      obtain ⟨rfl, Nq95, e95⟩ := hQ95
      have N95 := Fr.app N92 Nq95
      refine own_via st95 ?_
      show own_Go p e below s _ _ (T95.setTop (mkF m 220 #[.val (.long c0), .second, .val (.long c1), .second, .val (.long c2), .second, .val (.long c3), .second, .val (.int pp), .val (.int (3 : Int32)), .val (.long A0), .second, .val (.long A1), .second, .val (.long A2), .second, .val (.long A3), .second, .val (.ref o5), .val (.ref o6), .val (.ref o7), .val (.ref o8), .val (.ref b9), .val (.int (((Q0 + Q1) + Q2) + (0 : Int32))), .val (.int ((3 : Int32) - (((Q0 + Q1) + Q2) + (0 : Int32)))), .val (.int (1 : Int32))] [(.int (1 : Int32))]))
      refine own_by (fun tz kz => XS.iload X95.here hx rfl (hb hby at_220) rfl  kz) ?_
      show own_Go p e below s _ _ (T95.setTop (mkF m 222 #[.val (.long c0), .second, .val (.long c1), .second, .val (.long c2), .second, .val (.long c3), .second, .val (.int pp), .val (.int (3 : Int32)), .val (.long A0), .second, .val (.long A1), .second, .val (.long A2), .second, .val (.long A3), .second, .val (.ref o5), .val (.ref o6), .val (.ref o7), .val (.ref o8), .val (.ref b9), .val (.int (((Q0 + Q1) + Q2) + (0 : Int32))), .val (.int ((3 : Int32) - (((Q0 + Q1) + Q2) + (0 : Int32)))), .val (.int (1 : Int32))] [(.int (1 : Int32)), (.int (1 : Int32))]))
      refine own_by (fun tz kz => XS.icmpNo X95.here hx rfl (hb hby at_222) rfl (teq (by decide : (1 : Int32) = (1 : Int32))).2 kz) ?_
      show own_Go p e below s _ _ (T95.setTop (mkF m 225 #[.val (.long c0), .second, .val (.long c1), .second, .val (.long c2), .second, .val (.long c3), .second, .val (.int pp), .val (.int (3 : Int32)), .val (.long A0), .second, .val (.long A1), .second, .val (.long A2), .second, .val (.long A3), .second, .val (.ref o5), .val (.ref o6), .val (.ref o7), .val (.ref o8), .val (.ref b9), .val (.int (((Q0 + Q1) + Q2) + (0 : Int32))), .val (.int ((3 : Int32) - (((Q0 + Q1) + Q2) + (0 : Int32)))), .val (.int (1 : Int32))] []))
      refine own_by (fun tz kz => XS.iconst X95.here hx rfl (hb hby at_225) kz) ?_
      show own_Go p e below s _ _ (T95.setTop (mkF m 226 #[.val (.long c0), .second, .val (.long c1), .second, .val (.long c2), .second, .val (.long c3), .second, .val (.int pp), .val (.int (3 : Int32)), .val (.long A0), .second, .val (.long A1), .second, .val (.long A2), .second, .val (.long A3), .second, .val (.ref o5), .val (.ref o6), .val (.ref o7), .val (.ref o8), .val (.ref b9), .val (.int (((Q0 + Q1) + Q2) + (0 : Int32))), .val (.int ((3 : Int32) - (((Q0 + Q1) + Q2) + (0 : Int32)))), .val (.int (1 : Int32))] [(.int (1 : Int32))]))
      refine own_by (fun tz kz => XS.goto X95.here hx rfl (pc0 := 226) (pc' := 230) rfl (hb hby at_226) (by decide) (by decide) kz) ?_
      show own_Go p e below s _ _ (T95.setTop (mkF m 230 #[.val (.long c0), .second, .val (.long c1), .second, .val (.long c2), .second, .val (.long c3), .second, .val (.int pp), .val (.int (3 : Int32)), .val (.long A0), .second, .val (.long A1), .second, .val (.long A2), .second, .val (.long A3), .second, .val (.ref o5), .val (.ref o6), .val (.ref o7), .val (.ref o8), .val (.ref b9), .val (.int (((Q0 + Q1) + Q2) + (0 : Int32))), .val (.int ((3 : Int32) - (((Q0 + Q1) + Q2) + (0 : Int32)))), .val (.int (1 : Int32))] [(.int (1 : Int32))]))
      refine own_retI X95 hx hlk (t := .boolean) hret (by simp) rfl (hb hby at_230) ?_ (by decide) (by decide)
      exact ⟨rfl, N95⟩
    · refine own_by (fun tz kz => XS.ifNo X92.here hx rfl (hb hby at_200) rfl ((if0 _ _).trans (feq hc200_93).1) kz) ?_
      show own_Go p e below s _ _ (T92.setTop (mkF m 203 #[.val (.long c0), .second, .val (.long c1), .second, .val (.long c2), .second, .val (.long c3), .second, .val (.int pp), .val (.int (3 : Int32)), .val (.long A0), .second, .val (.long A1), .second, .val (.long A2), .second, .val (.long A3), .second, .val (.ref o5), .val (.ref o6), .val (.ref o7), .val (.ref o8), .val (.ref b9), .val (.int (((Q0 + Q1) + Q2) + (0 : Int32))), .val (.int ((3 : Int32) - (((Q0 + Q1) + Q2) + (0 : Int32)))), .unset] []))
      refine own_by (fun tz kz => XS.iload X92.here hx rfl (hb hby at_203) rfl  kz) ?_
      show own_Go p e below s _ _ (T92.setTop (mkF m 205 #[.val (.long c0), .second, .val (.long c1), .second, .val (.long c2), .second, .val (.long c3), .second, .val (.int pp), .val (.int (3 : Int32)), .val (.long A0), .second, .val (.long A1), .second, .val (.long A2), .second, .val (.long A3), .second, .val (.ref o5), .val (.ref o6), .val (.ref o7), .val (.ref o8), .val (.ref b9), .val (.int (((Q0 + Q1) + Q2) + (0 : Int32))), .val (.int ((3 : Int32) - (((Q0 + Q1) + Q2) + (0 : Int32)))), .unset] [(.int ((3 : Int32) - (((Q0 + Q1) + Q2) + (0 : Int32))))]))
      by_cases hc205_96 : ((3 : Int32) - (((Q0 + Q1) + Q2) + (0 : Int32))) = (0 : Int32)
      · refine own_by (fun tz kz => XS.ifNo X92.here hx rfl (hb hby at_205) rfl ((if0 _ _).trans (teq hc205_96).2) kz) ?_
        show own_Go p e below s _ _ (T92.setTop (mkF m 208 #[.val (.long c0), .second, .val (.long c1), .second, .val (.long c2), .second, .val (.long c3), .second, .val (.int pp), .val (.int (3 : Int32)), .val (.long A0), .second, .val (.long A1), .second, .val (.long A2), .second, .val (.long A3), .second, .val (.ref o5), .val (.ref o6), .val (.ref o7), .val (.ref o8), .val (.ref b9), .val (.int (((Q0 + Q1) + Q2) + (0 : Int32))), .val (.int ((3 : Int32) - (((Q0 + Q1) + Q2) + (0 : Int32)))), .unset] []))
        refine own_by (fun tz kz => XS.iconst X92.here hx rfl (hb hby at_208) kz) ?_
        show own_Go p e below s _ _ (T92.setTop (mkF m 209 #[.val (.long c0), .second, .val (.long c1), .second, .val (.long c2), .second, .val (.long c3), .second, .val (.int pp), .val (.int (3 : Int32)), .val (.long A0), .second, .val (.long A1), .second, .val (.long A2), .second, .val (.long A3), .second, .val (.ref o5), .val (.ref o6), .val (.ref o7), .val (.ref o8), .val (.ref b9), .val (.int (((Q0 + Q1) + Q2) + (0 : Int32))), .val (.int ((3 : Int32) - (((Q0 + Q1) + Q2) + (0 : Int32)))), .unset] [(.int (1 : Int32))]))
        refine own_by (fun tz kz => XS.goto X92.here hx rfl (pc0 := 209) (pc' := 213) rfl (hb hby at_209) (by decide) (by decide) kz) ?_
        show own_Go p e below s _ _ (T92.setTop (mkF m 213 #[.val (.long c0), .second, .val (.long c1), .second, .val (.long c2), .second, .val (.long c3), .second, .val (.int pp), .val (.int (3 : Int32)), .val (.long A0), .second, .val (.long A1), .second, .val (.long A2), .second, .val (.long A3), .second, .val (.ref o5), .val (.ref o6), .val (.ref o7), .val (.ref o8), .val (.ref b9), .val (.int (((Q0 + Q1) + Q2) + (0 : Int32))), .val (.int ((3 : Int32) - (((Q0 + Q1) + Q2) + (0 : Int32)))), .unset] [(.int (1 : Int32))]))
        refine own_by (fun tz kz => XS.istore X92.here hx rfl (hb hby at_213) rfl (l' := #[.val (.long c0), .second, .val (.long c1), .second, .val (.long c2), .second, .val (.long c3), .second, .val (.int pp), .val (.int (3 : Int32)), .val (.long A0), .second, .val (.long A1), .second, .val (.long A2), .second, .val (.long A3), .second, .val (.ref o5), .val (.ref o6), .val (.ref o7), .val (.ref o8), .val (.ref b9), .val (.int (((Q0 + Q1) + Q2) + (0 : Int32))), .val (.int ((3 : Int32) - (((Q0 + Q1) + Q2) + (0 : Int32)))), .val (.int (1 : Int32))]) rfl kz) ?_
        show own_Go p e below s _ _ (T92.setTop (mkF m 215 #[.val (.long c0), .second, .val (.long c1), .second, .val (.long c2), .second, .val (.long c3), .second, .val (.int pp), .val (.int (3 : Int32)), .val (.long A0), .second, .val (.long A1), .second, .val (.long A2), .second, .val (.long A3), .second, .val (.ref o5), .val (.ref o6), .val (.ref o7), .val (.ref o8), .val (.ref b9), .val (.int (((Q0 + Q1) + Q2) + (0 : Int32))), .val (.int ((3 : Int32) - (((Q0 + Q1) + Q2) + (0 : Int32)))), .val (.int (1 : Int32))] []))
        refine own_by (fun tz kz => XS.aload X92.here hx rfl (hb hby at_215) rfl rfl kz) ?_
        show own_Go p e below s _ _ (T92.setTop (mkF m 217 #[.val (.long c0), .second, .val (.long c1), .second, .val (.long c2), .second, .val (.long c3), .second, .val (.int pp), .val (.int (3 : Int32)), .val (.long A0), .second, .val (.long A1), .second, .val (.long A2), .second, .val (.long A3), .second, .val (.ref o5), .val (.ref o6), .val (.ref o7), .val (.ref o8), .val (.ref b9), .val (.int (((Q0 + Q1) + Q2) + (0 : Int32))), .val (.int ((3 : Int32) - (((Q0 + Q1) + Q2) + (0 : Int32)))), .val (.int (1 : Int32))] [(.ref b9)]))
        have f97 := (f87.keep Kq88)
        obtain ⟨cq98, kq98, q98a, q98b, q98c⟩ := isOf hZ e92 f97
        obtain ⟨_, _, ⟨T98, L98, k98, n98⟩, -, X98, ⟨Lc98, hQ98, l98, y98, z98⟩, st98⟩ := X92.virtualBack hx (y := (⟨"com/example/liftwise/liftwise/eval/arithmetic/Solver$Sides", "isOneSided", "()Z"⟩ : MethodName)) (z := (⟨"com/example/liftwise/liftwise/eval/arithmetic/Solver$Sides", "isOneSided", "()Z"⟩ : MethodName)) hown (mvT hZ (hw _ (List.mem_of_getElem? (i := 80) rfl))) (mvT hZ (hw _ (List.mem_of_getElem? (i := 81) rfl))) (notFace_of_selects (args := #[]) (mvT hZ (hw _ (List.mem_of_getElem? (i := 83) rfl)))) (mvT hZ (hw _ (List.mem_of_getElem? (i := 83) rfl))) (mvT hZ (hw _ (List.mem_of_getElem? (i := 82) rfl))) (by decide) (backOf (W := 0) (rm_one l Z a0 hw [] b9 (own_up A2 (own_up A1 (own_up A0 (0 : Int32)))) (own_dn A2 (own_dn A1 (own_dn A0 (0 : Int32)))) (1 : Int32) T88.heap n0 Fa88 Fb88 (if_pos (Or.inr ((own_rel3 A0 A1 A2 A3 hQ0 hQ1 hQ2).2.mpr hc205_96))).symm) hZ (hw _ (List.mem_of_getElem? (i := 84) rfl)) (hw _ (List.mem_of_getElem? (i := 34) rfl)) (by decide) (by decide)) q98a q98c (g := (mkF m 217 #[.val (.long c0), .second, .val (.long c1), .second, .val (.long c2), .second, .val (.long c3), .second, .val (.int pp), .val (.int (3 : Int32)), .val (.long A0), .second, .val (.long A1), .second, .val (.long A2), .second, .val (.long A3), .second, .val (.ref o5), .val (.ref o6), .val (.ref o7), .val (.ref o8), .val (.ref b9), .val (.int (((Q0 + Q1) + Q2) + (0 : Int32))), .val (.int ((3 : Int32) - (((Q0 + Q1) + Q2) + (0 : Int32)))), .val (.int (1 : Int32))] [(.ref b9)])) rfl (by rw [hml]; rfl) (Steps.refl _) (argsL := []) (rest := []) (lenOf pd_10 rfl) rfl (by show 2 * 0 + _ ≤ _; exact Nat.le_of_eq rfl) (hb hby at_217) (fun _ _ => ⟨rfl, e92, (by decide : ((((((((0 + 2) + 2) + 2) + 2) + 1) + 1) + 1) + 1) + 0 ≤ _), (by decide : ((((((((0 + 8) + 8) + 8) + 8) + 4) + 6) + 6) + 6) + 0 ≤ _)⟩)
        dsimp only [Pt.U, Pt.locs, Pt.cells, Pt.slots] at X98 l98 y98 z98 st98 hQ98
        rw [l98, y98, z98] at X98
        obtain ⟨rfl, Nq98, e98⟩ := hQ98
        have N98 := Fr.app N92 Nq98
        refine own_via st98 ?_
        show own_Go p e below s _ _ (T98.setTop (mkF m 220 #[.val (.long c0), .second, .val (.long c1), .second, .val (.long c2), .second, .val (.long c3), .second, .val (.int pp), .val (.int (3 : Int32)), .val (.long A0), .second, .val (.long A1), .second, .val (.long A2), .second, .val (.long A3), .second, .val (.ref o5), .val (.ref o6), .val (.ref o7), .val (.ref o8), .val (.ref b9), .val (.int (((Q0 + Q1) + Q2) + (0 : Int32))), .val (.int ((3 : Int32) - (((Q0 + Q1) + Q2) + (0 : Int32)))), .val (.int (1 : Int32))] [(.int (1 : Int32))]))
        refine own_by (fun tz kz => XS.iload X98.here hx rfl (hb hby at_220) rfl  kz) ?_
        show own_Go p e below s _ _ (T98.setTop (mkF m 222 #[.val (.long c0), .second, .val (.long c1), .second, .val (.long c2), .second, .val (.long c3), .second, .val (.int pp), .val (.int (3 : Int32)), .val (.long A0), .second, .val (.long A1), .second, .val (.long A2), .second, .val (.long A3), .second, .val (.ref o5), .val (.ref o6), .val (.ref o7), .val (.ref o8), .val (.ref b9), .val (.int (((Q0 + Q1) + Q2) + (0 : Int32))), .val (.int ((3 : Int32) - (((Q0 + Q1) + Q2) + (0 : Int32)))), .val (.int (1 : Int32))] [(.int (1 : Int32)), (.int (1 : Int32))]))
        refine own_by (fun tz kz => XS.icmpNo X98.here hx rfl (hb hby at_222) rfl (teq (by decide : (1 : Int32) = (1 : Int32))).2 kz) ?_
        show own_Go p e below s _ _ (T98.setTop (mkF m 225 #[.val (.long c0), .second, .val (.long c1), .second, .val (.long c2), .second, .val (.long c3), .second, .val (.int pp), .val (.int (3 : Int32)), .val (.long A0), .second, .val (.long A1), .second, .val (.long A2), .second, .val (.long A3), .second, .val (.ref o5), .val (.ref o6), .val (.ref o7), .val (.ref o8), .val (.ref b9), .val (.int (((Q0 + Q1) + Q2) + (0 : Int32))), .val (.int ((3 : Int32) - (((Q0 + Q1) + Q2) + (0 : Int32)))), .val (.int (1 : Int32))] []))
        refine own_by (fun tz kz => XS.iconst X98.here hx rfl (hb hby at_225) kz) ?_
        show own_Go p e below s _ _ (T98.setTop (mkF m 226 #[.val (.long c0), .second, .val (.long c1), .second, .val (.long c2), .second, .val (.long c3), .second, .val (.int pp), .val (.int (3 : Int32)), .val (.long A0), .second, .val (.long A1), .second, .val (.long A2), .second, .val (.long A3), .second, .val (.ref o5), .val (.ref o6), .val (.ref o7), .val (.ref o8), .val (.ref b9), .val (.int (((Q0 + Q1) + Q2) + (0 : Int32))), .val (.int ((3 : Int32) - (((Q0 + Q1) + Q2) + (0 : Int32)))), .val (.int (1 : Int32))] [(.int (1 : Int32))]))
        refine own_by (fun tz kz => XS.goto X98.here hx rfl (pc0 := 226) (pc' := 230) rfl (hb hby at_226) (by decide) (by decide) kz) ?_
        show own_Go p e below s _ _ (T98.setTop (mkF m 230 #[.val (.long c0), .second, .val (.long c1), .second, .val (.long c2), .second, .val (.long c3), .second, .val (.int pp), .val (.int (3 : Int32)), .val (.long A0), .second, .val (.long A1), .second, .val (.long A2), .second, .val (.long A3), .second, .val (.ref o5), .val (.ref o6), .val (.ref o7), .val (.ref o8), .val (.ref b9), .val (.int (((Q0 + Q1) + Q2) + (0 : Int32))), .val (.int ((3 : Int32) - (((Q0 + Q1) + Q2) + (0 : Int32)))), .val (.int (1 : Int32))] [(.int (1 : Int32))]))
        refine own_retI X98 hx hlk (t := .boolean) hret (by simp) rfl (hb hby at_230) ?_ (by decide) (by decide)
        exact ⟨rfl, N98⟩
      · refine own_by (fun tz kz => XS.ifYes X92.here hx rfl (pc0 := 205) (pc' := 212) rfl (hb hby at_205) rfl ((if0 _ _).trans (feq hc205_96).2) (by decide) (by decide) kz) ?_
        show own_Go p e below s _ _ (T92.setTop (mkF m 212 #[.val (.long c0), .second, .val (.long c1), .second, .val (.long c2), .second, .val (.long c3), .second, .val (.int pp), .val (.int (3 : Int32)), .val (.long A0), .second, .val (.long A1), .second, .val (.long A2), .second, .val (.long A3), .second, .val (.ref o5), .val (.ref o6), .val (.ref o7), .val (.ref o8), .val (.ref b9), .val (.int (((Q0 + Q1) + Q2) + (0 : Int32))), .val (.int ((3 : Int32) - (((Q0 + Q1) + Q2) + (0 : Int32)))), .unset] []))
        refine own_by (fun tz kz => XS.iconst X92.here hx rfl (hb hby at_212) kz) ?_
        show own_Go p e below s _ _ (T92.setTop (mkF m 213 #[.val (.long c0), .second, .val (.long c1), .second, .val (.long c2), .second, .val (.long c3), .second, .val (.int pp), .val (.int (3 : Int32)), .val (.long A0), .second, .val (.long A1), .second, .val (.long A2), .second, .val (.long A3), .second, .val (.ref o5), .val (.ref o6), .val (.ref o7), .val (.ref o8), .val (.ref b9), .val (.int (((Q0 + Q1) + Q2) + (0 : Int32))), .val (.int ((3 : Int32) - (((Q0 + Q1) + Q2) + (0 : Int32)))), .unset] [(.int (0 : Int32))]))
        refine own_by (fun tz kz => XS.istore X92.here hx rfl (hb hby at_213) rfl (l' := #[.val (.long c0), .second, .val (.long c1), .second, .val (.long c2), .second, .val (.long c3), .second, .val (.int pp), .val (.int (3 : Int32)), .val (.long A0), .second, .val (.long A1), .second, .val (.long A2), .second, .val (.long A3), .second, .val (.ref o5), .val (.ref o6), .val (.ref o7), .val (.ref o8), .val (.ref b9), .val (.int (((Q0 + Q1) + Q2) + (0 : Int32))), .val (.int ((3 : Int32) - (((Q0 + Q1) + Q2) + (0 : Int32)))), .val (.int (0 : Int32))]) rfl kz) ?_
        show own_Go p e below s _ _ (T92.setTop (mkF m 215 #[.val (.long c0), .second, .val (.long c1), .second, .val (.long c2), .second, .val (.long c3), .second, .val (.int pp), .val (.int (3 : Int32)), .val (.long A0), .second, .val (.long A1), .second, .val (.long A2), .second, .val (.long A3), .second, .val (.ref o5), .val (.ref o6), .val (.ref o7), .val (.ref o8), .val (.ref b9), .val (.int (((Q0 + Q1) + Q2) + (0 : Int32))), .val (.int ((3 : Int32) - (((Q0 + Q1) + Q2) + (0 : Int32)))), .val (.int (0 : Int32))] []))
        refine own_by (fun tz kz => XS.aload X92.here hx rfl (hb hby at_215) rfl rfl kz) ?_
        show own_Go p e below s _ _ (T92.setTop (mkF m 217 #[.val (.long c0), .second, .val (.long c1), .second, .val (.long c2), .second, .val (.long c3), .second, .val (.int pp), .val (.int (3 : Int32)), .val (.long A0), .second, .val (.long A1), .second, .val (.long A2), .second, .val (.long A3), .second, .val (.ref o5), .val (.ref o6), .val (.ref o7), .val (.ref o8), .val (.ref b9), .val (.int (((Q0 + Q1) + Q2) + (0 : Int32))), .val (.int ((3 : Int32) - (((Q0 + Q1) + Q2) + (0 : Int32)))), .val (.int (0 : Int32))] [(.ref b9)]))
        have f99 := (f87.keep Kq88)
        obtain ⟨cq100, kq100, q100a, q100b, q100c⟩ := isOf hZ e92 f99
        obtain ⟨_, _, ⟨T100, L100, k100, n100⟩, -, X100, ⟨Lc100, hQ100, l100, y100, z100⟩, st100⟩ := X92.virtualBack hx (y := (⟨"com/example/liftwise/liftwise/eval/arithmetic/Solver$Sides", "isOneSided", "()Z"⟩ : MethodName)) (z := (⟨"com/example/liftwise/liftwise/eval/arithmetic/Solver$Sides", "isOneSided", "()Z"⟩ : MethodName)) hown (mvT hZ (hw _ (List.mem_of_getElem? (i := 80) rfl))) (mvT hZ (hw _ (List.mem_of_getElem? (i := 81) rfl))) (notFace_of_selects (args := #[]) (mvT hZ (hw _ (List.mem_of_getElem? (i := 83) rfl)))) (mvT hZ (hw _ (List.mem_of_getElem? (i := 83) rfl))) (mvT hZ (hw _ (List.mem_of_getElem? (i := 82) rfl))) (by decide) (backOf (W := 0) (rm_one l Z a0 hw [] b9 (own_up A2 (own_up A1 (own_up A0 (0 : Int32)))) (own_dn A2 (own_dn A1 (own_dn A0 (0 : Int32)))) (0 : Int32) T88.heap n0 Fa88 Fb88 (if_neg (fun q => q.elim (fun q => hc200_93 ((own_rel3 A0 A1 A2 A3 hQ0 hQ1 hQ2).1.mp q)) (fun q => hc205_96 ((own_rel3 A0 A1 A2 A3 hQ0 hQ1 hQ2).2.mp q)))).symm) hZ (hw _ (List.mem_of_getElem? (i := 84) rfl)) (hw _ (List.mem_of_getElem? (i := 34) rfl)) (by decide) (by decide)) q100a q100c (g := (mkF m 217 #[.val (.long c0), .second, .val (.long c1), .second, .val (.long c2), .second, .val (.long c3), .second, .val (.int pp), .val (.int (3 : Int32)), .val (.long A0), .second, .val (.long A1), .second, .val (.long A2), .second, .val (.long A3), .second, .val (.ref o5), .val (.ref o6), .val (.ref o7), .val (.ref o8), .val (.ref b9), .val (.int (((Q0 + Q1) + Q2) + (0 : Int32))), .val (.int ((3 : Int32) - (((Q0 + Q1) + Q2) + (0 : Int32)))), .val (.int (0 : Int32))] [(.ref b9)])) rfl (by rw [hml]; rfl) (Steps.refl _) (argsL := []) (rest := []) (lenOf pd_10 rfl) rfl (by show 2 * 0 + _ ≤ _; exact Nat.le_of_eq rfl) (hb hby at_217) (fun _ _ => ⟨rfl, e92, (by decide : ((((((((0 + 2) + 2) + 2) + 2) + 1) + 1) + 1) + 1) + 0 ≤ _), (by decide : ((((((((0 + 8) + 8) + 8) + 8) + 4) + 6) + 6) + 6) + 0 ≤ _)⟩)
        dsimp only [Pt.U, Pt.locs, Pt.cells, Pt.slots] at X100 l100 y100 z100 st100 hQ100
        rw [l100, y100, z100] at X100
        obtain ⟨rfl, Nq100, e100⟩ := hQ100
        have N100 := Fr.app N92 Nq100
        refine own_via st100 ?_
        show own_Go p e below s _ _ (T100.setTop (mkF m 220 #[.val (.long c0), .second, .val (.long c1), .second, .val (.long c2), .second, .val (.long c3), .second, .val (.int pp), .val (.int (3 : Int32)), .val (.long A0), .second, .val (.long A1), .second, .val (.long A2), .second, .val (.long A3), .second, .val (.ref o5), .val (.ref o6), .val (.ref o7), .val (.ref o8), .val (.ref b9), .val (.int (((Q0 + Q1) + Q2) + (0 : Int32))), .val (.int ((3 : Int32) - (((Q0 + Q1) + Q2) + (0 : Int32)))), .val (.int (0 : Int32))] [(.int (0 : Int32))]))
        refine own_by (fun tz kz => XS.iload X100.here hx rfl (hb hby at_220) rfl  kz) ?_
        show own_Go p e below s _ _ (T100.setTop (mkF m 222 #[.val (.long c0), .second, .val (.long c1), .second, .val (.long c2), .second, .val (.long c3), .second, .val (.int pp), .val (.int (3 : Int32)), .val (.long A0), .second, .val (.long A1), .second, .val (.long A2), .second, .val (.long A3), .second, .val (.ref o5), .val (.ref o6), .val (.ref o7), .val (.ref o8), .val (.ref b9), .val (.int (((Q0 + Q1) + Q2) + (0 : Int32))), .val (.int ((3 : Int32) - (((Q0 + Q1) + Q2) + (0 : Int32)))), .val (.int (0 : Int32))] [(.int (0 : Int32)), (.int (0 : Int32))]))
        refine own_by (fun tz kz => XS.icmpNo X100.here hx rfl (hb hby at_222) rfl (teq (by decide : (0 : Int32) = (0 : Int32))).2 kz) ?_
        show own_Go p e below s _ _ (T100.setTop (mkF m 225 #[.val (.long c0), .second, .val (.long c1), .second, .val (.long c2), .second, .val (.long c3), .second, .val (.int pp), .val (.int (3 : Int32)), .val (.long A0), .second, .val (.long A1), .second, .val (.long A2), .second, .val (.long A3), .second, .val (.ref o5), .val (.ref o6), .val (.ref o7), .val (.ref o8), .val (.ref b9), .val (.int (((Q0 + Q1) + Q2) + (0 : Int32))), .val (.int ((3 : Int32) - (((Q0 + Q1) + Q2) + (0 : Int32)))), .val (.int (0 : Int32))] []))
        refine own_by (fun tz kz => XS.iconst X100.here hx rfl (hb hby at_225) kz) ?_
        show own_Go p e below s _ _ (T100.setTop (mkF m 226 #[.val (.long c0), .second, .val (.long c1), .second, .val (.long c2), .second, .val (.long c3), .second, .val (.int pp), .val (.int (3 : Int32)), .val (.long A0), .second, .val (.long A1), .second, .val (.long A2), .second, .val (.long A3), .second, .val (.ref o5), .val (.ref o6), .val (.ref o7), .val (.ref o8), .val (.ref b9), .val (.int (((Q0 + Q1) + Q2) + (0 : Int32))), .val (.int ((3 : Int32) - (((Q0 + Q1) + Q2) + (0 : Int32)))), .val (.int (0 : Int32))] [(.int (1 : Int32))]))
        refine own_by (fun tz kz => XS.goto X100.here hx rfl (pc0 := 226) (pc' := 230) rfl (hb hby at_226) (by decide) (by decide) kz) ?_
        show own_Go p e below s _ _ (T100.setTop (mkF m 230 #[.val (.long c0), .second, .val (.long c1), .second, .val (.long c2), .second, .val (.long c3), .second, .val (.int pp), .val (.int (3 : Int32)), .val (.long A0), .second, .val (.long A1), .second, .val (.long A2), .second, .val (.long A3), .second, .val (.ref o5), .val (.ref o6), .val (.ref o7), .val (.ref o8), .val (.ref b9), .val (.int (((Q0 + Q1) + Q2) + (0 : Int32))), .val (.int ((3 : Int32) - (((Q0 + Q1) + Q2) + (0 : Int32)))), .val (.int (0 : Int32))] [(.int (1 : Int32))]))
        refine own_retI X100 hx hlk (t := .boolean) hret (by simp) rfl (hb hby at_230) ?_ (by decide) (by decide)
        exact ⟨rfl, N100⟩
  · show own_Go p e below s _ _ (T16.setTop (mkF m 72 #[.val (.long c0), .second, .val (.long c1), .second, .val (.long c2), .second, .val (.long c3), .second, .val (.int pp), .val (.int (4 : Int32)), .val (.long A0), .second, .val (.long A1), .second, .val (.long A2), .second, .val (.long A3), .second, .val (.ref o5), .val (.ref o6), .val (.ref o7), .val (.ref o8), .val (.ref b9), .unset, .unset, .unset] []))
    refine own_by (fun tz kz => XS.iload X16.here hx rfl (hb hby at_72) rfl  kz) ?_
    show own_Go p e below s _ _ (T16.setTop (mkF m 74 #[.val (.long c0), .second, .val (.long c1), .second, .val (.long c2), .second, .val (.long c3), .second, .val (.int pp), .val (.int (4 : Int32)), .val (.long A0), .second, .val (.long A1), .second, .val (.long A2), .second, .val (.long A3), .second, .val (.ref o5), .val (.ref o6), .val (.ref o7), .val (.ref o8), .val (.ref b9), .unset, .unset, .unset] [(.int (4 : Int32))]))
    refine own_by (fun tz kz => XS.ifNo X16.here hx rfl (hb hby at_74) rfl ((if0 _ _).trans (tlt (by decide : (0 : Int32) < (4 : Int32))).2.2.2) kz) ?_
    show own_Go p e below s _ _ (T16.setTop (mkF m 77 #[.val (.long c0), .second, .val (.long c1), .second, .val (.long c2), .second, .val (.long c3), .second, .val (.int pp), .val (.int (4 : Int32)), .val (.long A0), .second, .val (.long A1), .second, .val (.long A2), .second, .val (.long A3), .second, .val (.ref o5), .val (.ref o6), .val (.ref o7), .val (.ref o8), .val (.ref b9), .unset, .unset, .unset] []))
    refine own_by (fun tz kz => XS.aload X16.here hx rfl (hb hby at_77) rfl rfl kz) ?_
    show own_Go p e below s _ _ (T16.setTop (mkF m 79 #[.val (.long c0), .second, .val (.long c1), .second, .val (.long c2), .second, .val (.long c3), .second, .val (.int pp), .val (.int (4 : Int32)), .val (.long A0), .second, .val (.long A1), .second, .val (.long A2), .second, .val (.long A3), .second, .val (.ref o5), .val (.ref o6), .val (.ref o7), .val (.ref o8), .val (.ref b9), .unset, .unset, .unset] [(.ref b9)]))
    refine own_by (fun tz kz => XS.aload X16.here hx rfl (hb hby at_79) rfl rfl kz) ?_
    show own_Go p e below s _ _ (T16.setTop (mkF m 81 #[.val (.long c0), .second, .val (.long c1), .second, .val (.long c2), .second, .val (.long c3), .second, .val (.int pp), .val (.int (4 : Int32)), .val (.long A0), .second, .val (.long A1), .second, .val (.long A2), .second, .val (.long A3), .second, .val (.ref o5), .val (.ref o6), .val (.ref o7), .val (.ref o8), .val (.ref b9), .unset, .unset, .unset] [(.ref o5), (.ref b9)]))
    have f101 := ((f10.ext E9).keep Kq16)
    have f102 := (((((Eb5.keep Kq6 nin0).keep Kq7 nin0).keep Kq8 nin0).ext E9).keep Kq16 (ninS ne_o5_b9 nin0))
    have f103 := (((((Ec5.keep Kq6 nin0).keep Kq7 nin0).keep Kq8 nin0).ext E9).keep Kq16 (ninS ne_o5_b9 nin0))
    have f104 := ((Arv.ext f11 E9).keep Kq16 (ninS ne_m5_b9 nin0))
    have f105 := (A9.keep Kq16)
    obtain ⟨cq106, kq106, q106a, q106b, q106c⟩ := isOf hZ e16 f105
    obtain ⟨_, _, ⟨T106, L106, k106, n106⟩, -, X106, ⟨Lc106, hQ106, l106, y106, z106⟩, st106⟩ := X16.virtualBack hx (y := (⟨"com/example/liftwise/liftwise/eval/arithmetic/Solver$Sides", "add", "(Ljava/math/BigInteger;)V"⟩ : MethodName)) (z := (⟨"com/example/liftwise/liftwise/eval/arithmetic/Solver$Sides", "add", "(Ljava/math/BigInteger;)V"⟩ : MethodName)) hown (mvT hZ (hw _ (List.mem_of_getElem? (i := 43) rfl))) (mvT hZ (hw _ (List.mem_of_getElem? (i := 44) rfl))) (notFace_of_selects (args := #[]) (mvT hZ (hw _ (List.mem_of_getElem? (i := 46) rfl)))) (mvT hZ (hw _ (List.mem_of_getElem? (i := 46) rfl))) (mvT hZ (hw _ (List.mem_of_getElem? (i := 45) rfl))) (by decide) (backOf (W := 0) (rm_add l Z a0 hw [] b9 o5 one om ko (own_sg A0) (own_un A0) (0 : Int32) (0 : Int32) (1 : Int32) (1 : Int32) (own_up A0 (0 : Int32)) (own_dn A0 (0 : Int32)) (own_lu A0 (1 : Int32)) (own_uu A0 (1 : Int32)) T16.heap n0 O16 S_ONE E_one Fs_one Fm_one V_one f105 Fa16 Fb16 Fc16 Fd16 g_b9 ⟨m5, kk5, nn5, vv5, f101, f102, f103, f104, Ee5⟩ (own_sg_or _) (own_un_or _) (Or.inr rfl) (Or.inr rfl) rfl rfl rfl rfl) hZ (hw _ (List.mem_of_getElem? (i := 47) rfl)) (hw _ (List.mem_of_getElem? (i := 34) rfl)) (by decide) (by decide)) q106a q106c (g := (mkF m 81 #[.val (.long c0), .second, .val (.long c1), .second, .val (.long c2), .second, .val (.long c3), .second, .val (.int pp), .val (.int (4 : Int32)), .val (.long A0), .second, .val (.long A1), .second, .val (.long A2), .second, .val (.long A3), .second, .val (.ref o5), .val (.ref o6), .val (.ref o7), .val (.ref o8), .val (.ref b9), .unset, .unset, .unset] [(.ref o5), (.ref b9)])) rfl (by rw [hml]; rfl) (Steps.refl _) (argsL := [(.ref o5)]) (rest := []) (lenOf pd_4 rfl) rfl (by show 2 * 0 + _ ≤ _; exact Nat.le_of_eq rfl) (hb hby at_81) (fun _ _ => ⟨rfl, e16, (by decide : (((((0 + 2) + 2) + 2) + 2) + 1) + 1 ≤ _), (by decide : (((((0 + 8) + 8) + 8) + 8) + 4) + 6 ≤ _)⟩)
    dsimp only [Pt.U, Pt.locs, Pt.cells, Pt.slots] at X106 l106 y106 z106 st106 hQ106
    rw [l106, y106, z106] at X106
    obtain ⟨rfl, Nq106, Kq106, Fa106, Fb106, Fc106, Fd106⟩ := hQ106
    have N106 := Fr.app N16 Nq106
    have e106 : T106.heap = T106.heap := rfl
    refine own_via st106 ?_
    have O106 := O16.keep Kq106 (allS g_b9 all0)
    have K106 := K16.trans Kq106 (allS (Or.inr sz_b9) all0)
    show own_Go p e below s _ _ (T106.setTop (mkF m 84 #[.val (.long c0), .second, .val (.long c1), .second, .val (.long c2), .second, .val (.long c3), .second, .val (.int pp), .val (.int (4 : Int32)), .val (.long A0), .second, .val (.long A1), .second, .val (.long A2), .second, .val (.long A3), .second, .val (.ref o5), .val (.ref o6), .val (.ref o7), .val (.ref o8), .val (.ref b9), .unset, .unset, .unset] []))
    refine own_by (fun tz kz => XS.iload X106.here hx rfl (hb hby at_84) rfl  kz) ?_
    show own_Go p e below s _ _ (T106.setTop (mkF m 86 #[.val (.long c0), .second, .val (.long c1), .second, .val (.long c2), .second, .val (.long c3), .second, .val (.int pp), .val (.int (4 : Int32)), .val (.long A0), .second, .val (.long A1), .second, .val (.long A2), .second, .val (.long A3), .second, .val (.ref o5), .val (.ref o6), .val (.ref o7), .val (.ref o8), .val (.ref b9), .unset, .unset, .unset] [(.int (4 : Int32))]))
    refine own_by (fun tz kz => XS.iconst X106.here hx rfl (hb hby at_86) kz) ?_
    show own_Go p e below s _ _ (T106.setTop (mkF m 87 #[.val (.long c0), .second, .val (.long c1), .second, .val (.long c2), .second, .val (.long c3), .second, .val (.int pp), .val (.int (4 : Int32)), .val (.long A0), .second, .val (.long A1), .second, .val (.long A2), .second, .val (.long A3), .second, .val (.ref o5), .val (.ref o6), .val (.ref o7), .val (.ref o8), .val (.ref b9), .unset, .unset, .unset] [(.int (1 : Int32)), (.int (4 : Int32))]))
    refine own_by (fun tz kz => XS.icmpNo X106.here hx rfl (hb hby at_87) rfl (tlt (by decide : (1 : Int32) < (4 : Int32))).2.2.2 kz) ?_
    show own_Go p e below s _ _ (T106.setTop (mkF m 90 #[.val (.long c0), .second, .val (.long c1), .second, .val (.long c2), .second, .val (.long c3), .second, .val (.int pp), .val (.int (4 : Int32)), .val (.long A0), .second, .val (.long A1), .second, .val (.long A2), .second, .val (.long A3), .second, .val (.ref o5), .val (.ref o6), .val (.ref o7), .val (.ref o8), .val (.ref b9), .unset, .unset, .unset] []))
    refine own_by (fun tz kz => XS.aload X106.here hx rfl (hb hby at_90) rfl rfl kz) ?_
    show own_Go p e below s _ _ (T106.setTop (mkF m 92 #[.val (.long c0), .second, .val (.long c1), .second, .val (.long c2), .second, .val (.long c3), .second, .val (.int pp), .val (.int (4 : Int32)), .val (.long A0), .second, .val (.long A1), .second, .val (.long A2), .second, .val (.long A3), .second, .val (.ref o5), .val (.ref o6), .val (.ref o7), .val (.ref o8), .val (.ref b9), .unset, .unset, .unset] [(.ref b9)]))
    refine own_by (fun tz kz => XS.aload X106.here hx rfl (hb hby at_92) rfl rfl kz) ?_
    show own_Go p e below s _ _ (T106.setTop (mkF m 94 #[.val (.long c0), .second, .val (.long c1), .second, .val (.long c2), .second, .val (.long c3), .second, .val (.int pp), .val (.int (4 : Int32)), .val (.long A0), .second, .val (.long A1), .second, .val (.long A2), .second, .val (.long A3), .second, .val (.ref o5), .val (.ref o6), .val (.ref o7), .val (.ref o8), .val (.ref b9), .unset, .unset, .unset] [(.ref o6), (.ref b9)]))
    have f107 := (((f12.ext E9).keep Kq16).keep Kq106)
    have f108 := (((((Eb6.keep Kq7 nin0).keep Kq8 nin0).ext E9).keep Kq16 (ninS ne_o6_b9 nin0)).keep Kq106 (ninS ne_o6_b9 nin0))
    have f109 := (((((Ec6.keep Kq7 nin0).keep Kq8 nin0).ext E9).keep Kq16 (ninS ne_o6_b9 nin0)).keep Kq106 (ninS ne_o6_b9 nin0))
    have f110 := (((Arv.ext f13 E9).keep Kq16 (ninS ne_m6_b9 nin0)).keep Kq106 (ninS ne_m6_b9 nin0))
    have f111 := (f105.keep Kq106)
    obtain ⟨cq112, kq112, q112a, q112b, q112c⟩ := isOf hZ e106 f111
    obtain ⟨_, _, ⟨T112, L112, k112, n112⟩, -, X112, ⟨Lc112, hQ112, l112, y112, z112⟩, st112⟩ := X106.virtualBack hx (y := (⟨"com/example/liftwise/liftwise/eval/arithmetic/Solver$Sides", "add", "(Ljava/math/BigInteger;)V"⟩ : MethodName)) (z := (⟨"com/example/liftwise/liftwise/eval/arithmetic/Solver$Sides", "add", "(Ljava/math/BigInteger;)V"⟩ : MethodName)) hown (mvT hZ (hw _ (List.mem_of_getElem? (i := 43) rfl))) (mvT hZ (hw _ (List.mem_of_getElem? (i := 44) rfl))) (notFace_of_selects (args := #[]) (mvT hZ (hw _ (List.mem_of_getElem? (i := 46) rfl)))) (mvT hZ (hw _ (List.mem_of_getElem? (i := 46) rfl))) (mvT hZ (hw _ (List.mem_of_getElem? (i := 45) rfl))) (by decide) (backOf (W := 0) (rm_add l Z a0 hw [] b9 o6 one om ko (own_sg A1) (own_un A1) (own_up A0 (0 : Int32)) (own_dn A0 (0 : Int32)) (own_lu A0 (1 : Int32)) (own_uu A0 (1 : Int32)) (own_up A1 (own_up A0 (0 : Int32))) (own_dn A1 (own_dn A0 (0 : Int32))) (own_lu A1 (own_lu A0 (1 : Int32))) (own_uu A1 (own_uu A0 (1 : Int32))) T106.heap n0 O106 S_ONE E_one Fs_one Fm_one V_one f111 Fa106 Fb106 Fc106 Fd106 g_b9 ⟨m6, kk6, nn6, vv6, f107, f108, f109, f110, Ee6⟩ (own_sg_or _) (own_un_or _) (own_lu_or A0 (Or.inr rfl)) (own_uu_or A0 (Or.inr rfl)) rfl rfl rfl rfl) hZ (hw _ (List.mem_of_getElem? (i := 47) rfl)) (hw _ (List.mem_of_getElem? (i := 34) rfl)) (by decide) (by decide)) q112a q112c (g := (mkF m 94 #[.val (.long c0), .second, .val (.long c1), .second, .val (.long c2), .second, .val (.long c3), .second, .val (.int pp), .val (.int (4 : Int32)), .val (.long A0), .second, .val (.long A1), .second, .val (.long A2), .second, .val (.long A3), .second, .val (.ref o5), .val (.ref o6), .val (.ref o7), .val (.ref o8), .val (.ref b9), .unset, .unset, .unset] [(.ref o6), (.ref b9)])) rfl (by rw [hml]; rfl) (Steps.refl _) (argsL := [(.ref o6)]) (rest := []) (lenOf pd_4 rfl) rfl (by show 2 * 0 + _ ≤ _; exact Nat.le_of_eq rfl) (hb hby at_94) (fun _ _ => ⟨rfl, e106, (by decide : ((((((0 + 2) + 2) + 2) + 2) + 1) + 1) + 1 ≤ _), (by decide : ((((((0 + 8) + 8) + 8) + 8) + 4) + 6) + 6 ≤ _)⟩)
    dsimp only [Pt.U, Pt.locs, Pt.cells, Pt.slots] at X112 l112 y112 z112 st112 hQ112
    rw [l112, y112, z112] at X112
    obtain ⟨rfl, Nq112, Kq112, Fa112, Fb112, Fc112, Fd112⟩ := hQ112
    have N112 := Fr.app N106 Nq112
    have e112 : T112.heap = T112.heap := rfl
    refine own_via st112 ?_
    have O112 := O106.keep Kq112 (allS g_b9 all0)
    have K112 := K106.trans Kq112 (allS (Or.inr sz_b9) all0)
    show own_Go p e below s _ _ (T112.setTop (mkF m 97 #[.val (.long c0), .second, .val (.long c1), .second, .val (.long c2), .second, .val (.long c3), .second, .val (.int pp), .val (.int (4 : Int32)), .val (.long A0), .second, .val (.long A1), .second, .val (.long A2), .second, .val (.long A3), .second, .val (.ref o5), .val (.ref o6), .val (.ref o7), .val (.ref o8), .val (.ref b9), .unset, .unset, .unset] []))
    refine own_by (fun tz kz => XS.iload X112.here hx rfl (hb hby at_97) rfl  kz) ?_
    show own_Go p e below s _ _ (T112.setTop (mkF m 99 #[.val (.long c0), .second, .val (.long c1), .second, .val (.long c2), .second, .val (.long c3), .second, .val (.int pp), .val (.int (4 : Int32)), .val (.long A0), .second, .val (.long A1), .second, .val (.long A2), .second, .val (.long A3), .second, .val (.ref o5), .val (.ref o6), .val (.ref o7), .val (.ref o8), .val (.ref b9), .unset, .unset, .unset] [(.int (4 : Int32))]))
    refine own_by (fun tz kz => XS.iconst X112.here hx rfl (hb hby at_99) kz) ?_
    show own_Go p e below s _ _ (T112.setTop (mkF m 100 #[.val (.long c0), .second, .val (.long c1), .second, .val (.long c2), .second, .val (.long c3), .second, .val (.int pp), .val (.int (4 : Int32)), .val (.long A0), .second, .val (.long A1), .second, .val (.long A2), .second, .val (.long A3), .second, .val (.ref o5), .val (.ref o6), .val (.ref o7), .val (.ref o8), .val (.ref b9), .unset, .unset, .unset] [(.int (2 : Int32)), (.int (4 : Int32))]))
    refine own_by (fun tz kz => XS.icmpNo X112.here hx rfl (hb hby at_100) rfl (tlt (by decide : (2 : Int32) < (4 : Int32))).2.2.2 kz) ?_
    show own_Go p e below s _ _ (T112.setTop (mkF m 103 #[.val (.long c0), .second, .val (.long c1), .second, .val (.long c2), .second, .val (.long c3), .second, .val (.int pp), .val (.int (4 : Int32)), .val (.long A0), .second, .val (.long A1), .second, .val (.long A2), .second, .val (.long A3), .second, .val (.ref o5), .val (.ref o6), .val (.ref o7), .val (.ref o8), .val (.ref b9), .unset, .unset, .unset] []))
    refine own_by (fun tz kz => XS.aload X112.here hx rfl (hb hby at_103) rfl rfl kz) ?_
    show own_Go p e below s _ _ (T112.setTop (mkF m 105 #[.val (.long c0), .second, .val (.long c1), .second, .val (.long c2), .second, .val (.long c3), .second, .val (.int pp), .val (.int (4 : Int32)), .val (.long A0), .second, .val (.long A1), .second, .val (.long A2), .second, .val (.long A3), .second, .val (.ref o5), .val (.ref o6), .val (.ref o7), .val (.ref o8), .val (.ref b9), .unset, .unset, .unset] [(.ref b9)]))
    refine own_by (fun tz kz => XS.aload X112.here hx rfl (hb hby at_105) rfl rfl kz) ?_
    show own_Go p e below s _ _ (T112.setTop (mkF m 107 #[.val (.long c0), .second, .val (.long c1), .second, .val (.long c2), .second, .val (.long c3), .second, .val (.int pp), .val (.int (4 : Int32)), .val (.long A0), .second, .val (.long A1), .second, .val (.long A2), .second, .val (.long A3), .second, .val (.ref o5), .val (.ref o6), .val (.ref o7), .val (.ref o8), .val (.ref b9), .unset, .unset, .unset] [(.ref o7), (.ref b9)]))
    have f113 := ((((f14.ext E9).keep Kq16).keep Kq106).keep Kq112)
    have f114 := (((((Eb7.keep Kq8 nin0).ext E9).keep Kq16 (ninS ne_o7_b9 nin0)).keep Kq106 (ninS ne_o7_b9 nin0)).keep Kq112 (ninS ne_o7_b9 nin0))
    have f115 := (((((Ec7.keep Kq8 nin0).ext E9).keep Kq16 (ninS ne_o7_b9 nin0)).keep Kq106 (ninS ne_o7_b9 nin0)).keep Kq112 (ninS ne_o7_b9 nin0))
    have f116 := ((((Arv.ext f15 E9).keep Kq16 (ninS ne_m7_b9 nin0)).keep Kq106 (ninS ne_m7_b9 nin0)).keep Kq112 (ninS ne_m7_b9 nin0))
    have f117 := (f111.keep Kq112)
    obtain ⟨cq118, kq118, q118a, q118b, q118c⟩ := isOf hZ e112 f117
    obtain ⟨_, _, ⟨T118, L118, k118, n118⟩, -, X118, ⟨Lc118, hQ118, l118, y118, z118⟩, st118⟩ := X112.virtualBack hx (y := (⟨"com/example/liftwise/liftwise/eval/arithmetic/Solver$Sides", "add", "(Ljava/math/BigInteger;)V"⟩ : MethodName)) (z := (⟨"com/example/liftwise/liftwise/eval/arithmetic/Solver$Sides", "add", "(Ljava/math/BigInteger;)V"⟩ : MethodName)) hown (mvT hZ (hw _ (List.mem_of_getElem? (i := 43) rfl))) (mvT hZ (hw _ (List.mem_of_getElem? (i := 44) rfl))) (notFace_of_selects (args := #[]) (mvT hZ (hw _ (List.mem_of_getElem? (i := 46) rfl)))) (mvT hZ (hw _ (List.mem_of_getElem? (i := 46) rfl))) (mvT hZ (hw _ (List.mem_of_getElem? (i := 45) rfl))) (by decide) (backOf (W := 0) (rm_add l Z a0 hw [] b9 o7 one om ko (own_sg A2) (own_un A2) (own_up A1 (own_up A0 (0 : Int32))) (own_dn A1 (own_dn A0 (0 : Int32))) (own_lu A1 (own_lu A0 (1 : Int32))) (own_uu A1 (own_uu A0 (1 : Int32))) (own_up A2 (own_up A1 (own_up A0 (0 : Int32)))) (own_dn A2 (own_dn A1 (own_dn A0 (0 : Int32)))) (own_lu A2 (own_lu A1 (own_lu A0 (1 : Int32)))) (own_uu A2 (own_uu A1 (own_uu A0 (1 : Int32)))) T112.heap n0 O112 S_ONE E_one Fs_one Fm_one V_one f117 Fa112 Fb112 Fc112 Fd112 g_b9 ⟨m7, kk7, nn7, vv7, f113, f114, f115, f116, Ee7⟩ (own_sg_or _) (own_un_or _) (own_lu_or A1 (own_lu_or A0 (Or.inr rfl))) (own_uu_or A1 (own_uu_or A0 (Or.inr rfl))) rfl rfl rfl rfl) hZ (hw _ (List.mem_of_getElem? (i := 47) rfl)) (hw _ (List.mem_of_getElem? (i := 34) rfl)) (by decide) (by decide)) q118a q118c (g := (mkF m 107 #[.val (.long c0), .second, .val (.long c1), .second, .val (.long c2), .second, .val (.long c3), .second, .val (.int pp), .val (.int (4 : Int32)), .val (.long A0), .second, .val (.long A1), .second, .val (.long A2), .second, .val (.long A3), .second, .val (.ref o5), .val (.ref o6), .val (.ref o7), .val (.ref o8), .val (.ref b9), .unset, .unset, .unset] [(.ref o7), (.ref b9)])) rfl (by rw [hml]; rfl) (Steps.refl _) (argsL := [(.ref o7)]) (rest := []) (lenOf pd_4 rfl) rfl (by show 2 * 0 + _ ≤ _; exact Nat.le_of_eq rfl) (hb hby at_107) (fun _ _ => ⟨rfl, e112, (by decide : (((((((0 + 2) + 2) + 2) + 2) + 1) + 1) + 1) + 1 ≤ _), (by decide : (((((((0 + 8) + 8) + 8) + 8) + 4) + 6) + 6) + 6 ≤ _)⟩)
    dsimp only [Pt.U, Pt.locs, Pt.cells, Pt.slots] at X118 l118 y118 z118 st118 hQ118
    rw [l118, y118, z118] at X118
    obtain ⟨rfl, Nq118, Kq118, Fa118, Fb118, Fc118, Fd118⟩ := hQ118
    have N118 := Fr.app N112 Nq118
    have e118 : T118.heap = T118.heap := rfl
    refine own_via st118 ?_
    have O118 := O112.keep Kq118 (allS g_b9 all0)
    have K118 := K112.trans Kq118 (allS (Or.inr sz_b9) all0)
    show own_Go p e below s _ _ (T118.setTop (mkF m 110 #[.val (.long c0), .second, .val (.long c1), .second, .val (.long c2), .second, .val (.long c3), .second, .val (.int pp), .val (.int (4 : Int32)), .val (.long A0), .second, .val (.long A1), .second, .val (.long A2), .second, .val (.long A3), .second, .val (.ref o5), .val (.ref o6), .val (.ref o7), .val (.ref o8), .val (.ref b9), .unset, .unset, .unset] []))
    refine own_by (fun tz kz => XS.iload X118.here hx rfl (hb hby at_110) rfl  kz) ?_
    show own_Go p e below s _ _ (T118.setTop (mkF m 112 #[.val (.long c0), .second, .val (.long c1), .second, .val (.long c2), .second, .val (.long c3), .second, .val (.int pp), .val (.int (4 : Int32)), .val (.long A0), .second, .val (.long A1), .second, .val (.long A2), .second, .val (.long A3), .second, .val (.ref o5), .val (.ref o6), .val (.ref o7), .val (.ref o8), .val (.ref b9), .unset, .unset, .unset] [(.int (4 : Int32))]))
    refine own_by (fun tz kz => XS.iconst X118.here hx rfl (hb hby at_112) kz) ?_
    show own_Go p e below s _ _ (T118.setTop (mkF m 113 #[.val (.long c0), .second, .val (.long c1), .second, .val (.long c2), .second, .val (.long c3), .second, .val (.int pp), .val (.int (4 : Int32)), .val (.long A0), .second, .val (.long A1), .second, .val (.long A2), .second, .val (.long A3), .second, .val (.ref o5), .val (.ref o6), .val (.ref o7), .val (.ref o8), .val (.ref b9), .unset, .unset, .unset] [(.int (3 : Int32)), (.int (4 : Int32))]))
    refine own_by (fun tz kz => XS.icmpNo X118.here hx rfl (hb hby at_113) rfl (tlt (by decide : (3 : Int32) < (4 : Int32))).2.2.2 kz) ?_
    show own_Go p e below s _ _ (T118.setTop (mkF m 116 #[.val (.long c0), .second, .val (.long c1), .second, .val (.long c2), .second, .val (.long c3), .second, .val (.int pp), .val (.int (4 : Int32)), .val (.long A0), .second, .val (.long A1), .second, .val (.long A2), .second, .val (.long A3), .second, .val (.ref o5), .val (.ref o6), .val (.ref o7), .val (.ref o8), .val (.ref b9), .unset, .unset, .unset] []))
    refine own_by (fun tz kz => XS.aload X118.here hx rfl (hb hby at_116) rfl rfl kz) ?_
    show own_Go p e below s _ _ (T118.setTop (mkF m 118 #[.val (.long c0), .second, .val (.long c1), .second, .val (.long c2), .second, .val (.long c3), .second, .val (.int pp), .val (.int (4 : Int32)), .val (.long A0), .second, .val (.long A1), .second, .val (.long A2), .second, .val (.long A3), .second, .val (.ref o5), .val (.ref o6), .val (.ref o7), .val (.ref o8), .val (.ref b9), .unset, .unset, .unset] [(.ref b9)]))
    refine own_by (fun tz kz => XS.aload X118.here hx rfl (hb hby at_118) rfl rfl kz) ?_
    show own_Go p e below s _ _ (T118.setTop (mkF m 120 #[.val (.long c0), .second, .val (.long c1), .second, .val (.long c2), .second, .val (.long c3), .second, .val (.int pp), .val (.int (4 : Int32)), .val (.long A0), .second, .val (.long A1), .second, .val (.long A2), .second, .val (.long A3), .second, .val (.ref o5), .val (.ref o6), .val (.ref o7), .val (.ref o8), .val (.ref b9), .unset, .unset, .unset] [(.ref o8), (.ref b9)]))
    have f119 := (((((Ea8.ext E9).keep Kq16).keep Kq106).keep Kq112).keep Kq118)
    have f120 := (((((Eb8.ext E9).keep Kq16 (ninS ne_o8_b9 nin0)).keep Kq106 (ninS ne_o8_b9 nin0)).keep Kq112 (ninS ne_o8_b9 nin0)).keep Kq118 (ninS ne_o8_b9 nin0))
    have f121 := (((((Ec8.ext E9).keep Kq16 (ninS ne_o8_b9 nin0)).keep Kq106 (ninS ne_o8_b9 nin0)).keep Kq112 (ninS ne_o8_b9 nin0)).keep Kq118 (ninS ne_o8_b9 nin0))
    have f122 := (((((Arv.ext Ed8 E9).keep Kq16 (ninS ne_m8_b9 nin0)).keep Kq106 (ninS ne_m8_b9 nin0)).keep Kq112 (ninS ne_m8_b9 nin0)).keep Kq118 (ninS ne_m8_b9 nin0))
    have f123 := (f117.keep Kq118)
    obtain ⟨cq124, kq124, q124a, q124b, q124c⟩ := isOf hZ e118 f123
    obtain ⟨_, _, ⟨T124, L124, k124, n124⟩, -, X124, ⟨Lc124, hQ124, l124, y124, z124⟩, st124⟩ := X118.virtualBack hx (y := (⟨"com/example/liftwise/liftwise/eval/arithmetic/Solver$Sides", "add", "(Ljava/math/BigInteger;)V"⟩ : MethodName)) (z := (⟨"com/example/liftwise/liftwise/eval/arithmetic/Solver$Sides", "add", "(Ljava/math/BigInteger;)V"⟩ : MethodName)) hown (mvT hZ (hw _ (List.mem_of_getElem? (i := 43) rfl))) (mvT hZ (hw _ (List.mem_of_getElem? (i := 44) rfl))) (notFace_of_selects (args := #[]) (mvT hZ (hw _ (List.mem_of_getElem? (i := 46) rfl)))) (mvT hZ (hw _ (List.mem_of_getElem? (i := 46) rfl))) (mvT hZ (hw _ (List.mem_of_getElem? (i := 45) rfl))) (by decide) (backOf (W := 0) (rm_add l Z a0 hw [] b9 o8 one om ko (own_sg A3) (own_un A3) (own_up A2 (own_up A1 (own_up A0 (0 : Int32)))) (own_dn A2 (own_dn A1 (own_dn A0 (0 : Int32)))) (own_lu A2 (own_lu A1 (own_lu A0 (1 : Int32)))) (own_uu A2 (own_uu A1 (own_uu A0 (1 : Int32)))) (own_up A3 (own_up A2 (own_up A1 (own_up A0 (0 : Int32))))) (own_dn A3 (own_dn A2 (own_dn A1 (own_dn A0 (0 : Int32))))) (own_lu A3 (own_lu A2 (own_lu A1 (own_lu A0 (1 : Int32))))) (own_uu A3 (own_uu A2 (own_uu A1 (own_uu A0 (1 : Int32))))) T118.heap n0 O118 S_ONE E_one Fs_one Fm_one V_one f123 Fa118 Fb118 Fc118 Fd118 g_b9 ⟨m8, kk8, nn8, vv8, f119, f120, f121, f122, Ee8⟩ (own_sg_or _) (own_un_or _) (own_lu_or A2 (own_lu_or A1 (own_lu_or A0 (Or.inr rfl)))) (own_uu_or A2 (own_uu_or A1 (own_uu_or A0 (Or.inr rfl)))) rfl rfl rfl rfl) hZ (hw _ (List.mem_of_getElem? (i := 47) rfl)) (hw _ (List.mem_of_getElem? (i := 34) rfl)) (by decide) (by decide)) q124a q124c (g := (mkF m 120 #[.val (.long c0), .second, .val (.long c1), .second, .val (.long c2), .second, .val (.long c3), .second, .val (.int pp), .val (.int (4 : Int32)), .val (.long A0), .second, .val (.long A1), .second, .val (.long A2), .second, .val (.long A3), .second, .val (.ref o5), .val (.ref o6), .val (.ref o7), .val (.ref o8), .val (.ref b9), .unset, .unset, .unset] [(.ref o8), (.ref b9)])) rfl (by rw [hml]; rfl) (Steps.refl _) (argsL := [(.ref o8)]) (rest := []) (lenOf pd_4 rfl) rfl (by show 2 * 0 + _ ≤ _; exact Nat.le_of_eq rfl) (hb hby at_120) (fun _ _ => ⟨rfl, e118, (by decide : ((((((((0 + 2) + 2) + 2) + 2) + 1) + 1) + 1) + 1) + 1 ≤ _), (by decide : ((((((((0 + 8) + 8) + 8) + 8) + 4) + 6) + 6) + 6) + 6 ≤ _)⟩)
    dsimp only [Pt.U, Pt.locs, Pt.cells, Pt.slots] at X124 l124 y124 z124 st124 hQ124
    rw [l124, y124, z124] at X124
    obtain ⟨rfl, Nq124, Kq124, Fa124, Fb124, Fc124, Fd124⟩ := hQ124
    have N124 := Fr.app N118 Nq124
    have e124 : T124.heap = T124.heap := rfl
    refine own_via st124 ?_
    have O124 := O118.keep Kq124 (allS g_b9 all0)
    have K124 := K118.trans Kq124 (allS (Or.inr sz_b9) all0)
    show own_Go p e below s _ _ (T124.setTop (mkF m 123 #[.val (.long c0), .second, .val (.long c1), .second, .val (.long c2), .second, .val (.long c3), .second, .val (.int pp), .val (.int (4 : Int32)), .val (.long A0), .second, .val (.long A1), .second, .val (.long A2), .second, .val (.long A3), .second, .val (.ref o5), .val (.ref o6), .val (.ref o7), .val (.ref o8), .val (.ref b9), .unset, .unset, .unset] []))
    refine own_by (fun tz kz => XS.iload X124.here hx rfl (hb hby at_123) rfl  kz) ?_
    show own_Go p e below s _ _ (T124.setTop (mkF m 125 #[.val (.long c0), .second, .val (.long c1), .second, .val (.long c2), .second, .val (.long c3), .second, .val (.int pp), .val (.int (4 : Int32)), .val (.long A0), .second, .val (.long A1), .second, .val (.long A2), .second, .val (.long A3), .second, .val (.ref o5), .val (.ref o6), .val (.ref o7), .val (.ref o8), .val (.ref b9), .unset, .unset, .unset] [(.int (4 : Int32))]))
    refine own_by (fun tz kz => XS.ifNo X124.here hx rfl (hb hby at_125) rfl ((if0 _ _).trans (tlt (by decide : (0 : Int32) < (4 : Int32))).2.2.2) kz) ?_
    show own_Go p e below s _ _ (T124.setTop (mkF m 128 #[.val (.long c0), .second, .val (.long c1), .second, .val (.long c2), .second, .val (.long c3), .second, .val (.int pp), .val (.int (4 : Int32)), .val (.long A0), .second, .val (.long A1), .second, .val (.long A2), .second, .val (.long A3), .second, .val (.ref o5), .val (.ref o6), .val (.ref o7), .val (.ref o8), .val (.ref b9), .unset, .unset, .unset] []))
    refine own_by (fun tz kz => XS.iconst X124.here hx rfl (hb hby at_128) kz) ?_
    show own_Go p e below s _ _ (T124.setTop (mkF m 129 #[.val (.long c0), .second, .val (.long c1), .second, .val (.long c2), .second, .val (.long c3), .second, .val (.int pp), .val (.int (4 : Int32)), .val (.long A0), .second, .val (.long A1), .second, .val (.long A2), .second, .val (.long A3), .second, .val (.ref o5), .val (.ref o6), .val (.ref o7), .val (.ref o8), .val (.ref b9), .unset, .unset, .unset] [(.int (1 : Int32))]))
    refine own_by (fun tz kz => XS.goto X124.here hx rfl (pc0 := 129) (pc' := 133) rfl (hb hby at_129) (by decide) (by decide) kz) ?_
    show own_Go p e below s _ _ (T124.setTop (mkF m 133 #[.val (.long c0), .second, .val (.long c1), .second, .val (.long c2), .second, .val (.long c3), .second, .val (.int pp), .val (.int (4 : Int32)), .val (.long A0), .second, .val (.long A1), .second, .val (.long A2), .second, .val (.long A3), .second, .val (.ref o5), .val (.ref o6), .val (.ref o7), .val (.ref o8), .val (.ref b9), .unset, .unset, .unset] [(.int (1 : Int32))]))
    refine own_by (fun tz kz => XS.lload X124.here hx rfl (hb hby at_133) rfl kz) ?_
    show own_Go p e below s _ _ (T124.setTop (mkF m 135 #[.val (.long c0), .second, .val (.long c1), .second, .val (.long c2), .second, .val (.long c3), .second, .val (.int pp), .val (.int (4 : Int32)), .val (.long A0), .second, .val (.long A1), .second, .val (.long A2), .second, .val (.long A3), .second, .val (.ref o5), .val (.ref o6), .val (.ref o7), .val (.ref o8), .val (.ref b9), .unset, .unset, .unset] [(.long A0), (.int (1 : Int32))]))
    obtain ⟨_, _, ⟨T125, L125, k125, n125⟩, -, X125, ⟨Lc125, hQ125, l125, y125, z125⟩, st125⟩ := Jvm.LawKit.callS X124 hx (y := (⟨"com/example/liftwise/liftwise/eval/arithmetic/SidesIsOneSidedPinLaw", "positive", "(ZJ)I"⟩ : MethodName)) hown (mvT hZ (hw _ (List.mem_of_getElem? (i := 77) rfl))) (mvT hZ (hw _ (List.mem_of_getElem? (i := 78) rfl))) (mvT hZ (hw _ (List.mem_of_getElem? (i := 3) rfl))) (mvT hZ (hw _ (List.mem_of_getElem? (i := 79) rfl))) (by decide) (backOf (W := 0) (rm_ps l Z a0 hw [] (1 : Int32) A0 Q0 T124.heap n0 hQ0) hZ (hw _ (List.mem_of_getElem? (i := 79) rfl)) (hw _ (List.mem_of_getElem? (i := 3) rfl)) (by decide) (by decide)) (g := (mkF m 135 #[.val (.long c0), .second, .val (.long c1), .second, .val (.long c2), .second, .val (.long c3), .second, .val (.int pp), .val (.int (4 : Int32)), .val (.long A0), .second, .val (.long A1), .second, .val (.long A2), .second, .val (.long A3), .second, .val (.ref o5), .val (.ref o6), .val (.ref o7), .val (.ref o8), .val (.ref b9), .unset, .unset, .unset] [(.long A0), (.int (1 : Int32))])) rfl (by rw [hml]; rfl) (argsL := [(.int (1 : Int32)), (.long A0)]) (rest := []) (lenOf pd_9 rfl) rfl (by show 2 * 0 + _ ≤ _; exact Nat.le_of_eq rfl) (hb hby at_135) (fun _ _ => ⟨rfl, e124, (by decide : (((((((((0 + 2) + 2) + 2) + 2) + 1) + 1) + 1) + 1) + 1) + 0 ≤ _), (by decide : (((((((((0 + 8) + 8) + 8) + 8) + 4) + 6) + 6) + 6) + 6) + 0 ≤ _)⟩)
    dsimp only [Pt.U, Pt.locs, Pt.cells, Pt.slots] at X125 l125 y125 z125 st125 hQ125
    rw [l125, y125, z125] at X125
    obtain ⟨rfl, Nq125, e125⟩ := hQ125
    have N125 := Fr.app N124 Nq125
    refine own_by st125 ?_
    show own_Go p e below s _ _ (T125.setTop (mkF m 138 #[.val (.long c0), .second, .val (.long c1), .second, .val (.long c2), .second, .val (.long c3), .second, .val (.int pp), .val (.int (4 : Int32)), .val (.long A0), .second, .val (.long A1), .second, .val (.long A2), .second, .val (.long A3), .second, .val (.ref o5), .val (.ref o6), .val (.ref o7), .val (.ref o8), .val (.ref b9), .unset, .unset, .unset] [(.int Q0)]))
    refine own_by (fun tz kz => XS.iload X125.here hx rfl (hb hby at_138) rfl  kz) ?_
    show own_Go p e below s _ _ (T125.setTop (mkF m 140 #[.val (.long c0), .second, .val (.long c1), .second, .val (.long c2), .second, .val (.long c3), .second, .val (.int pp), .val (.int (4 : Int32)), .val (.long A0), .second, .val (.long A1), .second, .val (.long A2), .second, .val (.long A3), .second, .val (.ref o5), .val (.ref o6), .val (.ref o7), .val (.ref o8), .val (.ref b9), .unset, .unset, .unset] [(.int (4 : Int32)), (.int Q0)]))
    refine own_by (fun tz kz => XS.iconst X125.here hx rfl (hb hby at_140) kz) ?_
    show own_Go p e below s _ _ (T125.setTop (mkF m 141 #[.val (.long c0), .second, .val (.long c1), .second, .val (.long c2), .second, .val (.long c3), .second, .val (.int pp), .val (.int (4 : Int32)), .val (.long A0), .second, .val (.long A1), .second, .val (.long A2), .second, .val (.long A3), .second, .val (.ref o5), .val (.ref o6), .val (.ref o7), .val (.ref o8), .val (.ref b9), .unset, .unset, .unset] [(.int (1 : Int32)), (.int (4 : Int32)), (.int Q0)]))
    refine own_by (fun tz kz => XS.icmpNo X125.here hx rfl (hb hby at_141) rfl (tlt (by decide : (1 : Int32) < (4 : Int32))).2.2.2 kz) ?_
    show own_Go p e below s _ _ (T125.setTop (mkF m 144 #[.val (.long c0), .second, .val (.long c1), .second, .val (.long c2), .second, .val (.long c3), .second, .val (.int pp), .val (.int (4 : Int32)), .val (.long A0), .second, .val (.long A1), .second, .val (.long A2), .second, .val (.long A3), .second, .val (.ref o5), .val (.ref o6), .val (.ref o7), .val (.ref o8), .val (.ref b9), .unset, .unset, .unset] [(.int Q0)]))
    refine own_by (fun tz kz => XS.iconst X125.here hx rfl (hb hby at_144) kz) ?_
    show own_Go p e below s _ _ (T125.setTop (mkF m 145 #[.val (.long c0), .second, .val (.long c1), .second, .val (.long c2), .second, .val (.long c3), .second, .val (.int pp), .val (.int (4 : Int32)), .val (.long A0), .second, .val (.long A1), .second, .val (.long A2), .second, .val (.long A3), .second, .val (.ref o5), .val (.ref o6), .val (.ref o7), .val (.ref o8), .val (.ref b9), .unset, .unset, .unset] [(.int (1 : Int32)), (.int Q0)]))
    refine own_by (fun tz kz => XS.goto X125.here hx rfl (pc0 := 145) (pc' := 149) rfl (hb hby at_145) (by decide) (by decide) kz) ?_
    show own_Go p e below s _ _ (T125.setTop (mkF m 149 #[.val (.long c0), .second, .val (.long c1), .second, .val (.long c2), .second, .val (.long c3), .second, .val (.int pp), .val (.int (4 : Int32)), .val (.long A0), .second, .val (.long A1), .second, .val (.long A2), .second, .val (.long A3), .second, .val (.ref o5), .val (.ref o6), .val (.ref o7), .val (.ref o8), .val (.ref b9), .unset, .unset, .unset] [(.int (1 : Int32)), (.int Q0)]))
    refine own_by (fun tz kz => XS.lload X125.here hx rfl (hb hby at_149) rfl kz) ?_
    show own_Go p e below s _ _ (T125.setTop (mkF m 151 #[.val (.long c0), .second, .val (.long c1), .second, .val (.long c2), .second, .val (.long c3), .second, .val (.int pp), .val (.int (4 : Int32)), .val (.long A0), .second, .val (.long A1), .second, .val (.long A2), .second, .val (.long A3), .second, .val (.ref o5), .val (.ref o6), .val (.ref o7), .val (.ref o8), .val (.ref b9), .unset, .unset, .unset] [(.long A1), (.int (1 : Int32)), (.int Q0)]))
    obtain ⟨_, _, ⟨T126, L126, k126, n126⟩, -, X126, ⟨Lc126, hQ126, l126, y126, z126⟩, st126⟩ := Jvm.LawKit.callS X125 hx (y := (⟨"com/example/liftwise/liftwise/eval/arithmetic/SidesIsOneSidedPinLaw", "positive", "(ZJ)I"⟩ : MethodName)) hown (mvT hZ (hw _ (List.mem_of_getElem? (i := 77) rfl))) (mvT hZ (hw _ (List.mem_of_getElem? (i := 78) rfl))) (mvT hZ (hw _ (List.mem_of_getElem? (i := 3) rfl))) (mvT hZ (hw _ (List.mem_of_getElem? (i := 79) rfl))) (by decide) (backOf (W := 1) (rm_ps l Z a0 hw [] (1 : Int32) A1 Q1 T124.heap n0 hQ1) hZ (hw _ (List.mem_of_getElem? (i := 79) rfl)) (hw _ (List.mem_of_getElem? (i := 3) rfl)) (by decide) (by decide)) (g := (mkF m 151 #[.val (.long c0), .second, .val (.long c1), .second, .val (.long c2), .second, .val (.long c3), .second, .val (.int pp), .val (.int (4 : Int32)), .val (.long A0), .second, .val (.long A1), .second, .val (.long A2), .second, .val (.long A3), .second, .val (.ref o5), .val (.ref o6), .val (.ref o7), .val (.ref o8), .val (.ref b9), .unset, .unset, .unset] [(.long A1), (.int (1 : Int32)), (.int Q0)])) rfl (by rw [hml]; rfl) (argsL := [(.int (1 : Int32)), (.long A1)]) (rest := [(.int Q0)]) (lenOf pd_9 rfl) rfl (by show 2 * 0 + _ ≤ _; exact Nat.le_of_eq rfl) (hb hby at_151) (fun _ _ => ⟨rfl, e125, (by decide : (((((((((0 + 2) + 2) + 2) + 2) + 1) + 1) + 1) + 1) + 1) + 0 ≤ _), (by decide : (((((((((0 + 8) + 8) + 8) + 8) + 4) + 6) + 6) + 6) + 6) + 0 ≤ _)⟩)
    dsimp only [Pt.U, Pt.locs, Pt.cells, Pt.slots] at X126 l126 y126 z126 st126 hQ126
    rw [l126, y126, z126] at X126
    obtain ⟨rfl, Nq126, e126⟩ := hQ126
    have N126 := Fr.app N125 Nq126
    refine own_by st126 ?_
    show own_Go p e below s _ _ (T126.setTop (mkF m 154 #[.val (.long c0), .second, .val (.long c1), .second, .val (.long c2), .second, .val (.long c3), .second, .val (.int pp), .val (.int (4 : Int32)), .val (.long A0), .second, .val (.long A1), .second, .val (.long A2), .second, .val (.long A3), .second, .val (.ref o5), .val (.ref o6), .val (.ref o7), .val (.ref o8), .val (.ref b9), .unset, .unset, .unset] [(.int Q1), (.int Q0)]))
    refine own_by (fun tz kz => XS.iadd X126.here hx rfl (hb hby at_154) rfl kz) ?_
    show own_Go p e below s _ _ (T126.setTop (mkF m 155 #[.val (.long c0), .second, .val (.long c1), .second, .val (.long c2), .second, .val (.long c3), .second, .val (.int pp), .val (.int (4 : Int32)), .val (.long A0), .second, .val (.long A1), .second, .val (.long A2), .second, .val (.long A3), .second, .val (.ref o5), .val (.ref o6), .val (.ref o7), .val (.ref o8), .val (.ref b9), .unset, .unset, .unset] [(.int (Q0 + Q1))]))
    refine own_by (fun tz kz => XS.iload X126.here hx rfl (hb hby at_155) rfl  kz) ?_
    show own_Go p e below s _ _ (T126.setTop (mkF m 157 #[.val (.long c0), .second, .val (.long c1), .second, .val (.long c2), .second, .val (.long c3), .second, .val (.int pp), .val (.int (4 : Int32)), .val (.long A0), .second, .val (.long A1), .second, .val (.long A2), .second, .val (.long A3), .second, .val (.ref o5), .val (.ref o6), .val (.ref o7), .val (.ref o8), .val (.ref b9), .unset, .unset, .unset] [(.int (4 : Int32)), (.int (Q0 + Q1))]))
    refine own_by (fun tz kz => XS.iconst X126.here hx rfl (hb hby at_157) kz) ?_
    show own_Go p e below s _ _ (T126.setTop (mkF m 158 #[.val (.long c0), .second, .val (.long c1), .second, .val (.long c2), .second, .val (.long c3), .second, .val (.int pp), .val (.int (4 : Int32)), .val (.long A0), .second, .val (.long A1), .second, .val (.long A2), .second, .val (.long A3), .second, .val (.ref o5), .val (.ref o6), .val (.ref o7), .val (.ref o8), .val (.ref b9), .unset, .unset, .unset] [(.int (2 : Int32)), (.int (4 : Int32)), (.int (Q0 + Q1))]))
    refine own_by (fun tz kz => XS.icmpNo X126.here hx rfl (hb hby at_158) rfl (tlt (by decide : (2 : Int32) < (4 : Int32))).2.2.2 kz) ?_
    show own_Go p e below s _ _ (T126.setTop (mkF m 161 #[.val (.long c0), .second, .val (.long c1), .second, .val (.long c2), .second, .val (.long c3), .second, .val (.int pp), .val (.int (4 : Int32)), .val (.long A0), .second, .val (.long A1), .second, .val (.long A2), .second, .val (.long A3), .second, .val (.ref o5), .val (.ref o6), .val (.ref o7), .val (.ref o8), .val (.ref b9), .unset, .unset, .unset] [(.int (Q0 + Q1))]))
    refine own_by (fun tz kz => XS.iconst X126.here hx rfl (hb hby at_161) kz) ?_
    show own_Go p e below s _ _ (T126.setTop (mkF m 162 #[.val (.long c0), .second, .val (.long c1), .second, .val (.long c2), .second, .val (.long c3), .second, .val (.int pp), .val (.int (4 : Int32)), .val (.long A0), .second, .val (.long A1), .second, .val (.long A2), .second, .val (.long A3), .second, .val (.ref o5), .val (.ref o6), .val (.ref o7), .val (.ref o8), .val (.ref b9), .unset, .unset, .unset] [(.int (1 : Int32)), (.int (Q0 + Q1))]))
    refine own_by (fun tz kz => XS.goto X126.here hx rfl (pc0 := 162) (pc' := 166) rfl (hb hby at_162) (by decide) (by decide) kz) ?_
    show own_Go p e below s _ _ (T126.setTop (mkF m 166 #[.val (.long c0), .second, .val (.long c1), .second, .val (.long c2), .second, .val (.long c3), .second, .val (.int pp), .val (.int (4 : Int32)), .val (.long A0), .second, .val (.long A1), .second, .val (.long A2), .second, .val (.long A3), .second, .val (.ref o5), .val (.ref o6), .val (.ref o7), .val (.ref o8), .val (.ref b9), .unset, .unset, .unset] [(.int (1 : Int32)), (.int (Q0 + Q1))]))
    refine own_by (fun tz kz => XS.lload X126.here hx rfl (hb hby at_166) rfl kz) ?_
    show own_Go p e below s _ _ (T126.setTop (mkF m 168 #[.val (.long c0), .second, .val (.long c1), .second, .val (.long c2), .second, .val (.long c3), .second, .val (.int pp), .val (.int (4 : Int32)), .val (.long A0), .second, .val (.long A1), .second, .val (.long A2), .second, .val (.long A3), .second, .val (.ref o5), .val (.ref o6), .val (.ref o7), .val (.ref o8), .val (.ref b9), .unset, .unset, .unset] [(.long A2), (.int (1 : Int32)), (.int (Q0 + Q1))]))
    obtain ⟨_, _, ⟨T127, L127, k127, n127⟩, -, X127, ⟨Lc127, hQ127, l127, y127, z127⟩, st127⟩ := Jvm.LawKit.callS X126 hx (y := (⟨"com/example/liftwise/liftwise/eval/arithmetic/SidesIsOneSidedPinLaw", "positive", "(ZJ)I"⟩ : MethodName)) hown (mvT hZ (hw _ (List.mem_of_getElem? (i := 77) rfl))) (mvT hZ (hw _ (List.mem_of_getElem? (i := 78) rfl))) (mvT hZ (hw _ (List.mem_of_getElem? (i := 3) rfl))) (mvT hZ (hw _ (List.mem_of_getElem? (i := 79) rfl))) (by decide) (backOf (W := 1) (rm_ps l Z a0 hw [] (1 : Int32) A2 Q2 T124.heap n0 hQ2) hZ (hw _ (List.mem_of_getElem? (i := 79) rfl)) (hw _ (List.mem_of_getElem? (i := 3) rfl)) (by decide) (by decide)) (g := (mkF m 168 #[.val (.long c0), .second, .val (.long c1), .second, .val (.long c2), .second, .val (.long c3), .second, .val (.int pp), .val (.int (4 : Int32)), .val (.long A0), .second, .val (.long A1), .second, .val (.long A2), .second, .val (.long A3), .second, .val (.ref o5), .val (.ref o6), .val (.ref o7), .val (.ref o8), .val (.ref b9), .unset, .unset, .unset] [(.long A2), (.int (1 : Int32)), (.int (Q0 + Q1))])) rfl (by rw [hml]; rfl) (argsL := [(.int (1 : Int32)), (.long A2)]) (rest := [(.int (Q0 + Q1))]) (lenOf pd_9 rfl) rfl (by show 2 * 0 + _ ≤ _; exact Nat.le_of_eq rfl) (hb hby at_168) (fun _ _ => ⟨rfl, e126, (by decide : (((((((((0 + 2) + 2) + 2) + 2) + 1) + 1) + 1) + 1) + 1) + 0 ≤ _), (by decide : (((((((((0 + 8) + 8) + 8) + 8) + 4) + 6) + 6) + 6) + 6) + 0 ≤ _)⟩)
    dsimp only [Pt.U, Pt.locs, Pt.cells, Pt.slots] at X127 l127 y127 z127 st127 hQ127
    rw [l127, y127, z127] at X127
    obtain ⟨rfl, Nq127, e127⟩ := hQ127
    have N127 := Fr.app N126 Nq127
    refine own_by st127 ?_
    show own_Go p e below s _ _ (T127.setTop (mkF m 171 #[.val (.long c0), .second, .val (.long c1), .second, .val (.long c2), .second, .val (.long c3), .second, .val (.int pp), .val (.int (4 : Int32)), .val (.long A0), .second, .val (.long A1), .second, .val (.long A2), .second, .val (.long A3), .second, .val (.ref o5), .val (.ref o6), .val (.ref o7), .val (.ref o8), .val (.ref b9), .unset, .unset, .unset] [(.int Q2), (.int (Q0 + Q1))]))
    refine own_by (fun tz kz => XS.iadd X127.here hx rfl (hb hby at_171) rfl kz) ?_
    show own_Go p e below s _ _ (T127.setTop (mkF m 172 #[.val (.long c0), .second, .val (.long c1), .second, .val (.long c2), .second, .val (.long c3), .second, .val (.int pp), .val (.int (4 : Int32)), .val (.long A0), .second, .val (.long A1), .second, .val (.long A2), .second, .val (.long A3), .second, .val (.ref o5), .val (.ref o6), .val (.ref o7), .val (.ref o8), .val (.ref b9), .unset, .unset, .unset] [(.int ((Q0 + Q1) + Q2))]))
    refine own_by (fun tz kz => XS.iload X127.here hx rfl (hb hby at_172) rfl  kz) ?_
    show own_Go p e below s _ _ (T127.setTop (mkF m 174 #[.val (.long c0), .second, .val (.long c1), .second, .val (.long c2), .second, .val (.long c3), .second, .val (.int pp), .val (.int (4 : Int32)), .val (.long A0), .second, .val (.long A1), .second, .val (.long A2), .second, .val (.long A3), .second, .val (.ref o5), .val (.ref o6), .val (.ref o7), .val (.ref o8), .val (.ref b9), .unset, .unset, .unset] [(.int (4 : Int32)), (.int ((Q0 + Q1) + Q2))]))
    refine own_by (fun tz kz => XS.iconst X127.here hx rfl (hb hby at_174) kz) ?_
    show own_Go p e below s _ _ (T127.setTop (mkF m 175 #[.val (.long c0), .second, .val (.long c1), .second, .val (.long c2), .second, .val (.long c3), .second, .val (.int pp), .val (.int (4 : Int32)), .val (.long A0), .second, .val (.long A1), .second, .val (.long A2), .second, .val (.long A3), .second, .val (.ref o5), .val (.ref o6), .val (.ref o7), .val (.ref o8), .val (.ref b9), .unset, .unset, .unset] [(.int (3 : Int32)), (.int (4 : Int32)), (.int ((Q0 + Q1) + Q2))]))
    refine own_by (fun tz kz => XS.icmpNo X127.here hx rfl (hb hby at_175) rfl (tlt (by decide : (3 : Int32) < (4 : Int32))).2.2.2 kz) ?_
    show own_Go p e below s _ _ (T127.setTop (mkF m 178 #[.val (.long c0), .second, .val (.long c1), .second, .val (.long c2), .second, .val (.long c3), .second, .val (.int pp), .val (.int (4 : Int32)), .val (.long A0), .second, .val (.long A1), .second, .val (.long A2), .second, .val (.long A3), .second, .val (.ref o5), .val (.ref o6), .val (.ref o7), .val (.ref o8), .val (.ref b9), .unset, .unset, .unset] [(.int ((Q0 + Q1) + Q2))]))
    refine own_by (fun tz kz => XS.iconst X127.here hx rfl (hb hby at_178) kz) ?_
    show own_Go p e below s _ _ (T127.setTop (mkF m 179 #[.val (.long c0), .second, .val (.long c1), .second, .val (.long c2), .second, .val (.long c3), .second, .val (.int pp), .val (.int (4 : Int32)), .val (.long A0), .second, .val (.long A1), .second, .val (.long A2), .second, .val (.long A3), .second, .val (.ref o5), .val (.ref o6), .val (.ref o7), .val (.ref o8), .val (.ref b9), .unset, .unset, .unset] [(.int (1 : Int32)), (.int ((Q0 + Q1) + Q2))]))
    refine own_by (fun tz kz => XS.goto X127.here hx rfl (pc0 := 179) (pc' := 183) rfl (hb hby at_179) (by decide) (by decide) kz) ?_
    show own_Go p e below s _ _ (T127.setTop (mkF m 183 #[.val (.long c0), .second, .val (.long c1), .second, .val (.long c2), .second, .val (.long c3), .second, .val (.int pp), .val (.int (4 : Int32)), .val (.long A0), .second, .val (.long A1), .second, .val (.long A2), .second, .val (.long A3), .second, .val (.ref o5), .val (.ref o6), .val (.ref o7), .val (.ref o8), .val (.ref b9), .unset, .unset, .unset] [(.int (1 : Int32)), (.int ((Q0 + Q1) + Q2))]))
    refine own_by (fun tz kz => XS.lload X127.here hx rfl (hb hby at_183) rfl kz) ?_
    show own_Go p e below s _ _ (T127.setTop (mkF m 185 #[.val (.long c0), .second, .val (.long c1), .second, .val (.long c2), .second, .val (.long c3), .second, .val (.int pp), .val (.int (4 : Int32)), .val (.long A0), .second, .val (.long A1), .second, .val (.long A2), .second, .val (.long A3), .second, .val (.ref o5), .val (.ref o6), .val (.ref o7), .val (.ref o8), .val (.ref b9), .unset, .unset, .unset] [(.long A3), (.int (1 : Int32)), (.int ((Q0 + Q1) + Q2))]))
    obtain ⟨_, _, ⟨T128, L128, k128, n128⟩, -, X128, ⟨Lc128, hQ128, l128, y128, z128⟩, st128⟩ := Jvm.LawKit.callS X127 hx (y := (⟨"com/example/liftwise/liftwise/eval/arithmetic/SidesIsOneSidedPinLaw", "positive", "(ZJ)I"⟩ : MethodName)) hown (mvT hZ (hw _ (List.mem_of_getElem? (i := 77) rfl))) (mvT hZ (hw _ (List.mem_of_getElem? (i := 78) rfl))) (mvT hZ (hw _ (List.mem_of_getElem? (i := 3) rfl))) (mvT hZ (hw _ (List.mem_of_getElem? (i := 79) rfl))) (by decide) (backOf (W := 1) (rm_ps l Z a0 hw [] (1 : Int32) A3 Q3 T124.heap n0 hQ3) hZ (hw _ (List.mem_of_getElem? (i := 79) rfl)) (hw _ (List.mem_of_getElem? (i := 3) rfl)) (by decide) (by decide)) (g := (mkF m 185 #[.val (.long c0), .second, .val (.long c1), .second, .val (.long c2), .second, .val (.long c3), .second, .val (.int pp), .val (.int (4 : Int32)), .val (.long A0), .second, .val (.long A1), .second, .val (.long A2), .second, .val (.long A3), .second, .val (.ref o5), .val (.ref o6), .val (.ref o7), .val (.ref o8), .val (.ref b9), .unset, .unset, .unset] [(.long A3), (.int (1 : Int32)), (.int ((Q0 + Q1) + Q2))])) rfl (by rw [hml]; rfl) (argsL := [(.int (1 : Int32)), (.long A3)]) (rest := [(.int ((Q0 + Q1) + Q2))]) (lenOf pd_9 rfl) rfl (by show 2 * 0 + _ ≤ _; exact Nat.le_of_eq rfl) (hb hby at_185) (fun _ _ => ⟨rfl, e127, (by decide : (((((((((0 + 2) + 2) + 2) + 2) + 1) + 1) + 1) + 1) + 1) + 0 ≤ _), (by decide : (((((((((0 + 8) + 8) + 8) + 8) + 4) + 6) + 6) + 6) + 6) + 0 ≤ _)⟩)
    dsimp only [Pt.U, Pt.locs, Pt.cells, Pt.slots] at X128 l128 y128 z128 st128 hQ128
    rw [l128, y128, z128] at X128
    obtain ⟨rfl, Nq128, e128⟩ := hQ128
    have N128 := Fr.app N127 Nq128
    refine own_by st128 ?_
    show own_Go p e below s _ _ (T128.setTop (mkF m 188 #[.val (.long c0), .second, .val (.long c1), .second, .val (.long c2), .second, .val (.long c3), .second, .val (.int pp), .val (.int (4 : Int32)), .val (.long A0), .second, .val (.long A1), .second, .val (.long A2), .second, .val (.long A3), .second, .val (.ref o5), .val (.ref o6), .val (.ref o7), .val (.ref o8), .val (.ref b9), .unset, .unset, .unset] [(.int Q3), (.int ((Q0 + Q1) + Q2))]))
    refine own_by (fun tz kz => XS.iadd X128.here hx rfl (hb hby at_188) rfl kz) ?_
    show own_Go p e below s _ _ (T128.setTop (mkF m 189 #[.val (.long c0), .second, .val (.long c1), .second, .val (.long c2), .second, .val (.long c3), .second, .val (.int pp), .val (.int (4 : Int32)), .val (.long A0), .second, .val (.long A1), .second, .val (.long A2), .second, .val (.long A3), .second, .val (.ref o5), .val (.ref o6), .val (.ref o7), .val (.ref o8), .val (.ref b9), .unset, .unset, .unset] [(.int (((Q0 + Q1) + Q2) + Q3))]))
    refine own_by (fun tz kz => XS.istore X128.here hx rfl (hb hby at_189) rfl (l' := #[.val (.long c0), .second, .val (.long c1), .second, .val (.long c2), .second, .val (.long c3), .second, .val (.int pp), .val (.int (4 : Int32)), .val (.long A0), .second, .val (.long A1), .second, .val (.long A2), .second, .val (.long A3), .second, .val (.ref o5), .val (.ref o6), .val (.ref o7), .val (.ref o8), .val (.ref b9), .val (.int (((Q0 + Q1) + Q2) + Q3)), .unset, .unset]) rfl kz) ?_
    show own_Go p e below s _ _ (T128.setTop (mkF m 191 #[.val (.long c0), .second, .val (.long c1), .second, .val (.long c2), .second, .val (.long c3), .second, .val (.int pp), .val (.int (4 : Int32)), .val (.long A0), .second, .val (.long A1), .second, .val (.long A2), .second, .val (.long A3), .second, .val (.ref o5), .val (.ref o6), .val (.ref o7), .val (.ref o8), .val (.ref b9), .val (.int (((Q0 + Q1) + Q2) + Q3)), .unset, .unset] []))
    refine own_by (fun tz kz => XS.iload X128.here hx rfl (hb hby at_191) rfl  kz) ?_
    show own_Go p e below s _ _ (T128.setTop (mkF m 193 #[.val (.long c0), .second, .val (.long c1), .second, .val (.long c2), .second, .val (.long c3), .second, .val (.int pp), .val (.int (4 : Int32)), .val (.long A0), .second, .val (.long A1), .second, .val (.long A2), .second, .val (.long A3), .second, .val (.ref o5), .val (.ref o6), .val (.ref o7), .val (.ref o8), .val (.ref b9), .val (.int (((Q0 + Q1) + Q2) + Q3)), .unset, .unset] [(.int (4 : Int32))]))
    refine own_by (fun tz kz => XS.iload X128.here hx rfl (hb hby at_193) rfl  kz) ?_
    show own_Go p e below s _ _ (T128.setTop (mkF m 195 #[.val (.long c0), .second, .val (.long c1), .second, .val (.long c2), .second, .val (.long c3), .second, .val (.int pp), .val (.int (4 : Int32)), .val (.long A0), .second, .val (.long A1), .second, .val (.long A2), .second, .val (.long A3), .second, .val (.ref o5), .val (.ref o6), .val (.ref o7), .val (.ref o8), .val (.ref b9), .val (.int (((Q0 + Q1) + Q2) + Q3)), .unset, .unset] [(.int (((Q0 + Q1) + Q2) + Q3)), (.int (4 : Int32))]))
    refine own_by (fun tz kz => XS.isub X128.here hx rfl (hb hby at_195) rfl kz) ?_
    show own_Go p e below s _ _ (T128.setTop (mkF m 196 #[.val (.long c0), .second, .val (.long c1), .second, .val (.long c2), .second, .val (.long c3), .second, .val (.int pp), .val (.int (4 : Int32)), .val (.long A0), .second, .val (.long A1), .second, .val (.long A2), .second, .val (.long A3), .second, .val (.ref o5), .val (.ref o6), .val (.ref o7), .val (.ref o8), .val (.ref b9), .val (.int (((Q0 + Q1) + Q2) + Q3)), .unset, .unset] [(.int ((4 : Int32) - (((Q0 + Q1) + Q2) + Q3)))]))
    refine own_by (fun tz kz => XS.istore X128.here hx rfl (hb hby at_196) rfl (l' := #[.val (.long c0), .second, .val (.long c1), .second, .val (.long c2), .second, .val (.long c3), .second, .val (.int pp), .val (.int (4 : Int32)), .val (.long A0), .second, .val (.long A1), .second, .val (.long A2), .second, .val (.long A3), .second, .val (.ref o5), .val (.ref o6), .val (.ref o7), .val (.ref o8), .val (.ref b9), .val (.int (((Q0 + Q1) + Q2) + Q3)), .val (.int ((4 : Int32) - (((Q0 + Q1) + Q2) + Q3))), .unset]) rfl kz) ?_
    show own_Go p e below s _ _ (T128.setTop (mkF m 198 #[.val (.long c0), .second, .val (.long c1), .second, .val (.long c2), .second, .val (.long c3), .second, .val (.int pp), .val (.int (4 : Int32)), .val (.long A0), .second, .val (.long A1), .second, .val (.long A2), .second, .val (.long A3), .second, .val (.ref o5), .val (.ref o6), .val (.ref o7), .val (.ref o8), .val (.ref b9), .val (.int (((Q0 + Q1) + Q2) + Q3)), .val (.int ((4 : Int32) - (((Q0 + Q1) + Q2) + Q3))), .unset] []))
    refine own_by (fun tz kz => XS.iload X128.here hx rfl (hb hby at_198) rfl  kz) ?_
    show own_Go p e below s _ _ (T128.setTop (mkF m 200 #[.val (.long c0), .second, .val (.long c1), .second, .val (.long c2), .second, .val (.long c3), .second, .val (.int pp), .val (.int (4 : Int32)), .val (.long A0), .second, .val (.long A1), .second, .val (.long A2), .second, .val (.long A3), .second, .val (.ref o5), .val (.ref o6), .val (.ref o7), .val (.ref o8), .val (.ref b9), .val (.int (((Q0 + Q1) + Q2) + Q3)), .val (.int ((4 : Int32) - (((Q0 + Q1) + Q2) + Q3))), .unset] [(.int (((Q0 + Q1) + Q2) + Q3))]))
    by_cases hc200_129 : (((Q0 + Q1) + Q2) + Q3) = (0 : Int32)
    · refine own_by (fun tz kz => XS.ifYes X128.here hx rfl (pc0 := 200) (pc' := 208) rfl (hb hby at_200) rfl ((if0 _ _).trans (teq hc200_129).1) (by decide) (by decide) kz) ?_
      show own_Go p e below s _ _ (T128.setTop (mkF m 208 #[.val (.long c0), .second, .val (.long c1), .second, .val (.long c2), .second, .val (.long c3), .second, .val (.int pp), .val (.int (4 : Int32)), .val (.long A0), .second, .val (.long A1), .second, .val (.long A2), .second, .val (.long A3), .second, .val (.ref o5), .val (.ref o6), .val (.ref o7), .val (.ref o8), .val (.ref b9), .val (.int (((Q0 + Q1) + Q2) + Q3)), .val (.int ((4 : Int32) - (((Q0 + Q1) + Q2) + Q3))), .unset] []))
      refine own_by (fun tz kz => XS.iconst X128.here hx rfl (hb hby at_208) kz) ?_
      show own_Go p e below s _ _ (T128.setTop (mkF m 209 #[.val (.long c0), .second, .val (.long c1), .second, .val (.long c2), .second, .val (.long c3), .second, .val (.int pp), .val (.int (4 : Int32)), .val (.long A0), .second, .val (.long A1), .second, .val (.long A2), .second, .val (.long A3), .second, .val (.ref o5), .val (.ref o6), .val (.ref o7), .val (.ref o8), .val (.ref b9), .val (.int (((Q0 + Q1) + Q2) + Q3)), .val (.int ((4 : Int32) - (((Q0 + Q1) + Q2) + Q3))), .unset] [(.int (1 : Int32))]))
      refine own_by (fun tz kz => XS.goto X128.here hx rfl (pc0 := 209) (pc' := 213) rfl (hb hby at_209) (by decide) (by decide) kz) ?_
      show own_Go p e below s _ _ (T128.setTop (mkF m 213 #[.val (.long c0), .second, .val (.long c1), .second, .val (.long c2), .second, .val (.long c3), .second, .val (.int pp), .val (.int (4 : Int32)), .val (.long A0), .second, .val (.long A1), .second, .val (.long A2), .second, .val (.long A3), .second, .val (.ref o5), .val (.ref o6), .val (.ref o7), .val (.ref o8), .val (.ref b9), .val (.int (((Q0 + Q1) + Q2) + Q3)), .val (.int ((4 : Int32) - (((Q0 + Q1) + Q2) + Q3))), .unset] [(.int (1 : Int32))]))
      refine own_by (fun tz kz => XS.istore X128.here hx rfl (hb hby at_213) rfl (l' := #[.val (.long c0), .second, .val (.long c1), .second, .val (.long c2), .second, .val (.long c3), .second, .val (.int pp), .val (.int (4 : Int32)), .val (.long A0), .second, .val (.long A1), .second, .val (.long A2), .second, .val (.long A3), .second, .val (.ref o5), .val (.ref o6), .val (.ref o7), .val (.ref o8), .val (.ref b9), .val (.int (((Q0 + Q1) + Q2) + Q3)), .val (.int ((4 : Int32) - (((Q0 + Q1) + Q2) + Q3))), .val (.int (1 : Int32))]) rfl kz) ?_
      show own_Go p e below s _ _ (T128.setTop (mkF m 215 #[.val (.long c0), .second, .val (.long c1), .second, .val (.long c2), .second, .val (.long c3), .second, .val (.int pp), .val (.int (4 : Int32)), .val (.long A0), .second, .val (.long A1), .second, .val (.long A2), .second, .val (.long A3), .second, .val (.ref o5), .val (.ref o6), .val (.ref o7), .val (.ref o8), .val (.ref b9), .val (.int (((Q0 + Q1) + Q2) + Q3)), .val (.int ((4 : Int32) - (((Q0 + Q1) + Q2) + Q3))), .val (.int (1 : Int32))] []))
      refine own_by (fun tz kz => XS.aload X128.here hx rfl (hb hby at_215) rfl rfl kz) ?_
      show own_Go p e below s _ _ (T128.setTop (mkF m 217 #[.val (.long c0), .second, .val (.long c1), .second, .val (.long c2), .second, .val (.long c3), .second, .val (.int pp), .val (.int (4 : Int32)), .val (.long A0), .second, .val (.long A1), .second, .val (.long A2), .second, .val (.long A3), .second, .val (.ref o5), .val (.ref o6), .val (.ref o7), .val (.ref o8), .val (.ref b9), .val (.int (((Q0 + Q1) + Q2) + Q3)), .val (.int ((4 : Int32) - (((Q0 + Q1) + Q2) + Q3))), .val (.int (1 : Int32))] [(.ref b9)]))
      have f130 := (f123.keep Kq124)
      obtain ⟨cq131, kq131, q131a, q131b, q131c⟩ := isOf hZ e128 f130
      obtain ⟨_, _, ⟨T131, L131, k131, n131⟩, -, X131, ⟨Lc131, hQ131, l131, y131, z131⟩, st131⟩ := X128.virtualBack hx (y := (⟨"com/example/liftwise/liftwise/eval/arithmetic/Solver$Sides", "isOneSided", "()Z"⟩ : MethodName)) (z := (⟨"com/example/liftwise/liftwise/eval/arithmetic/Solver$Sides", "isOneSided", "()Z"⟩ : MethodName)) hown (mvT hZ (hw _ (List.mem_of_getElem? (i := 80) rfl))) (mvT hZ (hw _ (List.mem_of_getElem? (i := 81) rfl))) (notFace_of_selects (args := #[]) (mvT hZ (hw _ (List.mem_of_getElem? (i := 83) rfl)))) (mvT hZ (hw _ (List.mem_of_getElem? (i := 83) rfl))) (mvT hZ (hw _ (List.mem_of_getElem? (i := 82) rfl))) (by decide) (backOf (W := 0) (rm_one l Z a0 hw [] b9 (own_up A3 (own_up A2 (own_up A1 (own_up A0 (0 : Int32))))) (own_dn A3 (own_dn A2 (own_dn A1 (own_dn A0 (0 : Int32))))) (1 : Int32) T124.heap n0 Fa124 Fb124 (if_pos (Or.inl ((own_rel4 A0 A1 A2 A3 hQ0 hQ1 hQ2 hQ3).1.mpr hc200_129))).symm) hZ (hw _ (List.mem_of_getElem? (i := 84) rfl)) (hw _ (List.mem_of_getElem? (i := 34) rfl)) (by decide) (by decide)) q131a q131c (g := (mkF m 217 #[.val (.long c0), .second, .val (.long c1), .second, .val (.long c2), .second, .val (.long c3), .second, .val (.int pp), .val (.int (4 : Int32)), .val (.long A0), .second, .val (.long A1), .second, .val (.long A2), .second, .val (.long A3), .second, .val (.ref o5), .val (.ref o6), .val (.ref o7), .val (.ref o8), .val (.ref b9), .val (.int (((Q0 + Q1) + Q2) + Q3)), .val (.int ((4 : Int32) - (((Q0 + Q1) + Q2) + Q3))), .val (.int (1 : Int32))] [(.ref b9)])) rfl (by rw [hml]; rfl) (Steps.refl _) (argsL := []) (rest := []) (lenOf pd_10 rfl) rfl (by show 2 * 0 + _ ≤ _; exact Nat.le_of_eq rfl) (hb hby at_217) (fun _ _ => ⟨rfl, e128, (by decide : (((((((((0 + 2) + 2) + 2) + 2) + 1) + 1) + 1) + 1) + 1) + 0 ≤ _), (by decide : (((((((((0 + 8) + 8) + 8) + 8) + 4) + 6) + 6) + 6) + 6) + 0 ≤ _)⟩)
      dsimp only [Pt.U, Pt.locs, Pt.cells, Pt.slots] at X131 l131 y131 z131 st131 hQ131
      rw [l131, y131, z131] at X131
      obtain ⟨rfl, Nq131, e131⟩ := hQ131
      have N131 := Fr.app N128 Nq131
      refine own_via st131 ?_
      show own_Go p e below s _ _ (T131.setTop (mkF m 220 #[.val (.long c0), .second, .val (.long c1), .second, .val (.long c2), .second, .val (.long c3), .second, .val (.int pp), .val (.int (4 : Int32)), .val (.long A0), .second, .val (.long A1), .second, .val (.long A2), .second, .val (.long A3), .second, .val (.ref o5), .val (.ref o6), .val (.ref o7), .val (.ref o8), .val (.ref b9), .val (.int (((Q0 + Q1) + Q2) + Q3)), .val (.int ((4 : Int32) - (((Q0 + Q1) + Q2) + Q3))), .val (.int (1 : Int32))] [(.int (1 : Int32))]))
      refine own_by (fun tz kz => XS.iload X131.here hx rfl (hb hby at_220) rfl  kz) ?_
      show own_Go p e below s _ _ (T131.setTop (mkF m 222 #[.val (.long c0), .second, .val (.long c1), .second, .val (.long c2), .second, .val (.long c3), .second, .val (.int pp), .val (.int (4 : Int32)), .val (.long A0), .second, .val (.long A1), .second, .val (.long A2), .second, .val (.long A3), .second, .val (.ref o5), .val (.ref o6), .val (.ref o7), .val (.ref o8), .val (.ref b9), .val (.int (((Q0 + Q1) + Q2) + Q3)), .val (.int ((4 : Int32) - (((Q0 + Q1) + Q2) + Q3))), .val (.int (1 : Int32))] [(.int (1 : Int32)), (.int (1 : Int32))]))
      refine own_by (fun tz kz => XS.icmpNo X131.here hx rfl (hb hby at_222) rfl (teq (by decide : (1 : Int32) = (1 : Int32))).2 kz) ?_
      show own_Go p e below s _ _ (T131.setTop (mkF m 225 #[.val (.long c0), .second, .val (.long c1), .second, .val (.long c2), .second, .val (.long c3), .second, .val (.int pp), .val (.int (4 : Int32)), .val (.long A0), .second, .val (.long A1), .second, .val (.long A2), .second, .val (.long A3), .second, .val (.ref o5), .val (.ref o6), .val (.ref o7), .val (.ref o8), .val (.ref b9), .val (.int (((Q0 + Q1) + Q2) + Q3)), .val (.int ((4 : Int32) - (((Q0 + Q1) + Q2) + Q3))), .val (.int (1 : Int32))] []))
      refine own_by (fun tz kz => XS.iconst X131.here hx rfl (hb hby at_225) kz) ?_
      show own_Go p e below s _ _ (T131.setTop (mkF m 226 #[.val (.long c0), .second, .val (.long c1), .second, .val (.long c2), .second, .val (.long c3), .second, .val (.int pp), .val (.int (4 : Int32)), .val (.long A0), .second, .val (.long A1), .second, .val (.long A2), .second, .val (.long A3), .second, .val (.ref o5), .val (.ref o6), .val (.ref o7), .val (.ref o8), .val (.ref b9), .val (.int (((Q0 + Q1) + Q2) + Q3)), .val (.int ((4 : Int32) - (((Q0 + Q1) + Q2) + Q3))), .val (.int (1 : Int32))] [(.int (1 : Int32))]))
      refine own_by (fun tz kz => XS.goto X131.here hx rfl (pc0 := 226) (pc' := 230) rfl (hb hby at_226) (by decide) (by decide) kz) ?_
      show own_Go p e below s _ _ (T131.setTop (mkF m 230 #[.val (.long c0), .second, .val (.long c1), .second, .val (.long c2), .second, .val (.long c3), .second, .val (.int pp), .val (.int (4 : Int32)), .val (.long A0), .second, .val (.long A1), .second, .val (.long A2), .second, .val (.long A3), .second, .val (.ref o5), .val (.ref o6), .val (.ref o7), .val (.ref o8), .val (.ref b9), .val (.int (((Q0 + Q1) + Q2) + Q3)), .val (.int ((4 : Int32) - (((Q0 + Q1) + Q2) + Q3))), .val (.int (1 : Int32))] [(.int (1 : Int32))]))
      refine own_retI X131 hx hlk (t := .boolean) hret (by simp) rfl (hb hby at_230) ?_ (by decide) (by decide)
      exact ⟨rfl, N131⟩
    · refine own_by (fun tz kz => XS.ifNo X128.here hx rfl (hb hby at_200) rfl ((if0 _ _).trans (feq hc200_129).1) kz) ?_
      show own_Go p e below s _ _ (T128.setTop (mkF m 203 #[.val (.long c0), .second, .val (.long c1), .second, .val (.long c2), .second, .val (.long c3), .second, .val (.int pp), .val (.int (4 : Int32)), .val (.long A0), .second, .val (.long A1), .second, .val (.long A2), .second, .val (.long A3), .second, .val (.ref o5), .val (.ref o6), .val (.ref o7), .val (.ref o8), .val (.ref b9), .val (.int (((Q0 + Q1) + Q2) + Q3)), .val (.int ((4 : Int32) - (((Q0 + Q1) + Q2) + Q3))), .unset] []))
      refine own_by (fun tz kz => XS.iload X128.here hx rfl (hb hby at_203) rfl  kz) ?_
      show own_Go p e below s _ _ (T128.setTop (mkF m 205 #[.val (.long c0), .second, .val (.long c1), .second, .val (.long c2), .second, .val (.long c3), .second, .val (.int pp), .val (.int (4 : Int32)), .val (.long A0), .second, .val (.long A1), .second, .val (.long A2), .second, .val (.long A3), .second, .val (.ref o5), .val (.ref o6), .val (.ref o7), .val (.ref o8), .val (.ref b9), .val (.int (((Q0 + Q1) + Q2) + Q3)), .val (.int ((4 : Int32) - (((Q0 + Q1) + Q2) + Q3))), .unset] [(.int ((4 : Int32) - (((Q0 + Q1) + Q2) + Q3)))]))
      by_cases hc205_132 : ((4 : Int32) - (((Q0 + Q1) + Q2) + Q3)) = (0 : Int32)
      · refine own_by (fun tz kz => XS.ifNo X128.here hx rfl (hb hby at_205) rfl ((if0 _ _).trans (teq hc205_132).2) kz) ?_
        show own_Go p e below s _ _ (T128.setTop (mkF m 208 #[.val (.long c0), .second, .val (.long c1), .second, .val (.long c2), .second, .val (.long c3), .second, .val (.int pp), .val (.int (4 : Int32)), .val (.long A0), .second, .val (.long A1), .second, .val (.long A2), .second, .val (.long A3), .second, .val (.ref o5), .val (.ref o6), .val (.ref o7), .val (.ref o8), .val (.ref b9), .val (.int (((Q0 + Q1) + Q2) + Q3)), .val (.int ((4 : Int32) - (((Q0 + Q1) + Q2) + Q3))), .unset] []))
        refine own_by (fun tz kz => XS.iconst X128.here hx rfl (hb hby at_208) kz) ?_
        show own_Go p e below s _ _ (T128.setTop (mkF m 209 #[.val (.long c0), .second, .val (.long c1), .second, .val (.long c2), .second, .val (.long c3), .second, .val (.int pp), .val (.int (4 : Int32)), .val (.long A0), .second, .val (.long A1), .second, .val (.long A2), .second, .val (.long A3), .second, .val (.ref o5), .val (.ref o6), .val (.ref o7), .val (.ref o8), .val (.ref b9), .val (.int (((Q0 + Q1) + Q2) + Q3)), .val (.int ((4 : Int32) - (((Q0 + Q1) + Q2) + Q3))), .unset] [(.int (1 : Int32))]))
        refine own_by (fun tz kz => XS.goto X128.here hx rfl (pc0 := 209) (pc' := 213) rfl (hb hby at_209) (by decide) (by decide) kz) ?_
        show own_Go p e below s _ _ (T128.setTop (mkF m 213 #[.val (.long c0), .second, .val (.long c1), .second, .val (.long c2), .second, .val (.long c3), .second, .val (.int pp), .val (.int (4 : Int32)), .val (.long A0), .second, .val (.long A1), .second, .val (.long A2), .second, .val (.long A3), .second, .val (.ref o5), .val (.ref o6), .val (.ref o7), .val (.ref o8), .val (.ref b9), .val (.int (((Q0 + Q1) + Q2) + Q3)), .val (.int ((4 : Int32) - (((Q0 + Q1) + Q2) + Q3))), .unset] [(.int (1 : Int32))]))
        refine own_by (fun tz kz => XS.istore X128.here hx rfl (hb hby at_213) rfl (l' := #[.val (.long c0), .second, .val (.long c1), .second, .val (.long c2), .second, .val (.long c3), .second, .val (.int pp), .val (.int (4 : Int32)), .val (.long A0), .second, .val (.long A1), .second, .val (.long A2), .second, .val (.long A3), .second, .val (.ref o5), .val (.ref o6), .val (.ref o7), .val (.ref o8), .val (.ref b9), .val (.int (((Q0 + Q1) + Q2) + Q3)), .val (.int ((4 : Int32) - (((Q0 + Q1) + Q2) + Q3))), .val (.int (1 : Int32))]) rfl kz) ?_
        show own_Go p e below s _ _ (T128.setTop (mkF m 215 #[.val (.long c0), .second, .val (.long c1), .second, .val (.long c2), .second, .val (.long c3), .second, .val (.int pp), .val (.int (4 : Int32)), .val (.long A0), .second, .val (.long A1), .second, .val (.long A2), .second, .val (.long A3), .second, .val (.ref o5), .val (.ref o6), .val (.ref o7), .val (.ref o8), .val (.ref b9), .val (.int (((Q0 + Q1) + Q2) + Q3)), .val (.int ((4 : Int32) - (((Q0 + Q1) + Q2) + Q3))), .val (.int (1 : Int32))] []))
        refine own_by (fun tz kz => XS.aload X128.here hx rfl (hb hby at_215) rfl rfl kz) ?_
        show own_Go p e below s _ _ (T128.setTop (mkF m 217 #[.val (.long c0), .second, .val (.long c1), .second, .val (.long c2), .second, .val (.long c3), .second, .val (.int pp), .val (.int (4 : Int32)), .val (.long A0), .second, .val (.long A1), .second, .val (.long A2), .second, .val (.long A3), .second, .val (.ref o5), .val (.ref o6), .val (.ref o7), .val (.ref o8), .val (.ref b9), .val (.int (((Q0 + Q1) + Q2) + Q3)), .val (.int ((4 : Int32) - (((Q0 + Q1) + Q2) + Q3))), .val (.int (1 : Int32))] [(.ref b9)]))
        have f133 := (f123.keep Kq124)
        obtain ⟨cq134, kq134, q134a, q134b, q134c⟩ := isOf hZ e128 f133
        obtain ⟨_, _, ⟨T134, L134, k134, n134⟩, -, X134, ⟨Lc134, hQ134, l134, y134, z134⟩, st134⟩ := X128.virtualBack hx (y := (⟨"com/example/liftwise/liftwise/eval/arithmetic/Solver$Sides", "isOneSided", "()Z"⟩ : MethodName)) (z := (⟨"com/example/liftwise/liftwise/eval/arithmetic/Solver$Sides", "isOneSided", "()Z"⟩ : MethodName)) hown (mvT hZ (hw _ (List.mem_of_getElem? (i := 80) rfl))) (mvT hZ (hw _ (List.mem_of_getElem? (i := 81) rfl))) (notFace_of_selects (args := #[]) (mvT hZ (hw _ (List.mem_of_getElem? (i := 83) rfl)))) (mvT hZ (hw _ (List.mem_of_getElem? (i := 83) rfl))) (mvT hZ (hw _ (List.mem_of_getElem? (i := 82) rfl))) (by decide) (backOf (W := 0) (rm_one l Z a0 hw [] b9 (own_up A3 (own_up A2 (own_up A1 (own_up A0 (0 : Int32))))) (own_dn A3 (own_dn A2 (own_dn A1 (own_dn A0 (0 : Int32))))) (1 : Int32) T124.heap n0 Fa124 Fb124 (if_pos (Or.inr ((own_rel4 A0 A1 A2 A3 hQ0 hQ1 hQ2 hQ3).2.mpr hc205_132))).symm) hZ (hw _ (List.mem_of_getElem? (i := 84) rfl)) (hw _ (List.mem_of_getElem? (i := 34) rfl)) (by decide) (by decide)) q134a q134c (g := (mkF m 217 #[.val (.long c0), .second, .val (.long c1), .second, .val (.long c2), .second, .val (.long c3), .second, .val (.int pp), .val (.int (4 : Int32)), .val (.long A0), .second, .val (.long A1), .second, .val (.long A2), .second, .val (.long A3), .second, .val (.ref o5), .val (.ref o6), .val (.ref o7), .val (.ref o8), .val (.ref b9), .val (.int (((Q0 + Q1) + Q2) + Q3)), .val (.int ((4 : Int32) - (((Q0 + Q1) + Q2) + Q3))), .val (.int (1 : Int32))] [(.ref b9)])) rfl (by rw [hml]; rfl) (Steps.refl _) (argsL := []) (rest := []) (lenOf pd_10 rfl) rfl (by show 2 * 0 + _ ≤ _; exact Nat.le_of_eq rfl) (hb hby at_217) (fun _ _ => ⟨rfl, e128, (by decide : (((((((((0 + 2) + 2) + 2) + 2) + 1) + 1) + 1) + 1) + 1) + 0 ≤ _), (by decide : (((((((((0 + 8) + 8) + 8) + 8) + 4) + 6) + 6) + 6) + 6) + 0 ≤ _)⟩)
        dsimp only [Pt.U, Pt.locs, Pt.cells, Pt.slots] at X134 l134 y134 z134 st134 hQ134
        rw [l134, y134, z134] at X134
        obtain ⟨rfl, Nq134, e134⟩ := hQ134
        have N134 := Fr.app N128 Nq134
        refine own_via st134 ?_
        show own_Go p e below s _ _ (T134.setTop (mkF m 220 #[.val (.long c0), .second, .val (.long c1), .second, .val (.long c2), .second, .val (.long c3), .second, .val (.int pp), .val (.int (4 : Int32)), .val (.long A0), .second, .val (.long A1), .second, .val (.long A2), .second, .val (.long A3), .second, .val (.ref o5), .val (.ref o6), .val (.ref o7), .val (.ref o8), .val (.ref b9), .val (.int (((Q0 + Q1) + Q2) + Q3)), .val (.int ((4 : Int32) - (((Q0 + Q1) + Q2) + Q3))), .val (.int (1 : Int32))] [(.int (1 : Int32))]))
        refine own_by (fun tz kz => XS.iload X134.here hx rfl (hb hby at_220) rfl  kz) ?_
        show own_Go p e below s _ _ (T134.setTop (mkF m 222 #[.val (.long c0), .second, .val (.long c1), .second, .val (.long c2), .second, .val (.long c3), .second, .val (.int pp), .val (.int (4 : Int32)), .val (.long A0), .second, .val (.long A1), .second, .val (.long A2), .second, .val (.long A3), .second, .val (.ref o5), .val (.ref o6), .val (.ref o7), .val (.ref o8), .val (.ref b9), .val (.int (((Q0 + Q1) + Q2) + Q3)), .val (.int ((4 : Int32) - (((Q0 + Q1) + Q2) + Q3))), .val (.int (1 : Int32))] [(.int (1 : Int32)), (.int (1 : Int32))]))
        refine own_by (fun tz kz => XS.icmpNo X134.here hx rfl (hb hby at_222) rfl (teq (by decide : (1 : Int32) = (1 : Int32))).2 kz) ?_
        show own_Go p e below s _ _ (T134.setTop (mkF m 225 #[.val (.long c0), .second, .val (.long c1), .second, .val (.long c2), .second, .val (.long c3), .second, .val (.int pp), .val (.int (4 : Int32)), .val (.long A0), .second, .val (.long A1), .second, .val (.long A2), .second, .val (.long A3), .second, .val (.ref o5), .val (.ref o6), .val (.ref o7), .val (.ref o8), .val (.ref b9), .val (.int (((Q0 + Q1) + Q2) + Q3)), .val (.int ((4 : Int32) - (((Q0 + Q1) + Q2) + Q3))), .val (.int (1 : Int32))] []))
        refine own_by (fun tz kz => XS.iconst X134.here hx rfl (hb hby at_225) kz) ?_
        show own_Go p e below s _ _ (T134.setTop (mkF m 226 #[.val (.long c0), .second, .val (.long c1), .second, .val (.long c2), .second, .val (.long c3), .second, .val (.int pp), .val (.int (4 : Int32)), .val (.long A0), .second, .val (.long A1), .second, .val (.long A2), .second, .val (.long A3), .second, .val (.ref o5), .val (.ref o6), .val (.ref o7), .val (.ref o8), .val (.ref b9), .val (.int (((Q0 + Q1) + Q2) + Q3)), .val (.int ((4 : Int32) - (((Q0 + Q1) + Q2) + Q3))), .val (.int (1 : Int32))] [(.int (1 : Int32))]))
        refine own_by (fun tz kz => XS.goto X134.here hx rfl (pc0 := 226) (pc' := 230) rfl (hb hby at_226) (by decide) (by decide) kz) ?_
        show own_Go p e below s _ _ (T134.setTop (mkF m 230 #[.val (.long c0), .second, .val (.long c1), .second, .val (.long c2), .second, .val (.long c3), .second, .val (.int pp), .val (.int (4 : Int32)), .val (.long A0), .second, .val (.long A1), .second, .val (.long A2), .second, .val (.long A3), .second, .val (.ref o5), .val (.ref o6), .val (.ref o7), .val (.ref o8), .val (.ref b9), .val (.int (((Q0 + Q1) + Q2) + Q3)), .val (.int ((4 : Int32) - (((Q0 + Q1) + Q2) + Q3))), .val (.int (1 : Int32))] [(.int (1 : Int32))]))
        refine own_retI X134 hx hlk (t := .boolean) hret (by simp) rfl (hb hby at_230) ?_ (by decide) (by decide)
        exact ⟨rfl, N134⟩
      · refine own_by (fun tz kz => XS.ifYes X128.here hx rfl (pc0 := 205) (pc' := 212) rfl (hb hby at_205) rfl ((if0 _ _).trans (feq hc205_132).2) (by decide) (by decide) kz) ?_
        show own_Go p e below s _ _ (T128.setTop (mkF m 212 #[.val (.long c0), .second, .val (.long c1), .second, .val (.long c2), .second, .val (.long c3), .second, .val (.int pp), .val (.int (4 : Int32)), .val (.long A0), .second, .val (.long A1), .second, .val (.long A2), .second, .val (.long A3), .second, .val (.ref o5), .val (.ref o6), .val (.ref o7), .val (.ref o8), .val (.ref b9), .val (.int (((Q0 + Q1) + Q2) + Q3)), .val (.int ((4 : Int32) - (((Q0 + Q1) + Q2) + Q3))), .unset] []))
        refine own_by (fun tz kz => XS.iconst X128.here hx rfl (hb hby at_212) kz) ?_
        show own_Go p e below s _ _ (T128.setTop (mkF m 213 #[.val (.long c0), .second, .val (.long c1), .second, .val (.long c2), .second, .val (.long c3), .second, .val (.int pp), .val (.int (4 : Int32)), .val (.long A0), .second, .val (.long A1), .second, .val (.long A2), .second, .val (.long A3), .second, .val (.ref o5), .val (.ref o6), .val (.ref o7), .val (.ref o8), .val (.ref b9), .val (.int (((Q0 + Q1) + Q2) + Q3)), .val (.int ((4 : Int32) - (((Q0 + Q1) + Q2) + Q3))), .unset] [(.int (0 : Int32))]))
        refine own_by (fun tz kz => XS.istore X128.here hx rfl (hb hby at_213) rfl (l' := #[.val (.long c0), .second, .val (.long c1), .second, .val (.long c2), .second, .val (.long c3), .second, .val (.int pp), .val (.int (4 : Int32)), .val (.long A0), .second, .val (.long A1), .second, .val (.long A2), .second, .val (.long A3), .second, .val (.ref o5), .val (.ref o6), .val (.ref o7), .val (.ref o8), .val (.ref b9), .val (.int (((Q0 + Q1) + Q2) + Q3)), .val (.int ((4 : Int32) - (((Q0 + Q1) + Q2) + Q3))), .val (.int (0 : Int32))]) rfl kz) ?_
        show own_Go p e below s _ _ (T128.setTop (mkF m 215 #[.val (.long c0), .second, .val (.long c1), .second, .val (.long c2), .second, .val (.long c3), .second, .val (.int pp), .val (.int (4 : Int32)), .val (.long A0), .second, .val (.long A1), .second, .val (.long A2), .second, .val (.long A3), .second, .val (.ref o5), .val (.ref o6), .val (.ref o7), .val (.ref o8), .val (.ref b9), .val (.int (((Q0 + Q1) + Q2) + Q3)), .val (.int ((4 : Int32) - (((Q0 + Q1) + Q2) + Q3))), .val (.int (0 : Int32))] []))
        refine own_by (fun tz kz => XS.aload X128.here hx rfl (hb hby at_215) rfl rfl kz) ?_
        show own_Go p e below s _ _ (T128.setTop (mkF m 217 #[.val (.long c0), .second, .val (.long c1), .second, .val (.long c2), .second, .val (.long c3), .second, .val (.int pp), .val (.int (4 : Int32)), .val (.long A0), .second, .val (.long A1), .second, .val (.long A2), .second, .val (.long A3), .second, .val (.ref o5), .val (.ref o6), .val (.ref o7), .val (.ref o8), .val (.ref b9), .val (.int (((Q0 + Q1) + Q2) + Q3)), .val (.int ((4 : Int32) - (((Q0 + Q1) + Q2) + Q3))), .val (.int (0 : Int32))] [(.ref b9)]))
        have f135 := (f123.keep Kq124)
        obtain ⟨cq136, kq136, q136a, q136b, q136c⟩ := isOf hZ e128 f135
        obtain ⟨_, _, ⟨T136, L136, k136, n136⟩, -, X136, ⟨Lc136, hQ136, l136, y136, z136⟩, st136⟩ := X128.virtualBack hx (y := (⟨"com/example/liftwise/liftwise/eval/arithmetic/Solver$Sides", "isOneSided", "()Z"⟩ : MethodName)) (z := (⟨"com/example/liftwise/liftwise/eval/arithmetic/Solver$Sides", "isOneSided", "()Z"⟩ : MethodName)) hown (mvT hZ (hw _ (List.mem_of_getElem? (i := 80) rfl))) (mvT hZ (hw _ (List.mem_of_getElem? (i := 81) rfl))) (notFace_of_selects (args := #[]) (mvT hZ (hw _ (List.mem_of_getElem? (i := 83) rfl)))) (mvT hZ (hw _ (List.mem_of_getElem? (i := 83) rfl))) (mvT hZ (hw _ (List.mem_of_getElem? (i := 82) rfl))) (by decide) (backOf (W := 0) (rm_one l Z a0 hw [] b9 (own_up A3 (own_up A2 (own_up A1 (own_up A0 (0 : Int32))))) (own_dn A3 (own_dn A2 (own_dn A1 (own_dn A0 (0 : Int32))))) (0 : Int32) T124.heap n0 Fa124 Fb124 (if_neg (fun q => q.elim (fun q => hc200_129 ((own_rel4 A0 A1 A2 A3 hQ0 hQ1 hQ2 hQ3).1.mp q)) (fun q => hc205_132 ((own_rel4 A0 A1 A2 A3 hQ0 hQ1 hQ2 hQ3).2.mp q)))).symm) hZ (hw _ (List.mem_of_getElem? (i := 84) rfl)) (hw _ (List.mem_of_getElem? (i := 34) rfl)) (by decide) (by decide)) q136a q136c (g := (mkF m 217 #[.val (.long c0), .second, .val (.long c1), .second, .val (.long c2), .second, .val (.long c3), .second, .val (.int pp), .val (.int (4 : Int32)), .val (.long A0), .second, .val (.long A1), .second, .val (.long A2), .second, .val (.long A3), .second, .val (.ref o5), .val (.ref o6), .val (.ref o7), .val (.ref o8), .val (.ref b9), .val (.int (((Q0 + Q1) + Q2) + Q3)), .val (.int ((4 : Int32) - (((Q0 + Q1) + Q2) + Q3))), .val (.int (0 : Int32))] [(.ref b9)])) rfl (by rw [hml]; rfl) (Steps.refl _) (argsL := []) (rest := []) (lenOf pd_10 rfl) rfl (by show 2 * 0 + _ ≤ _; exact Nat.le_of_eq rfl) (hb hby at_217) (fun _ _ => ⟨rfl, e128, (by decide : (((((((((0 + 2) + 2) + 2) + 2) + 1) + 1) + 1) + 1) + 1) + 0 ≤ _), (by decide : (((((((((0 + 8) + 8) + 8) + 8) + 4) + 6) + 6) + 6) + 6) + 0 ≤ _)⟩)
        dsimp only [Pt.U, Pt.locs, Pt.cells, Pt.slots] at X136 l136 y136 z136 st136 hQ136
        rw [l136, y136, z136] at X136
        obtain ⟨rfl, Nq136, e136⟩ := hQ136
        have N136 := Fr.app N128 Nq136
        refine own_via st136 ?_
        show own_Go p e below s _ _ (T136.setTop (mkF m 220 #[.val (.long c0), .second, .val (.long c1), .second, .val (.long c2), .second, .val (.long c3), .second, .val (.int pp), .val (.int (4 : Int32)), .val (.long A0), .second, .val (.long A1), .second, .val (.long A2), .second, .val (.long A3), .second, .val (.ref o5), .val (.ref o6), .val (.ref o7), .val (.ref o8), .val (.ref b9), .val (.int (((Q0 + Q1) + Q2) + Q3)), .val (.int ((4 : Int32) - (((Q0 + Q1) + Q2) + Q3))), .val (.int (0 : Int32))] [(.int (0 : Int32))]))
        refine own_by (fun tz kz => XS.iload X136.here hx rfl (hb hby at_220) rfl  kz) ?_
        show own_Go p e below s _ _ (T136.setTop (mkF m 222 #[.val (.long c0), .second, .val (.long c1), .second, .val (.long c2), .second, .val (.long c3), .second, .val (.int pp), .val (.int (4 : Int32)), .val (.long A0), .second, .val (.long A1), .second, .val (.long A2), .second, .val (.long A3), .second, .val (.ref o5), .val (.ref o6), .val (.ref o7), .val (.ref o8), .val (.ref b9), .val (.int (((Q0 + Q1) + Q2) + Q3)), .val (.int ((4 : Int32) - (((Q0 + Q1) + Q2) + Q3))), .val (.int (0 : Int32))] [(.int (0 : Int32)), (.int (0 : Int32))]))
        refine own_by (fun tz kz => XS.icmpNo X136.here hx rfl (hb hby at_222) rfl (teq (by decide : (0 : Int32) = (0 : Int32))).2 kz) ?_
        show own_Go p e below s _ _ (T136.setTop (mkF m 225 #[.val (.long c0), .second, .val (.long c1), .second, .val (.long c2), .second, .val (.long c3), .second, .val (.int pp), .val (.int (4 : Int32)), .val (.long A0), .second, .val (.long A1), .second, .val (.long A2), .second, .val (.long A3), .second, .val (.ref o5), .val (.ref o6), .val (.ref o7), .val (.ref o8), .val (.ref b9), .val (.int (((Q0 + Q1) + Q2) + Q3)), .val (.int ((4 : Int32) - (((Q0 + Q1) + Q2) + Q3))), .val (.int (0 : Int32))] []))
        refine own_by (fun tz kz => XS.iconst X136.here hx rfl (hb hby at_225) kz) ?_
        show own_Go p e below s _ _ (T136.setTop (mkF m 226 #[.val (.long c0), .second, .val (.long c1), .second, .val (.long c2), .second, .val (.long c3), .second, .val (.int pp), .val (.int (4 : Int32)), .val (.long A0), .second, .val (.long A1), .second, .val (.long A2), .second, .val (.long A3), .second, .val (.ref o5), .val (.ref o6), .val (.ref o7), .val (.ref o8), .val (.ref b9), .val (.int (((Q0 + Q1) + Q2) + Q3)), .val (.int ((4 : Int32) - (((Q0 + Q1) + Q2) + Q3))), .val (.int (0 : Int32))] [(.int (1 : Int32))]))
        refine own_by (fun tz kz => XS.goto X136.here hx rfl (pc0 := 226) (pc' := 230) rfl (hb hby at_226) (by decide) (by decide) kz) ?_
        show own_Go p e below s _ _ (T136.setTop (mkF m 230 #[.val (.long c0), .second, .val (.long c1), .second, .val (.long c2), .second, .val (.long c3), .second, .val (.int pp), .val (.int (4 : Int32)), .val (.long A0), .second, .val (.long A1), .second, .val (.long A2), .second, .val (.long A3), .second, .val (.ref o5), .val (.ref o6), .val (.ref o7), .val (.ref o8), .val (.ref b9), .val (.int (((Q0 + Q1) + Q2) + Q3)), .val (.int ((4 : Int32) - (((Q0 + Q1) + Q2) + Q3))), .val (.int (0 : Int32))] [(.int (1 : Int32))]))
        refine own_retI X136 hx hlk (t := .boolean) hret (by simp) rfl (hb hby at_230) ?_ (by decide) (by decide)
        exact ⟨rfl, N136⟩
set_option maxRecDepth 65536 in
set_option maxHeartbeats 40000000 in
theorem comes_1 {Post : Tables → Env → Array Value → State → Outcome → State → Prop} (hpost : ∀ tb e args s v u, (limb_1_1.after args s (.returned v) u = true ∧ limb_1_2.after args s (.returned v) u = true ∧ True) → FrameEnd s (.returned v) u (Jvm.fieldLocs frame_1_writes args s ++ Jvm.arrayLocs frame_1_arrays args s ++ Jvm.staticLocs frame_1_statics s) 40 192 → Post tb e args s (.returned v) u) :
    ArmFor flags0 classFile x code maxLocals ret World_1 tables_1 room_1 Calls_1 rest_1 Pre_1 Post := by
  intro l hfl _ _ p e ha hc hk s m args below hf hA hF happ hP
  obtain ⟨hcalls, hrest, hpre⟩ := hP
  obtain ⟨-, -, -, hnamed, -, -, -, hat⟩ := (Spec.applies_iff hf).mp happ
  obtain ⟨hg, hn⟩ := and_e (Cond.before_iff.mp (show (Jvm.Cond.and given_1 narrow_1).before args s = true from hpre))
  obtain ⟨g1a, g1b⟩ := and_e hg
  obtain ⟨g2a, g2b⟩ := and_e g1b
  obtain ⟨g3a, g3b⟩ := and_e g2b
  obtain ⟨g4a, g4b⟩ := and_e g3b
  obtain ⟨g5a, g5b⟩ := and_e g4b
  obtain ⟨w0, w1, w2, w3, w4, rfl⟩ : ∃ w0 w1 w2 w3 w4 : Value, args = #[w0, w1, w2, w3, w4] := by
    have hs : args.size = 5 := by simpa [Cond.value, given_1] using g1a
    obtain ⟨L⟩ := args
    match L, hs with
    | [w0, w1, w2, w3, w4], _ => exact ⟨w0, w1, w2, w3, w4, rfl⟩
  have hw := fun d (hd : d ∈ tables_1) => atoms_spec (ws := Jvm.Cond.code x code maxLocals ret :: tables_1) hat d (List.mem_cons_of_mem _ hd)
  have hfit : Fit s := fun {y c} hc i hi => by
    obtain ⟨ha, rfl⟩ := Array.getElem?_eq_some_iff.mp hc
    have q := List.all_eq_true.mp ((Array.all_eq_true_iff_forall_mem.mp hF) _ (Array.getElem_mem ha)) i (List.mem_range.mpr hi)
    simpa [Array.getElem?_eq_getElem hi] using q
  obtain ⟨i0, ei0⟩ := isL_v g2a
  obtain rfl : w0 = (.long i0) := Option.some.inj ei0
  obtain ⟨i1, ei1⟩ := isL_v g3a
  obtain rfl : w1 = (.long i1) := Option.some.inj ei1
  obtain ⟨i2, ei2⟩ := isL_v g4a
  obtain rfl : w2 = (.long i2) := Option.some.inj ei2
  obtain ⟨i3, ei3⟩ := isL_v g5a
  obtain rfl : w3 = (.long i3) := Option.some.inj ei3
  obtain ⟨i4, ei4⟩ := is_v g5b
  obtain rfl : w4 = (.int i4) := Option.some.inj ei4
  obtain ⟨hsets, hown0⟩ := atoms_of _ (show (jdkStatics_1.foldr Jvm.Cond.and restOwn_1).before _ s = true from (show rest_1_c.before _ s = true from hrest))
  have h_posConst := (Cond.before_iff.mp (hsets _ (List.mem_of_getElem? (i := 8) rfl)))
  obtain ⟨a_posConst, ev_posConst⟩ := arr_v h_posConst
  have S_posConst : Sta s s.heap "java/math/BigInteger" "posConst" "[Ljava/math/BigInteger;" (.ref a_posConst) := Sta.start ev_posConst (Or.inl (hsets _ (List.mem_of_getElem? (i := 1) rfl)))
  obtain ⟨c_posConst, A_posConst⟩ := Arr.start ev_posConst h_posConst
  have hl_posConst := eqv_i (Term.int_eval (17)) (Cond.before_iff.mp (hsets _ (List.mem_of_getElem? (i := 10) rfl)))
  obtain ⟨_, _, le1, le2, le3⟩ := Term.length_spec hl_posConst
  cases ev_posConst.symm.trans le1
  cases (State.arrayAt?_spec le2).1.symm.trans A_posConst.1
  have sz_posConst : c_posConst.slots.size = (17 : Int32).toNatClampNeg := by
    have q := own_len31 hl_posConst ev_posConst A_posConst.1
    have z : c_posConst.slots.size.toInt32 = (17 : Int32) := (Value.int.inj le3).symm
    rw [← z]; simp only [Int32.toNatClampNeg, len_toInt q]; rfl
  obtain ⟨o_posConst_1, ev_posConst_1⟩ := exa_v (Cond.before_iff.mp (hsets _ (List.mem_of_getElem? (i := 12) rfl)))
  have E_posConst_1 : Exa s s.heap o_posConst_1 "java/math/BigInteger" := Exa.start ev_posConst_1 (Cond.before_iff.mp (hsets _ (List.mem_of_getElem? (i := 12) rfl)))
  have F_posConst_1 : Fld s s.heap o_posConst_1 "java/math/BigInteger" "signum" "I" (.int (1 : Int32)) := Fld.start ((fld_at ev_posConst_1).symm.trans (eqv_i (Term.int_eval (1)) (Cond.before_iff.mp (hsets _ (List.mem_of_getElem? (i := 13) rfl)))))
  have hm_posConst_1 := (Cond.before_iff.mp (hsets _ (List.mem_of_getElem? (i := 14) rfl)))
  obtain ⟨m_posConst_1, em_posConst_1⟩ := arr_v hm_posConst_1
  have G_posConst_1 : Fld s s.heap o_posConst_1 "java/math/BigInteger" "mag" "[I" (.ref m_posConst_1) := Fld.start ((fld_at ev_posConst_1).symm.trans em_posConst_1)
  obtain ⟨cm_posConst_1, Am_posConst_1⟩ := Arr.start em_posConst_1 hm_posConst_1
  have lm_posConst_1 := eqv_i (Term.int_eval (1)) (Cond.before_iff.mp (hsets _ (List.mem_of_getElem? (i := 16) rfl)))
  obtain ⟨_, _, le1, le2, le3⟩ := Term.length_spec lm_posConst_1
  cases em_posConst_1.symm.trans le1
  cases (State.arrayAt?_spec le2).1.symm.trans Am_posConst_1.1
  have V_posConst_1 : Arv s s.heap m_posConst_1 cm_posConst_1.cls .int (1 : Int32) [.int (1 : Int32)] (.int (0 : Int32)) := Arv.start hfit Am_posConst_1 (own_len31 lm_posConst_1 em_posConst_1 Am_posConst_1.1) (Value.int.inj le3).symm (by decide) rfl ⟨(elem_in (eqv_i (Term.int_eval (1)) (Cond.before_iff.mp (hsets _ (List.mem_of_getElem? (i := 17) rfl)))) em_posConst_1 (Term.int_eval (0)) Am_posConst_1.1).2, trivial⟩
  have B_posConst_1 : own_Big s s.heap o_posConst_1 (1 : Int32) (if (1 : Int32) = (1 : Int32) then (1 : Int32) else (0 : Int32)) := ⟨m_posConst_1, cm_posConst_1.cls, _, _, E_posConst_1, F_posConst_1, G_posConst_1, V_posConst_1, Or.inl ⟨rfl, _, rfl, rfl⟩⟩
  have el_posConst_1 := (elem_in ev_posConst_1 ev_posConst (Term.int_eval (1)) A_posConst.1).2
  obtain ⟨o_posConst_2, ev_posConst_2⟩ := exa_v (Cond.before_iff.mp (hsets _ (List.mem_of_getElem? (i := 19) rfl)))
  have E_posConst_2 : Exa s s.heap o_posConst_2 "java/math/BigInteger" := Exa.start ev_posConst_2 (Cond.before_iff.mp (hsets _ (List.mem_of_getElem? (i := 19) rfl)))
  have F_posConst_2 : Fld s s.heap o_posConst_2 "java/math/BigInteger" "signum" "I" (.int (1 : Int32)) := Fld.start ((fld_at ev_posConst_2).symm.trans (eqv_i (Term.int_eval (1)) (Cond.before_iff.mp (hsets _ (List.mem_of_getElem? (i := 20) rfl)))))
  have hm_posConst_2 := (Cond.before_iff.mp (hsets _ (List.mem_of_getElem? (i := 21) rfl)))
  obtain ⟨m_posConst_2, em_posConst_2⟩ := arr_v hm_posConst_2
  have G_posConst_2 : Fld s s.heap o_posConst_2 "java/math/BigInteger" "mag" "[I" (.ref m_posConst_2) := Fld.start ((fld_at ev_posConst_2).symm.trans em_posConst_2)
  obtain ⟨cm_posConst_2, Am_posConst_2⟩ := Arr.start em_posConst_2 hm_posConst_2
  have lm_posConst_2 := eqv_i (Term.int_eval (1)) (Cond.before_iff.mp (hsets _ (List.mem_of_getElem? (i := 23) rfl)))
  obtain ⟨_, _, le1, le2, le3⟩ := Term.length_spec lm_posConst_2
  cases em_posConst_2.symm.trans le1
  cases (State.arrayAt?_spec le2).1.symm.trans Am_posConst_2.1
  have V_posConst_2 : Arv s s.heap m_posConst_2 cm_posConst_2.cls .int (1 : Int32) [.int (2 : Int32)] (.int (0 : Int32)) := Arv.start hfit Am_posConst_2 (own_len31 lm_posConst_2 em_posConst_2 Am_posConst_2.1) (Value.int.inj le3).symm (by decide) rfl ⟨(elem_in (eqv_i (Term.int_eval (2)) (Cond.before_iff.mp (hsets _ (List.mem_of_getElem? (i := 24) rfl)))) em_posConst_2 (Term.int_eval (0)) Am_posConst_2.1).2, trivial⟩
  have B_posConst_2 : own_Big s s.heap o_posConst_2 (1 : Int32) (if (2 : Int32) = (1 : Int32) then (1 : Int32) else (0 : Int32)) := ⟨m_posConst_2, cm_posConst_2.cls, _, _, E_posConst_2, F_posConst_2, G_posConst_2, V_posConst_2, Or.inl ⟨rfl, _, rfl, rfl⟩⟩
  have el_posConst_2 := (elem_in ev_posConst_2 ev_posConst (Term.int_eval (2)) A_posConst.1).2
  obtain ⟨o_posConst_3, ev_posConst_3⟩ := exa_v (Cond.before_iff.mp (hsets _ (List.mem_of_getElem? (i := 25) rfl)))
  have E_posConst_3 : Exa s s.heap o_posConst_3 "java/math/BigInteger" := Exa.start ev_posConst_3 (Cond.before_iff.mp (hsets _ (List.mem_of_getElem? (i := 25) rfl)))
  have F_posConst_3 : Fld s s.heap o_posConst_3 "java/math/BigInteger" "signum" "I" (.int (1 : Int32)) := Fld.start ((fld_at ev_posConst_3).symm.trans (eqv_i (Term.int_eval (1)) (Cond.before_iff.mp (hsets _ (List.mem_of_getElem? (i := 26) rfl)))))
  have hm_posConst_3 := (Cond.before_iff.mp (hsets _ (List.mem_of_getElem? (i := 27) rfl)))
  obtain ⟨m_posConst_3, em_posConst_3⟩ := arr_v hm_posConst_3
  have G_posConst_3 : Fld s s.heap o_posConst_3 "java/math/BigInteger" "mag" "[I" (.ref m_posConst_3) := Fld.start ((fld_at ev_posConst_3).symm.trans em_posConst_3)
  obtain ⟨cm_posConst_3, Am_posConst_3⟩ := Arr.start em_posConst_3 hm_posConst_3
  have lm_posConst_3 := eqv_i (Term.int_eval (1)) (Cond.before_iff.mp (hsets _ (List.mem_of_getElem? (i := 29) rfl)))
  obtain ⟨_, _, le1, le2, le3⟩ := Term.length_spec lm_posConst_3
  cases em_posConst_3.symm.trans le1
  cases (State.arrayAt?_spec le2).1.symm.trans Am_posConst_3.1
  have V_posConst_3 : Arv s s.heap m_posConst_3 cm_posConst_3.cls .int (1 : Int32) [.int (3 : Int32)] (.int (0 : Int32)) := Arv.start hfit Am_posConst_3 (own_len31 lm_posConst_3 em_posConst_3 Am_posConst_3.1) (Value.int.inj le3).symm (by decide) rfl ⟨(elem_in (eqv_i (Term.int_eval (3)) (Cond.before_iff.mp (hsets _ (List.mem_of_getElem? (i := 30) rfl)))) em_posConst_3 (Term.int_eval (0)) Am_posConst_3.1).2, trivial⟩
  have B_posConst_3 : own_Big s s.heap o_posConst_3 (1 : Int32) (if (3 : Int32) = (1 : Int32) then (1 : Int32) else (0 : Int32)) := ⟨m_posConst_3, cm_posConst_3.cls, _, _, E_posConst_3, F_posConst_3, G_posConst_3, V_posConst_3, Or.inl ⟨rfl, _, rfl, rfl⟩⟩
  have el_posConst_3 := (elem_in ev_posConst_3 ev_posConst (Term.int_eval (3)) A_posConst.1).2
  obtain ⟨o_posConst_4, ev_posConst_4⟩ := exa_v (Cond.before_iff.mp (hsets _ (List.mem_of_getElem? (i := 31) rfl)))
  have E_posConst_4 : Exa s s.heap o_posConst_4 "java/math/BigInteger" := Exa.start ev_posConst_4 (Cond.before_iff.mp (hsets _ (List.mem_of_getElem? (i := 31) rfl)))
  have F_posConst_4 : Fld s s.heap o_posConst_4 "java/math/BigInteger" "signum" "I" (.int (1 : Int32)) := Fld.start ((fld_at ev_posConst_4).symm.trans (eqv_i (Term.int_eval (1)) (Cond.before_iff.mp (hsets _ (List.mem_of_getElem? (i := 32) rfl)))))
  have hm_posConst_4 := (Cond.before_iff.mp (hsets _ (List.mem_of_getElem? (i := 33) rfl)))
  obtain ⟨m_posConst_4, em_posConst_4⟩ := arr_v hm_posConst_4
  have G_posConst_4 : Fld s s.heap o_posConst_4 "java/math/BigInteger" "mag" "[I" (.ref m_posConst_4) := Fld.start ((fld_at ev_posConst_4).symm.trans em_posConst_4)
  obtain ⟨cm_posConst_4, Am_posConst_4⟩ := Arr.start em_posConst_4 hm_posConst_4
  have lm_posConst_4 := eqv_i (Term.int_eval (1)) (Cond.before_iff.mp (hsets _ (List.mem_of_getElem? (i := 35) rfl)))
  obtain ⟨_, _, le1, le2, le3⟩ := Term.length_spec lm_posConst_4
  cases em_posConst_4.symm.trans le1
  cases (State.arrayAt?_spec le2).1.symm.trans Am_posConst_4.1
  have V_posConst_4 : Arv s s.heap m_posConst_4 cm_posConst_4.cls .int (1 : Int32) [.int (4 : Int32)] (.int (0 : Int32)) := Arv.start hfit Am_posConst_4 (own_len31 lm_posConst_4 em_posConst_4 Am_posConst_4.1) (Value.int.inj le3).symm (by decide) rfl ⟨(elem_in (eqv_i (Term.int_eval (4)) (Cond.before_iff.mp (hsets _ (List.mem_of_getElem? (i := 36) rfl)))) em_posConst_4 (Term.int_eval (0)) Am_posConst_4.1).2, trivial⟩
  have B_posConst_4 : own_Big s s.heap o_posConst_4 (1 : Int32) (if (4 : Int32) = (1 : Int32) then (1 : Int32) else (0 : Int32)) := ⟨m_posConst_4, cm_posConst_4.cls, _, _, E_posConst_4, F_posConst_4, G_posConst_4, V_posConst_4, Or.inl ⟨rfl, _, rfl, rfl⟩⟩
  have el_posConst_4 := (elem_in ev_posConst_4 ev_posConst (Term.int_eval (4)) A_posConst.1).2
  obtain ⟨o_posConst_5, ev_posConst_5⟩ := exa_v (Cond.before_iff.mp (hsets _ (List.mem_of_getElem? (i := 37) rfl)))
  have E_posConst_5 : Exa s s.heap o_posConst_5 "java/math/BigInteger" := Exa.start ev_posConst_5 (Cond.before_iff.mp (hsets _ (List.mem_of_getElem? (i := 37) rfl)))
  have F_posConst_5 : Fld s s.heap o_posConst_5 "java/math/BigInteger" "signum" "I" (.int (1 : Int32)) := Fld.start ((fld_at ev_posConst_5).symm.trans (eqv_i (Term.int_eval (1)) (Cond.before_iff.mp (hsets _ (List.mem_of_getElem? (i := 38) rfl)))))
  have hm_posConst_5 := (Cond.before_iff.mp (hsets _ (List.mem_of_getElem? (i := 39) rfl)))
  obtain ⟨m_posConst_5, em_posConst_5⟩ := arr_v hm_posConst_5
  have G_posConst_5 : Fld s s.heap o_posConst_5 "java/math/BigInteger" "mag" "[I" (.ref m_posConst_5) := Fld.start ((fld_at ev_posConst_5).symm.trans em_posConst_5)
  obtain ⟨cm_posConst_5, Am_posConst_5⟩ := Arr.start em_posConst_5 hm_posConst_5
  have lm_posConst_5 := eqv_i (Term.int_eval (1)) (Cond.before_iff.mp (hsets _ (List.mem_of_getElem? (i := 41) rfl)))
  obtain ⟨_, _, le1, le2, le3⟩ := Term.length_spec lm_posConst_5
  cases em_posConst_5.symm.trans le1
  cases (State.arrayAt?_spec le2).1.symm.trans Am_posConst_5.1
  have V_posConst_5 : Arv s s.heap m_posConst_5 cm_posConst_5.cls .int (1 : Int32) [.int (5 : Int32)] (.int (0 : Int32)) := Arv.start hfit Am_posConst_5 (own_len31 lm_posConst_5 em_posConst_5 Am_posConst_5.1) (Value.int.inj le3).symm (by decide) rfl ⟨(elem_in (eqv_i (Term.int_eval (5)) (Cond.before_iff.mp (hsets _ (List.mem_of_getElem? (i := 42) rfl)))) em_posConst_5 (Term.int_eval (0)) Am_posConst_5.1).2, trivial⟩
  have B_posConst_5 : own_Big s s.heap o_posConst_5 (1 : Int32) (if (5 : Int32) = (1 : Int32) then (1 : Int32) else (0 : Int32)) := ⟨m_posConst_5, cm_posConst_5.cls, _, _, E_posConst_5, F_posConst_5, G_posConst_5, V_posConst_5, Or.inl ⟨rfl, _, rfl, rfl⟩⟩
  have el_posConst_5 := (elem_in ev_posConst_5 ev_posConst (Term.int_eval (5)) A_posConst.1).2
  obtain ⟨o_posConst_6, ev_posConst_6⟩ := exa_v (Cond.before_iff.mp (hsets _ (List.mem_of_getElem? (i := 43) rfl)))
  have E_posConst_6 : Exa s s.heap o_posConst_6 "java/math/BigInteger" := Exa.start ev_posConst_6 (Cond.before_iff.mp (hsets _ (List.mem_of_getElem? (i := 43) rfl)))
  have F_posConst_6 : Fld s s.heap o_posConst_6 "java/math/BigInteger" "signum" "I" (.int (1 : Int32)) := Fld.start ((fld_at ev_posConst_6).symm.trans (eqv_i (Term.int_eval (1)) (Cond.before_iff.mp (hsets _ (List.mem_of_getElem? (i := 44) rfl)))))
  have hm_posConst_6 := (Cond.before_iff.mp (hsets _ (List.mem_of_getElem? (i := 45) rfl)))
  obtain ⟨m_posConst_6, em_posConst_6⟩ := arr_v hm_posConst_6
  have G_posConst_6 : Fld s s.heap o_posConst_6 "java/math/BigInteger" "mag" "[I" (.ref m_posConst_6) := Fld.start ((fld_at ev_posConst_6).symm.trans em_posConst_6)
  obtain ⟨cm_posConst_6, Am_posConst_6⟩ := Arr.start em_posConst_6 hm_posConst_6
  have lm_posConst_6 := eqv_i (Term.int_eval (1)) (Cond.before_iff.mp (hsets _ (List.mem_of_getElem? (i := 47) rfl)))
  obtain ⟨_, _, le1, le2, le3⟩ := Term.length_spec lm_posConst_6
  cases em_posConst_6.symm.trans le1
  cases (State.arrayAt?_spec le2).1.symm.trans Am_posConst_6.1
  have V_posConst_6 : Arv s s.heap m_posConst_6 cm_posConst_6.cls .int (1 : Int32) [.int (6 : Int32)] (.int (0 : Int32)) := Arv.start hfit Am_posConst_6 (own_len31 lm_posConst_6 em_posConst_6 Am_posConst_6.1) (Value.int.inj le3).symm (by decide) rfl ⟨(elem_in (eqv_i (Term.int_eval (6)) (Cond.before_iff.mp (hsets _ (List.mem_of_getElem? (i := 48) rfl)))) em_posConst_6 (Term.int_eval (0)) Am_posConst_6.1).2, trivial⟩
  have B_posConst_6 : own_Big s s.heap o_posConst_6 (1 : Int32) (if (6 : Int32) = (1 : Int32) then (1 : Int32) else (0 : Int32)) := ⟨m_posConst_6, cm_posConst_6.cls, _, _, E_posConst_6, F_posConst_6, G_posConst_6, V_posConst_6, Or.inl ⟨rfl, _, rfl, rfl⟩⟩
  have el_posConst_6 := (elem_in ev_posConst_6 ev_posConst (Term.int_eval (6)) A_posConst.1).2
  obtain ⟨o_posConst_7, ev_posConst_7⟩ := exa_v (Cond.before_iff.mp (hsets _ (List.mem_of_getElem? (i := 49) rfl)))
  have E_posConst_7 : Exa s s.heap o_posConst_7 "java/math/BigInteger" := Exa.start ev_posConst_7 (Cond.before_iff.mp (hsets _ (List.mem_of_getElem? (i := 49) rfl)))
  have F_posConst_7 : Fld s s.heap o_posConst_7 "java/math/BigInteger" "signum" "I" (.int (1 : Int32)) := Fld.start ((fld_at ev_posConst_7).symm.trans (eqv_i (Term.int_eval (1)) (Cond.before_iff.mp (hsets _ (List.mem_of_getElem? (i := 50) rfl)))))
  have hm_posConst_7 := (Cond.before_iff.mp (hsets _ (List.mem_of_getElem? (i := 51) rfl)))
  obtain ⟨m_posConst_7, em_posConst_7⟩ := arr_v hm_posConst_7
  have G_posConst_7 : Fld s s.heap o_posConst_7 "java/math/BigInteger" "mag" "[I" (.ref m_posConst_7) := Fld.start ((fld_at ev_posConst_7).symm.trans em_posConst_7)
  obtain ⟨cm_posConst_7, Am_posConst_7⟩ := Arr.start em_posConst_7 hm_posConst_7
  have lm_posConst_7 := eqv_i (Term.int_eval (1)) (Cond.before_iff.mp (hsets _ (List.mem_of_getElem? (i := 53) rfl)))
  obtain ⟨_, _, le1, le2, le3⟩ := Term.length_spec lm_posConst_7
  cases em_posConst_7.symm.trans le1
  cases (State.arrayAt?_spec le2).1.symm.trans Am_posConst_7.1
  have V_posConst_7 : Arv s s.heap m_posConst_7 cm_posConst_7.cls .int (1 : Int32) [.int (7 : Int32)] (.int (0 : Int32)) := Arv.start hfit Am_posConst_7 (own_len31 lm_posConst_7 em_posConst_7 Am_posConst_7.1) (Value.int.inj le3).symm (by decide) rfl ⟨(elem_in (eqv_i (Term.int_eval (7)) (Cond.before_iff.mp (hsets _ (List.mem_of_getElem? (i := 54) rfl)))) em_posConst_7 (Term.int_eval (0)) Am_posConst_7.1).2, trivial⟩
  have B_posConst_7 : own_Big s s.heap o_posConst_7 (1 : Int32) (if (7 : Int32) = (1 : Int32) then (1 : Int32) else (0 : Int32)) := ⟨m_posConst_7, cm_posConst_7.cls, _, _, E_posConst_7, F_posConst_7, G_posConst_7, V_posConst_7, Or.inl ⟨rfl, _, rfl, rfl⟩⟩
  have el_posConst_7 := (elem_in ev_posConst_7 ev_posConst (Term.int_eval (7)) A_posConst.1).2
  obtain ⟨o_posConst_8, ev_posConst_8⟩ := exa_v (Cond.before_iff.mp (hsets _ (List.mem_of_getElem? (i := 55) rfl)))
  have E_posConst_8 : Exa s s.heap o_posConst_8 "java/math/BigInteger" := Exa.start ev_posConst_8 (Cond.before_iff.mp (hsets _ (List.mem_of_getElem? (i := 55) rfl)))
  have F_posConst_8 : Fld s s.heap o_posConst_8 "java/math/BigInteger" "signum" "I" (.int (1 : Int32)) := Fld.start ((fld_at ev_posConst_8).symm.trans (eqv_i (Term.int_eval (1)) (Cond.before_iff.mp (hsets _ (List.mem_of_getElem? (i := 56) rfl)))))
  have hm_posConst_8 := (Cond.before_iff.mp (hsets _ (List.mem_of_getElem? (i := 57) rfl)))
  obtain ⟨m_posConst_8, em_posConst_8⟩ := arr_v hm_posConst_8
  have G_posConst_8 : Fld s s.heap o_posConst_8 "java/math/BigInteger" "mag" "[I" (.ref m_posConst_8) := Fld.start ((fld_at ev_posConst_8).symm.trans em_posConst_8)
  obtain ⟨cm_posConst_8, Am_posConst_8⟩ := Arr.start em_posConst_8 hm_posConst_8
  have lm_posConst_8 := eqv_i (Term.int_eval (1)) (Cond.before_iff.mp (hsets _ (List.mem_of_getElem? (i := 59) rfl)))
  obtain ⟨_, _, le1, le2, le3⟩ := Term.length_spec lm_posConst_8
  cases em_posConst_8.symm.trans le1
  cases (State.arrayAt?_spec le2).1.symm.trans Am_posConst_8.1
  have V_posConst_8 : Arv s s.heap m_posConst_8 cm_posConst_8.cls .int (1 : Int32) [.int (8 : Int32)] (.int (0 : Int32)) := Arv.start hfit Am_posConst_8 (own_len31 lm_posConst_8 em_posConst_8 Am_posConst_8.1) (Value.int.inj le3).symm (by decide) rfl ⟨(elem_in (eqv_i (Term.int_eval (8)) (Cond.before_iff.mp (hsets _ (List.mem_of_getElem? (i := 60) rfl)))) em_posConst_8 (Term.int_eval (0)) Am_posConst_8.1).2, trivial⟩
  have B_posConst_8 : own_Big s s.heap o_posConst_8 (1 : Int32) (if (8 : Int32) = (1 : Int32) then (1 : Int32) else (0 : Int32)) := ⟨m_posConst_8, cm_posConst_8.cls, _, _, E_posConst_8, F_posConst_8, G_posConst_8, V_posConst_8, Or.inl ⟨rfl, _, rfl, rfl⟩⟩
  have el_posConst_8 := (elem_in ev_posConst_8 ev_posConst (Term.int_eval (8)) A_posConst.1).2
  obtain ⟨o_posConst_9, ev_posConst_9⟩ := exa_v (Cond.before_iff.mp (hsets _ (List.mem_of_getElem? (i := 61) rfl)))
  have E_posConst_9 : Exa s s.heap o_posConst_9 "java/math/BigInteger" := Exa.start ev_posConst_9 (Cond.before_iff.mp (hsets _ (List.mem_of_getElem? (i := 61) rfl)))
  have F_posConst_9 : Fld s s.heap o_posConst_9 "java/math/BigInteger" "signum" "I" (.int (1 : Int32)) := Fld.start ((fld_at ev_posConst_9).symm.trans (eqv_i (Term.int_eval (1)) (Cond.before_iff.mp (hsets _ (List.mem_of_getElem? (i := 62) rfl)))))
  have hm_posConst_9 := (Cond.before_iff.mp (hsets _ (List.mem_of_getElem? (i := 63) rfl)))
  obtain ⟨m_posConst_9, em_posConst_9⟩ := arr_v hm_posConst_9
  have G_posConst_9 : Fld s s.heap o_posConst_9 "java/math/BigInteger" "mag" "[I" (.ref m_posConst_9) := Fld.start ((fld_at ev_posConst_9).symm.trans em_posConst_9)
  obtain ⟨cm_posConst_9, Am_posConst_9⟩ := Arr.start em_posConst_9 hm_posConst_9
  have lm_posConst_9 := eqv_i (Term.int_eval (1)) (Cond.before_iff.mp (hsets _ (List.mem_of_getElem? (i := 65) rfl)))
  obtain ⟨_, _, le1, le2, le3⟩ := Term.length_spec lm_posConst_9
  cases em_posConst_9.symm.trans le1
  cases (State.arrayAt?_spec le2).1.symm.trans Am_posConst_9.1
  have V_posConst_9 : Arv s s.heap m_posConst_9 cm_posConst_9.cls .int (1 : Int32) [.int (9 : Int32)] (.int (0 : Int32)) := Arv.start hfit Am_posConst_9 (own_len31 lm_posConst_9 em_posConst_9 Am_posConst_9.1) (Value.int.inj le3).symm (by decide) rfl ⟨(elem_in (eqv_i (Term.int_eval (9)) (Cond.before_iff.mp (hsets _ (List.mem_of_getElem? (i := 66) rfl)))) em_posConst_9 (Term.int_eval (0)) Am_posConst_9.1).2, trivial⟩
  have B_posConst_9 : own_Big s s.heap o_posConst_9 (1 : Int32) (if (9 : Int32) = (1 : Int32) then (1 : Int32) else (0 : Int32)) := ⟨m_posConst_9, cm_posConst_9.cls, _, _, E_posConst_9, F_posConst_9, G_posConst_9, V_posConst_9, Or.inl ⟨rfl, _, rfl, rfl⟩⟩
  have el_posConst_9 := (elem_in ev_posConst_9 ev_posConst (Term.int_eval (9)) A_posConst.1).2
  obtain ⟨o_posConst_10, ev_posConst_10⟩ := exa_v (Cond.before_iff.mp (hsets _ (List.mem_of_getElem? (i := 68) rfl)))
  have E_posConst_10 : Exa s s.heap o_posConst_10 "java/math/BigInteger" := Exa.start ev_posConst_10 (Cond.before_iff.mp (hsets _ (List.mem_of_getElem? (i := 68) rfl)))
  have F_posConst_10 : Fld s s.heap o_posConst_10 "java/math/BigInteger" "signum" "I" (.int (1 : Int32)) := Fld.start ((fld_at ev_posConst_10).symm.trans (eqv_i (Term.int_eval (1)) (Cond.before_iff.mp (hsets _ (List.mem_of_getElem? (i := 69) rfl)))))
  have hm_posConst_10 := (Cond.before_iff.mp (hsets _ (List.mem_of_getElem? (i := 70) rfl)))
  obtain ⟨m_posConst_10, em_posConst_10⟩ := arr_v hm_posConst_10
  have G_posConst_10 : Fld s s.heap o_posConst_10 "java/math/BigInteger" "mag" "[I" (.ref m_posConst_10) := Fld.start ((fld_at ev_posConst_10).symm.trans em_posConst_10)
  obtain ⟨cm_posConst_10, Am_posConst_10⟩ := Arr.start em_posConst_10 hm_posConst_10
  have lm_posConst_10 := eqv_i (Term.int_eval (1)) (Cond.before_iff.mp (hsets _ (List.mem_of_getElem? (i := 72) rfl)))
  obtain ⟨_, _, le1, le2, le3⟩ := Term.length_spec lm_posConst_10
  cases em_posConst_10.symm.trans le1
  cases (State.arrayAt?_spec le2).1.symm.trans Am_posConst_10.1
  have V_posConst_10 : Arv s s.heap m_posConst_10 cm_posConst_10.cls .int (1 : Int32) [.int (10 : Int32)] (.int (0 : Int32)) := Arv.start hfit Am_posConst_10 (own_len31 lm_posConst_10 em_posConst_10 Am_posConst_10.1) (Value.int.inj le3).symm (by decide) rfl ⟨(elem_in (eqv_i (Term.int_eval (10)) (Cond.before_iff.mp (hsets _ (List.mem_of_getElem? (i := 73) rfl)))) em_posConst_10 (Term.int_eval (0)) Am_posConst_10.1).2, trivial⟩
  have B_posConst_10 : own_Big s s.heap o_posConst_10 (1 : Int32) (if (10 : Int32) = (1 : Int32) then (1 : Int32) else (0 : Int32)) := ⟨m_posConst_10, cm_posConst_10.cls, _, _, E_posConst_10, F_posConst_10, G_posConst_10, V_posConst_10, Or.inl ⟨rfl, _, rfl, rfl⟩⟩
  have el_posConst_10 := (elem_in ev_posConst_10 ev_posConst (Term.int_eval (10)) A_posConst.1).2
  obtain ⟨o_posConst_11, ev_posConst_11⟩ := exa_v (Cond.before_iff.mp (hsets _ (List.mem_of_getElem? (i := 74) rfl)))
  have E_posConst_11 : Exa s s.heap o_posConst_11 "java/math/BigInteger" := Exa.start ev_posConst_11 (Cond.before_iff.mp (hsets _ (List.mem_of_getElem? (i := 74) rfl)))
  have F_posConst_11 : Fld s s.heap o_posConst_11 "java/math/BigInteger" "signum" "I" (.int (1 : Int32)) := Fld.start ((fld_at ev_posConst_11).symm.trans (eqv_i (Term.int_eval (1)) (Cond.before_iff.mp (hsets _ (List.mem_of_getElem? (i := 75) rfl)))))
  have hm_posConst_11 := (Cond.before_iff.mp (hsets _ (List.mem_of_getElem? (i := 76) rfl)))
  obtain ⟨m_posConst_11, em_posConst_11⟩ := arr_v hm_posConst_11
  have G_posConst_11 : Fld s s.heap o_posConst_11 "java/math/BigInteger" "mag" "[I" (.ref m_posConst_11) := Fld.start ((fld_at ev_posConst_11).symm.trans em_posConst_11)
  obtain ⟨cm_posConst_11, Am_posConst_11⟩ := Arr.start em_posConst_11 hm_posConst_11
  have lm_posConst_11 := eqv_i (Term.int_eval (1)) (Cond.before_iff.mp (hsets _ (List.mem_of_getElem? (i := 78) rfl)))
  obtain ⟨_, _, le1, le2, le3⟩ := Term.length_spec lm_posConst_11
  cases em_posConst_11.symm.trans le1
  cases (State.arrayAt?_spec le2).1.symm.trans Am_posConst_11.1
  have V_posConst_11 : Arv s s.heap m_posConst_11 cm_posConst_11.cls .int (1 : Int32) [.int (11 : Int32)] (.int (0 : Int32)) := Arv.start hfit Am_posConst_11 (own_len31 lm_posConst_11 em_posConst_11 Am_posConst_11.1) (Value.int.inj le3).symm (by decide) rfl ⟨(elem_in (eqv_i (Term.int_eval (11)) (Cond.before_iff.mp (hsets _ (List.mem_of_getElem? (i := 79) rfl)))) em_posConst_11 (Term.int_eval (0)) Am_posConst_11.1).2, trivial⟩
  have B_posConst_11 : own_Big s s.heap o_posConst_11 (1 : Int32) (if (11 : Int32) = (1 : Int32) then (1 : Int32) else (0 : Int32)) := ⟨m_posConst_11, cm_posConst_11.cls, _, _, E_posConst_11, F_posConst_11, G_posConst_11, V_posConst_11, Or.inl ⟨rfl, _, rfl, rfl⟩⟩
  have el_posConst_11 := (elem_in ev_posConst_11 ev_posConst (Term.int_eval (11)) A_posConst.1).2
  obtain ⟨o_posConst_12, ev_posConst_12⟩ := exa_v (Cond.before_iff.mp (hsets _ (List.mem_of_getElem? (i := 80) rfl)))
  have E_posConst_12 : Exa s s.heap o_posConst_12 "java/math/BigInteger" := Exa.start ev_posConst_12 (Cond.before_iff.mp (hsets _ (List.mem_of_getElem? (i := 80) rfl)))
  have F_posConst_12 : Fld s s.heap o_posConst_12 "java/math/BigInteger" "signum" "I" (.int (1 : Int32)) := Fld.start ((fld_at ev_posConst_12).symm.trans (eqv_i (Term.int_eval (1)) (Cond.before_iff.mp (hsets _ (List.mem_of_getElem? (i := 81) rfl)))))
  have hm_posConst_12 := (Cond.before_iff.mp (hsets _ (List.mem_of_getElem? (i := 82) rfl)))
  obtain ⟨m_posConst_12, em_posConst_12⟩ := arr_v hm_posConst_12
  have G_posConst_12 : Fld s s.heap o_posConst_12 "java/math/BigInteger" "mag" "[I" (.ref m_posConst_12) := Fld.start ((fld_at ev_posConst_12).symm.trans em_posConst_12)
  obtain ⟨cm_posConst_12, Am_posConst_12⟩ := Arr.start em_posConst_12 hm_posConst_12
  have lm_posConst_12 := eqv_i (Term.int_eval (1)) (Cond.before_iff.mp (hsets _ (List.mem_of_getElem? (i := 84) rfl)))
  obtain ⟨_, _, le1, le2, le3⟩ := Term.length_spec lm_posConst_12
  cases em_posConst_12.symm.trans le1
  cases (State.arrayAt?_spec le2).1.symm.trans Am_posConst_12.1
  have V_posConst_12 : Arv s s.heap m_posConst_12 cm_posConst_12.cls .int (1 : Int32) [.int (12 : Int32)] (.int (0 : Int32)) := Arv.start hfit Am_posConst_12 (own_len31 lm_posConst_12 em_posConst_12 Am_posConst_12.1) (Value.int.inj le3).symm (by decide) rfl ⟨(elem_in (eqv_i (Term.int_eval (12)) (Cond.before_iff.mp (hsets _ (List.mem_of_getElem? (i := 85) rfl)))) em_posConst_12 (Term.int_eval (0)) Am_posConst_12.1).2, trivial⟩
  have B_posConst_12 : own_Big s s.heap o_posConst_12 (1 : Int32) (if (12 : Int32) = (1 : Int32) then (1 : Int32) else (0 : Int32)) := ⟨m_posConst_12, cm_posConst_12.cls, _, _, E_posConst_12, F_posConst_12, G_posConst_12, V_posConst_12, Or.inl ⟨rfl, _, rfl, rfl⟩⟩
  have el_posConst_12 := (elem_in ev_posConst_12 ev_posConst (Term.int_eval (12)) A_posConst.1).2
  obtain ⟨o_posConst_13, ev_posConst_13⟩ := exa_v (Cond.before_iff.mp (hsets _ (List.mem_of_getElem? (i := 86) rfl)))
  have E_posConst_13 : Exa s s.heap o_posConst_13 "java/math/BigInteger" := Exa.start ev_posConst_13 (Cond.before_iff.mp (hsets _ (List.mem_of_getElem? (i := 86) rfl)))
  have F_posConst_13 : Fld s s.heap o_posConst_13 "java/math/BigInteger" "signum" "I" (.int (1 : Int32)) := Fld.start ((fld_at ev_posConst_13).symm.trans (eqv_i (Term.int_eval (1)) (Cond.before_iff.mp (hsets _ (List.mem_of_getElem? (i := 87) rfl)))))
  have hm_posConst_13 := (Cond.before_iff.mp (hsets _ (List.mem_of_getElem? (i := 88) rfl)))
  obtain ⟨m_posConst_13, em_posConst_13⟩ := arr_v hm_posConst_13
  have G_posConst_13 : Fld s s.heap o_posConst_13 "java/math/BigInteger" "mag" "[I" (.ref m_posConst_13) := Fld.start ((fld_at ev_posConst_13).symm.trans em_posConst_13)
  obtain ⟨cm_posConst_13, Am_posConst_13⟩ := Arr.start em_posConst_13 hm_posConst_13
  have lm_posConst_13 := eqv_i (Term.int_eval (1)) (Cond.before_iff.mp (hsets _ (List.mem_of_getElem? (i := 90) rfl)))
  obtain ⟨_, _, le1, le2, le3⟩ := Term.length_spec lm_posConst_13
  cases em_posConst_13.symm.trans le1
  cases (State.arrayAt?_spec le2).1.symm.trans Am_posConst_13.1
  have V_posConst_13 : Arv s s.heap m_posConst_13 cm_posConst_13.cls .int (1 : Int32) [.int (13 : Int32)] (.int (0 : Int32)) := Arv.start hfit Am_posConst_13 (own_len31 lm_posConst_13 em_posConst_13 Am_posConst_13.1) (Value.int.inj le3).symm (by decide) rfl ⟨(elem_in (eqv_i (Term.int_eval (13)) (Cond.before_iff.mp (hsets _ (List.mem_of_getElem? (i := 91) rfl)))) em_posConst_13 (Term.int_eval (0)) Am_posConst_13.1).2, trivial⟩
  have B_posConst_13 : own_Big s s.heap o_posConst_13 (1 : Int32) (if (13 : Int32) = (1 : Int32) then (1 : Int32) else (0 : Int32)) := ⟨m_posConst_13, cm_posConst_13.cls, _, _, E_posConst_13, F_posConst_13, G_posConst_13, V_posConst_13, Or.inl ⟨rfl, _, rfl, rfl⟩⟩
  have el_posConst_13 := (elem_in ev_posConst_13 ev_posConst (Term.int_eval (13)) A_posConst.1).2
  obtain ⟨o_posConst_14, ev_posConst_14⟩ := exa_v (Cond.before_iff.mp (hsets _ (List.mem_of_getElem? (i := 92) rfl)))
  have E_posConst_14 : Exa s s.heap o_posConst_14 "java/math/BigInteger" := Exa.start ev_posConst_14 (Cond.before_iff.mp (hsets _ (List.mem_of_getElem? (i := 92) rfl)))
  have F_posConst_14 : Fld s s.heap o_posConst_14 "java/math/BigInteger" "signum" "I" (.int (1 : Int32)) := Fld.start ((fld_at ev_posConst_14).symm.trans (eqv_i (Term.int_eval (1)) (Cond.before_iff.mp (hsets _ (List.mem_of_getElem? (i := 93) rfl)))))
  have hm_posConst_14 := (Cond.before_iff.mp (hsets _ (List.mem_of_getElem? (i := 94) rfl)))
  obtain ⟨m_posConst_14, em_posConst_14⟩ := arr_v hm_posConst_14
  have G_posConst_14 : Fld s s.heap o_posConst_14 "java/math/BigInteger" "mag" "[I" (.ref m_posConst_14) := Fld.start ((fld_at ev_posConst_14).symm.trans em_posConst_14)
  obtain ⟨cm_posConst_14, Am_posConst_14⟩ := Arr.start em_posConst_14 hm_posConst_14
  have lm_posConst_14 := eqv_i (Term.int_eval (1)) (Cond.before_iff.mp (hsets _ (List.mem_of_getElem? (i := 96) rfl)))
  obtain ⟨_, _, le1, le2, le3⟩ := Term.length_spec lm_posConst_14
  cases em_posConst_14.symm.trans le1
  cases (State.arrayAt?_spec le2).1.symm.trans Am_posConst_14.1
  have V_posConst_14 : Arv s s.heap m_posConst_14 cm_posConst_14.cls .int (1 : Int32) [.int (14 : Int32)] (.int (0 : Int32)) := Arv.start hfit Am_posConst_14 (own_len31 lm_posConst_14 em_posConst_14 Am_posConst_14.1) (Value.int.inj le3).symm (by decide) rfl ⟨(elem_in (eqv_i (Term.int_eval (14)) (Cond.before_iff.mp (hsets _ (List.mem_of_getElem? (i := 97) rfl)))) em_posConst_14 (Term.int_eval (0)) Am_posConst_14.1).2, trivial⟩
  have B_posConst_14 : own_Big s s.heap o_posConst_14 (1 : Int32) (if (14 : Int32) = (1 : Int32) then (1 : Int32) else (0 : Int32)) := ⟨m_posConst_14, cm_posConst_14.cls, _, _, E_posConst_14, F_posConst_14, G_posConst_14, V_posConst_14, Or.inl ⟨rfl, _, rfl, rfl⟩⟩
  have el_posConst_14 := (elem_in ev_posConst_14 ev_posConst (Term.int_eval (14)) A_posConst.1).2
  obtain ⟨o_posConst_15, ev_posConst_15⟩ := exa_v (Cond.before_iff.mp (hsets _ (List.mem_of_getElem? (i := 98) rfl)))
  have E_posConst_15 : Exa s s.heap o_posConst_15 "java/math/BigInteger" := Exa.start ev_posConst_15 (Cond.before_iff.mp (hsets _ (List.mem_of_getElem? (i := 98) rfl)))
  have F_posConst_15 : Fld s s.heap o_posConst_15 "java/math/BigInteger" "signum" "I" (.int (1 : Int32)) := Fld.start ((fld_at ev_posConst_15).symm.trans (eqv_i (Term.int_eval (1)) (Cond.before_iff.mp (hsets _ (List.mem_of_getElem? (i := 99) rfl)))))
  have hm_posConst_15 := (Cond.before_iff.mp (hsets _ (List.mem_of_getElem? (i := 100) rfl)))
  obtain ⟨m_posConst_15, em_posConst_15⟩ := arr_v hm_posConst_15
  have G_posConst_15 : Fld s s.heap o_posConst_15 "java/math/BigInteger" "mag" "[I" (.ref m_posConst_15) := Fld.start ((fld_at ev_posConst_15).symm.trans em_posConst_15)
  obtain ⟨cm_posConst_15, Am_posConst_15⟩ := Arr.start em_posConst_15 hm_posConst_15
  have lm_posConst_15 := eqv_i (Term.int_eval (1)) (Cond.before_iff.mp (hsets _ (List.mem_of_getElem? (i := 102) rfl)))
  obtain ⟨_, _, le1, le2, le3⟩ := Term.length_spec lm_posConst_15
  cases em_posConst_15.symm.trans le1
  cases (State.arrayAt?_spec le2).1.symm.trans Am_posConst_15.1
  have V_posConst_15 : Arv s s.heap m_posConst_15 cm_posConst_15.cls .int (1 : Int32) [.int (15 : Int32)] (.int (0 : Int32)) := Arv.start hfit Am_posConst_15 (own_len31 lm_posConst_15 em_posConst_15 Am_posConst_15.1) (Value.int.inj le3).symm (by decide) rfl ⟨(elem_in (eqv_i (Term.int_eval (15)) (Cond.before_iff.mp (hsets _ (List.mem_of_getElem? (i := 103) rfl)))) em_posConst_15 (Term.int_eval (0)) Am_posConst_15.1).2, trivial⟩
  have B_posConst_15 : own_Big s s.heap o_posConst_15 (1 : Int32) (if (15 : Int32) = (1 : Int32) then (1 : Int32) else (0 : Int32)) := ⟨m_posConst_15, cm_posConst_15.cls, _, _, E_posConst_15, F_posConst_15, G_posConst_15, V_posConst_15, Or.inl ⟨rfl, _, rfl, rfl⟩⟩
  have el_posConst_15 := (elem_in ev_posConst_15 ev_posConst (Term.int_eval (15)) A_posConst.1).2
  obtain ⟨o_posConst_16, ev_posConst_16⟩ := exa_v (Cond.before_iff.mp (hsets _ (List.mem_of_getElem? (i := 104) rfl)))
  have E_posConst_16 : Exa s s.heap o_posConst_16 "java/math/BigInteger" := Exa.start ev_posConst_16 (Cond.before_iff.mp (hsets _ (List.mem_of_getElem? (i := 104) rfl)))
  have F_posConst_16 : Fld s s.heap o_posConst_16 "java/math/BigInteger" "signum" "I" (.int (1 : Int32)) := Fld.start ((fld_at ev_posConst_16).symm.trans (eqv_i (Term.int_eval (1)) (Cond.before_iff.mp (hsets _ (List.mem_of_getElem? (i := 105) rfl)))))
  have hm_posConst_16 := (Cond.before_iff.mp (hsets _ (List.mem_of_getElem? (i := 106) rfl)))
  obtain ⟨m_posConst_16, em_posConst_16⟩ := arr_v hm_posConst_16
  have G_posConst_16 : Fld s s.heap o_posConst_16 "java/math/BigInteger" "mag" "[I" (.ref m_posConst_16) := Fld.start ((fld_at ev_posConst_16).symm.trans em_posConst_16)
  obtain ⟨cm_posConst_16, Am_posConst_16⟩ := Arr.start em_posConst_16 hm_posConst_16
  have lm_posConst_16 := eqv_i (Term.int_eval (1)) (Cond.before_iff.mp (hsets _ (List.mem_of_getElem? (i := 108) rfl)))
  obtain ⟨_, _, le1, le2, le3⟩ := Term.length_spec lm_posConst_16
  cases em_posConst_16.symm.trans le1
  cases (State.arrayAt?_spec le2).1.symm.trans Am_posConst_16.1
  have V_posConst_16 : Arv s s.heap m_posConst_16 cm_posConst_16.cls .int (1 : Int32) [.int (16 : Int32)] (.int (0 : Int32)) := Arv.start hfit Am_posConst_16 (own_len31 lm_posConst_16 em_posConst_16 Am_posConst_16.1) (Value.int.inj le3).symm (by decide) rfl ⟨(elem_in (eqv_i (Term.int_eval (16)) (Cond.before_iff.mp (hsets _ (List.mem_of_getElem? (i := 109) rfl)))) em_posConst_16 (Term.int_eval (0)) Am_posConst_16.1).2, trivial⟩
  have B_posConst_16 : own_Big s s.heap o_posConst_16 (1 : Int32) (if (16 : Int32) = (1 : Int32) then (1 : Int32) else (0 : Int32)) := ⟨m_posConst_16, cm_posConst_16.cls, _, _, E_posConst_16, F_posConst_16, G_posConst_16, V_posConst_16, Or.inl ⟨rfl, _, rfl, rfl⟩⟩
  have el_posConst_16 := (elem_in ev_posConst_16 ev_posConst (Term.int_eval (16)) A_posConst.1).2
  have T_posConst : own_Tab s a_posConst c_posConst (1 : Int32) := by
    refine ⟨A_posConst, sz_posConst, fun j h1 h2 => ?_⟩
    have q := own_cases16 j h1 h2
    rcases q with rfl | rfl | rfl | rfl | rfl | rfl | rfl | rfl | rfl | rfl | rfl | rfl | rfl | rfl | rfl | rfl
    · exact ⟨_, el_posConst_1, B_posConst_1⟩
    · exact ⟨_, el_posConst_2, B_posConst_2⟩
    · exact ⟨_, el_posConst_3, B_posConst_3⟩
    · exact ⟨_, el_posConst_4, B_posConst_4⟩
    · exact ⟨_, el_posConst_5, B_posConst_5⟩
    · exact ⟨_, el_posConst_6, B_posConst_6⟩
    · exact ⟨_, el_posConst_7, B_posConst_7⟩
    · exact ⟨_, el_posConst_8, B_posConst_8⟩
    · exact ⟨_, el_posConst_9, B_posConst_9⟩
    · exact ⟨_, el_posConst_10, B_posConst_10⟩
    · exact ⟨_, el_posConst_11, B_posConst_11⟩
    · exact ⟨_, el_posConst_12, B_posConst_12⟩
    · exact ⟨_, el_posConst_13, B_posConst_13⟩
    · exact ⟨_, el_posConst_14, B_posConst_14⟩
    · exact ⟨_, el_posConst_15, B_posConst_15⟩
    · exact ⟨_, el_posConst_16, B_posConst_16⟩
  have h_negConst := (Cond.before_iff.mp (hsets _ (List.mem_of_getElem? (i := 122) rfl)))
  obtain ⟨a_negConst, ev_negConst⟩ := arr_v h_negConst
  have S_negConst : Sta s s.heap "java/math/BigInteger" "negConst" "[Ljava/math/BigInteger;" (.ref a_negConst) := Sta.start ev_negConst (Or.inl (hsets _ (List.mem_of_getElem? (i := 119) rfl)))
  obtain ⟨c_negConst, A_negConst⟩ := Arr.start ev_negConst h_negConst
  have hl_negConst := eqv_i (Term.int_eval (17)) (Cond.before_iff.mp (hsets _ (List.mem_of_getElem? (i := 124) rfl)))
  obtain ⟨_, _, le1, le2, le3⟩ := Term.length_spec hl_negConst
  cases ev_negConst.symm.trans le1
  cases (State.arrayAt?_spec le2).1.symm.trans A_negConst.1
  have sz_negConst : c_negConst.slots.size = (17 : Int32).toNatClampNeg := by
    have q := own_len31 hl_negConst ev_negConst A_negConst.1
    have z : c_negConst.slots.size.toInt32 = (17 : Int32) := (Value.int.inj le3).symm
    rw [← z]; simp only [Int32.toNatClampNeg, len_toInt q]; rfl
  obtain ⟨o_negConst_1, ev_negConst_1⟩ := exa_v (Cond.before_iff.mp (hsets _ (List.mem_of_getElem? (i := 126) rfl)))
  have E_negConst_1 : Exa s s.heap o_negConst_1 "java/math/BigInteger" := Exa.start ev_negConst_1 (Cond.before_iff.mp (hsets _ (List.mem_of_getElem? (i := 126) rfl)))
  have F_negConst_1 : Fld s s.heap o_negConst_1 "java/math/BigInteger" "signum" "I" (.int (-1 : Int32)) := Fld.start ((fld_at ev_negConst_1).symm.trans (eqv_i (Term.int_eval (-1)) (Cond.before_iff.mp (hsets _ (List.mem_of_getElem? (i := 127) rfl)))))
  have hm_negConst_1 := (Cond.before_iff.mp (hsets _ (List.mem_of_getElem? (i := 128) rfl)))
  obtain ⟨m_negConst_1, em_negConst_1⟩ := arr_v hm_negConst_1
  have G_negConst_1 : Fld s s.heap o_negConst_1 "java/math/BigInteger" "mag" "[I" (.ref m_negConst_1) := Fld.start ((fld_at ev_negConst_1).symm.trans em_negConst_1)
  obtain ⟨cm_negConst_1, Am_negConst_1⟩ := Arr.start em_negConst_1 hm_negConst_1
  have lm_negConst_1 := eqv_i (Term.int_eval (1)) (Cond.before_iff.mp (hsets _ (List.mem_of_getElem? (i := 130) rfl)))
  obtain ⟨_, _, le1, le2, le3⟩ := Term.length_spec lm_negConst_1
  cases em_negConst_1.symm.trans le1
  cases (State.arrayAt?_spec le2).1.symm.trans Am_negConst_1.1
  have V_negConst_1 : Arv s s.heap m_negConst_1 cm_negConst_1.cls .int (1 : Int32) [.int (1 : Int32)] (.int (0 : Int32)) := Arv.start hfit Am_negConst_1 (own_len31 lm_negConst_1 em_negConst_1 Am_negConst_1.1) (Value.int.inj le3).symm (by decide) rfl ⟨(elem_in (eqv_i (Term.int_eval (1)) (Cond.before_iff.mp (hsets _ (List.mem_of_getElem? (i := 131) rfl)))) em_negConst_1 (Term.int_eval (0)) Am_negConst_1.1).2, trivial⟩
  have B_negConst_1 : own_Big s s.heap o_negConst_1 (-1 : Int32) (if (1 : Int32) = (1 : Int32) then (1 : Int32) else (0 : Int32)) := ⟨m_negConst_1, cm_negConst_1.cls, _, _, E_negConst_1, F_negConst_1, G_negConst_1, V_negConst_1, Or.inl ⟨rfl, _, rfl, rfl⟩⟩
  have el_negConst_1 := (elem_in ev_negConst_1 ev_negConst (Term.int_eval (1)) A_negConst.1).2
  obtain ⟨o_negConst_2, ev_negConst_2⟩ := exa_v (Cond.before_iff.mp (hsets _ (List.mem_of_getElem? (i := 132) rfl)))
  have E_negConst_2 : Exa s s.heap o_negConst_2 "java/math/BigInteger" := Exa.start ev_negConst_2 (Cond.before_iff.mp (hsets _ (List.mem_of_getElem? (i := 132) rfl)))
  have F_negConst_2 : Fld s s.heap o_negConst_2 "java/math/BigInteger" "signum" "I" (.int (-1 : Int32)) := Fld.start ((fld_at ev_negConst_2).symm.trans (eqv_i (Term.int_eval (-1)) (Cond.before_iff.mp (hsets _ (List.mem_of_getElem? (i := 133) rfl)))))
  have hm_negConst_2 := (Cond.before_iff.mp (hsets _ (List.mem_of_getElem? (i := 134) rfl)))
  obtain ⟨m_negConst_2, em_negConst_2⟩ := arr_v hm_negConst_2
  have G_negConst_2 : Fld s s.heap o_negConst_2 "java/math/BigInteger" "mag" "[I" (.ref m_negConst_2) := Fld.start ((fld_at ev_negConst_2).symm.trans em_negConst_2)
  obtain ⟨cm_negConst_2, Am_negConst_2⟩ := Arr.start em_negConst_2 hm_negConst_2
  have lm_negConst_2 := eqv_i (Term.int_eval (1)) (Cond.before_iff.mp (hsets _ (List.mem_of_getElem? (i := 136) rfl)))
  obtain ⟨_, _, le1, le2, le3⟩ := Term.length_spec lm_negConst_2
  cases em_negConst_2.symm.trans le1
  cases (State.arrayAt?_spec le2).1.symm.trans Am_negConst_2.1
  have V_negConst_2 : Arv s s.heap m_negConst_2 cm_negConst_2.cls .int (1 : Int32) [.int (2 : Int32)] (.int (0 : Int32)) := Arv.start hfit Am_negConst_2 (own_len31 lm_negConst_2 em_negConst_2 Am_negConst_2.1) (Value.int.inj le3).symm (by decide) rfl ⟨(elem_in (eqv_i (Term.int_eval (2)) (Cond.before_iff.mp (hsets _ (List.mem_of_getElem? (i := 137) rfl)))) em_negConst_2 (Term.int_eval (0)) Am_negConst_2.1).2, trivial⟩
  have B_negConst_2 : own_Big s s.heap o_negConst_2 (-1 : Int32) (if (2 : Int32) = (1 : Int32) then (1 : Int32) else (0 : Int32)) := ⟨m_negConst_2, cm_negConst_2.cls, _, _, E_negConst_2, F_negConst_2, G_negConst_2, V_negConst_2, Or.inl ⟨rfl, _, rfl, rfl⟩⟩
  have el_negConst_2 := (elem_in ev_negConst_2 ev_negConst (Term.int_eval (2)) A_negConst.1).2
  obtain ⟨o_negConst_3, ev_negConst_3⟩ := exa_v (Cond.before_iff.mp (hsets _ (List.mem_of_getElem? (i := 138) rfl)))
  have E_negConst_3 : Exa s s.heap o_negConst_3 "java/math/BigInteger" := Exa.start ev_negConst_3 (Cond.before_iff.mp (hsets _ (List.mem_of_getElem? (i := 138) rfl)))
  have F_negConst_3 : Fld s s.heap o_negConst_3 "java/math/BigInteger" "signum" "I" (.int (-1 : Int32)) := Fld.start ((fld_at ev_negConst_3).symm.trans (eqv_i (Term.int_eval (-1)) (Cond.before_iff.mp (hsets _ (List.mem_of_getElem? (i := 139) rfl)))))
  have hm_negConst_3 := (Cond.before_iff.mp (hsets _ (List.mem_of_getElem? (i := 140) rfl)))
  obtain ⟨m_negConst_3, em_negConst_3⟩ := arr_v hm_negConst_3
  have G_negConst_3 : Fld s s.heap o_negConst_3 "java/math/BigInteger" "mag" "[I" (.ref m_negConst_3) := Fld.start ((fld_at ev_negConst_3).symm.trans em_negConst_3)
  obtain ⟨cm_negConst_3, Am_negConst_3⟩ := Arr.start em_negConst_3 hm_negConst_3
  have lm_negConst_3 := eqv_i (Term.int_eval (1)) (Cond.before_iff.mp (hsets _ (List.mem_of_getElem? (i := 142) rfl)))
  obtain ⟨_, _, le1, le2, le3⟩ := Term.length_spec lm_negConst_3
  cases em_negConst_3.symm.trans le1
  cases (State.arrayAt?_spec le2).1.symm.trans Am_negConst_3.1
  have V_negConst_3 : Arv s s.heap m_negConst_3 cm_negConst_3.cls .int (1 : Int32) [.int (3 : Int32)] (.int (0 : Int32)) := Arv.start hfit Am_negConst_3 (own_len31 lm_negConst_3 em_negConst_3 Am_negConst_3.1) (Value.int.inj le3).symm (by decide) rfl ⟨(elem_in (eqv_i (Term.int_eval (3)) (Cond.before_iff.mp (hsets _ (List.mem_of_getElem? (i := 143) rfl)))) em_negConst_3 (Term.int_eval (0)) Am_negConst_3.1).2, trivial⟩
  have B_negConst_3 : own_Big s s.heap o_negConst_3 (-1 : Int32) (if (3 : Int32) = (1 : Int32) then (1 : Int32) else (0 : Int32)) := ⟨m_negConst_3, cm_negConst_3.cls, _, _, E_negConst_3, F_negConst_3, G_negConst_3, V_negConst_3, Or.inl ⟨rfl, _, rfl, rfl⟩⟩
  have el_negConst_3 := (elem_in ev_negConst_3 ev_negConst (Term.int_eval (3)) A_negConst.1).2
  obtain ⟨o_negConst_4, ev_negConst_4⟩ := exa_v (Cond.before_iff.mp (hsets _ (List.mem_of_getElem? (i := 144) rfl)))
  have E_negConst_4 : Exa s s.heap o_negConst_4 "java/math/BigInteger" := Exa.start ev_negConst_4 (Cond.before_iff.mp (hsets _ (List.mem_of_getElem? (i := 144) rfl)))
  have F_negConst_4 : Fld s s.heap o_negConst_4 "java/math/BigInteger" "signum" "I" (.int (-1 : Int32)) := Fld.start ((fld_at ev_negConst_4).symm.trans (eqv_i (Term.int_eval (-1)) (Cond.before_iff.mp (hsets _ (List.mem_of_getElem? (i := 145) rfl)))))
  have hm_negConst_4 := (Cond.before_iff.mp (hsets _ (List.mem_of_getElem? (i := 146) rfl)))
  obtain ⟨m_negConst_4, em_negConst_4⟩ := arr_v hm_negConst_4
  have G_negConst_4 : Fld s s.heap o_negConst_4 "java/math/BigInteger" "mag" "[I" (.ref m_negConst_4) := Fld.start ((fld_at ev_negConst_4).symm.trans em_negConst_4)
  obtain ⟨cm_negConst_4, Am_negConst_4⟩ := Arr.start em_negConst_4 hm_negConst_4
  have lm_negConst_4 := eqv_i (Term.int_eval (1)) (Cond.before_iff.mp (hsets _ (List.mem_of_getElem? (i := 148) rfl)))
  obtain ⟨_, _, le1, le2, le3⟩ := Term.length_spec lm_negConst_4
  cases em_negConst_4.symm.trans le1
  cases (State.arrayAt?_spec le2).1.symm.trans Am_negConst_4.1
  have V_negConst_4 : Arv s s.heap m_negConst_4 cm_negConst_4.cls .int (1 : Int32) [.int (4 : Int32)] (.int (0 : Int32)) := Arv.start hfit Am_negConst_4 (own_len31 lm_negConst_4 em_negConst_4 Am_negConst_4.1) (Value.int.inj le3).symm (by decide) rfl ⟨(elem_in (eqv_i (Term.int_eval (4)) (Cond.before_iff.mp (hsets _ (List.mem_of_getElem? (i := 149) rfl)))) em_negConst_4 (Term.int_eval (0)) Am_negConst_4.1).2, trivial⟩
  have B_negConst_4 : own_Big s s.heap o_negConst_4 (-1 : Int32) (if (4 : Int32) = (1 : Int32) then (1 : Int32) else (0 : Int32)) := ⟨m_negConst_4, cm_negConst_4.cls, _, _, E_negConst_4, F_negConst_4, G_negConst_4, V_negConst_4, Or.inl ⟨rfl, _, rfl, rfl⟩⟩
  have el_negConst_4 := (elem_in ev_negConst_4 ev_negConst (Term.int_eval (4)) A_negConst.1).2
  obtain ⟨o_negConst_5, ev_negConst_5⟩ := exa_v (Cond.before_iff.mp (hsets _ (List.mem_of_getElem? (i := 150) rfl)))
  have E_negConst_5 : Exa s s.heap o_negConst_5 "java/math/BigInteger" := Exa.start ev_negConst_5 (Cond.before_iff.mp (hsets _ (List.mem_of_getElem? (i := 150) rfl)))
  have F_negConst_5 : Fld s s.heap o_negConst_5 "java/math/BigInteger" "signum" "I" (.int (-1 : Int32)) := Fld.start ((fld_at ev_negConst_5).symm.trans (eqv_i (Term.int_eval (-1)) (Cond.before_iff.mp (hsets _ (List.mem_of_getElem? (i := 151) rfl)))))
  have hm_negConst_5 := (Cond.before_iff.mp (hsets _ (List.mem_of_getElem? (i := 152) rfl)))
  obtain ⟨m_negConst_5, em_negConst_5⟩ := arr_v hm_negConst_5
  have G_negConst_5 : Fld s s.heap o_negConst_5 "java/math/BigInteger" "mag" "[I" (.ref m_negConst_5) := Fld.start ((fld_at ev_negConst_5).symm.trans em_negConst_5)
  obtain ⟨cm_negConst_5, Am_negConst_5⟩ := Arr.start em_negConst_5 hm_negConst_5
  have lm_negConst_5 := eqv_i (Term.int_eval (1)) (Cond.before_iff.mp (hsets _ (List.mem_of_getElem? (i := 154) rfl)))
  obtain ⟨_, _, le1, le2, le3⟩ := Term.length_spec lm_negConst_5
  cases em_negConst_5.symm.trans le1
  cases (State.arrayAt?_spec le2).1.symm.trans Am_negConst_5.1
  have V_negConst_5 : Arv s s.heap m_negConst_5 cm_negConst_5.cls .int (1 : Int32) [.int (5 : Int32)] (.int (0 : Int32)) := Arv.start hfit Am_negConst_5 (own_len31 lm_negConst_5 em_negConst_5 Am_negConst_5.1) (Value.int.inj le3).symm (by decide) rfl ⟨(elem_in (eqv_i (Term.int_eval (5)) (Cond.before_iff.mp (hsets _ (List.mem_of_getElem? (i := 155) rfl)))) em_negConst_5 (Term.int_eval (0)) Am_negConst_5.1).2, trivial⟩
  have B_negConst_5 : own_Big s s.heap o_negConst_5 (-1 : Int32) (if (5 : Int32) = (1 : Int32) then (1 : Int32) else (0 : Int32)) := ⟨m_negConst_5, cm_negConst_5.cls, _, _, E_negConst_5, F_negConst_5, G_negConst_5, V_negConst_5, Or.inl ⟨rfl, _, rfl, rfl⟩⟩
  have el_negConst_5 := (elem_in ev_negConst_5 ev_negConst (Term.int_eval (5)) A_negConst.1).2
  obtain ⟨o_negConst_6, ev_negConst_6⟩ := exa_v (Cond.before_iff.mp (hsets _ (List.mem_of_getElem? (i := 156) rfl)))
  have E_negConst_6 : Exa s s.heap o_negConst_6 "java/math/BigInteger" := Exa.start ev_negConst_6 (Cond.before_iff.mp (hsets _ (List.mem_of_getElem? (i := 156) rfl)))
  have F_negConst_6 : Fld s s.heap o_negConst_6 "java/math/BigInteger" "signum" "I" (.int (-1 : Int32)) := Fld.start ((fld_at ev_negConst_6).symm.trans (eqv_i (Term.int_eval (-1)) (Cond.before_iff.mp (hsets _ (List.mem_of_getElem? (i := 157) rfl)))))
  have hm_negConst_6 := (Cond.before_iff.mp (hsets _ (List.mem_of_getElem? (i := 158) rfl)))
  obtain ⟨m_negConst_6, em_negConst_6⟩ := arr_v hm_negConst_6
  have G_negConst_6 : Fld s s.heap o_negConst_6 "java/math/BigInteger" "mag" "[I" (.ref m_negConst_6) := Fld.start ((fld_at ev_negConst_6).symm.trans em_negConst_6)
  obtain ⟨cm_negConst_6, Am_negConst_6⟩ := Arr.start em_negConst_6 hm_negConst_6
  have lm_negConst_6 := eqv_i (Term.int_eval (1)) (Cond.before_iff.mp (hsets _ (List.mem_of_getElem? (i := 160) rfl)))
  obtain ⟨_, _, le1, le2, le3⟩ := Term.length_spec lm_negConst_6
  cases em_negConst_6.symm.trans le1
  cases (State.arrayAt?_spec le2).1.symm.trans Am_negConst_6.1
  have V_negConst_6 : Arv s s.heap m_negConst_6 cm_negConst_6.cls .int (1 : Int32) [.int (6 : Int32)] (.int (0 : Int32)) := Arv.start hfit Am_negConst_6 (own_len31 lm_negConst_6 em_negConst_6 Am_negConst_6.1) (Value.int.inj le3).symm (by decide) rfl ⟨(elem_in (eqv_i (Term.int_eval (6)) (Cond.before_iff.mp (hsets _ (List.mem_of_getElem? (i := 161) rfl)))) em_negConst_6 (Term.int_eval (0)) Am_negConst_6.1).2, trivial⟩
  have B_negConst_6 : own_Big s s.heap o_negConst_6 (-1 : Int32) (if (6 : Int32) = (1 : Int32) then (1 : Int32) else (0 : Int32)) := ⟨m_negConst_6, cm_negConst_6.cls, _, _, E_negConst_6, F_negConst_6, G_negConst_6, V_negConst_6, Or.inl ⟨rfl, _, rfl, rfl⟩⟩
  have el_negConst_6 := (elem_in ev_negConst_6 ev_negConst (Term.int_eval (6)) A_negConst.1).2
  obtain ⟨o_negConst_7, ev_negConst_7⟩ := exa_v (Cond.before_iff.mp (hsets _ (List.mem_of_getElem? (i := 162) rfl)))
  have E_negConst_7 : Exa s s.heap o_negConst_7 "java/math/BigInteger" := Exa.start ev_negConst_7 (Cond.before_iff.mp (hsets _ (List.mem_of_getElem? (i := 162) rfl)))
  have F_negConst_7 : Fld s s.heap o_negConst_7 "java/math/BigInteger" "signum" "I" (.int (-1 : Int32)) := Fld.start ((fld_at ev_negConst_7).symm.trans (eqv_i (Term.int_eval (-1)) (Cond.before_iff.mp (hsets _ (List.mem_of_getElem? (i := 163) rfl)))))
  have hm_negConst_7 := (Cond.before_iff.mp (hsets _ (List.mem_of_getElem? (i := 164) rfl)))
  obtain ⟨m_negConst_7, em_negConst_7⟩ := arr_v hm_negConst_7
  have G_negConst_7 : Fld s s.heap o_negConst_7 "java/math/BigInteger" "mag" "[I" (.ref m_negConst_7) := Fld.start ((fld_at ev_negConst_7).symm.trans em_negConst_7)
  obtain ⟨cm_negConst_7, Am_negConst_7⟩ := Arr.start em_negConst_7 hm_negConst_7
  have lm_negConst_7 := eqv_i (Term.int_eval (1)) (Cond.before_iff.mp (hsets _ (List.mem_of_getElem? (i := 166) rfl)))
  obtain ⟨_, _, le1, le2, le3⟩ := Term.length_spec lm_negConst_7
  cases em_negConst_7.symm.trans le1
  cases (State.arrayAt?_spec le2).1.symm.trans Am_negConst_7.1
  have V_negConst_7 : Arv s s.heap m_negConst_7 cm_negConst_7.cls .int (1 : Int32) [.int (7 : Int32)] (.int (0 : Int32)) := Arv.start hfit Am_negConst_7 (own_len31 lm_negConst_7 em_negConst_7 Am_negConst_7.1) (Value.int.inj le3).symm (by decide) rfl ⟨(elem_in (eqv_i (Term.int_eval (7)) (Cond.before_iff.mp (hsets _ (List.mem_of_getElem? (i := 167) rfl)))) em_negConst_7 (Term.int_eval (0)) Am_negConst_7.1).2, trivial⟩
  have B_negConst_7 : own_Big s s.heap o_negConst_7 (-1 : Int32) (if (7 : Int32) = (1 : Int32) then (1 : Int32) else (0 : Int32)) := ⟨m_negConst_7, cm_negConst_7.cls, _, _, E_negConst_7, F_negConst_7, G_negConst_7, V_negConst_7, Or.inl ⟨rfl, _, rfl, rfl⟩⟩
  have el_negConst_7 := (elem_in ev_negConst_7 ev_negConst (Term.int_eval (7)) A_negConst.1).2
  obtain ⟨o_negConst_8, ev_negConst_8⟩ := exa_v (Cond.before_iff.mp (hsets _ (List.mem_of_getElem? (i := 168) rfl)))
  have E_negConst_8 : Exa s s.heap o_negConst_8 "java/math/BigInteger" := Exa.start ev_negConst_8 (Cond.before_iff.mp (hsets _ (List.mem_of_getElem? (i := 168) rfl)))
  have F_negConst_8 : Fld s s.heap o_negConst_8 "java/math/BigInteger" "signum" "I" (.int (-1 : Int32)) := Fld.start ((fld_at ev_negConst_8).symm.trans (eqv_i (Term.int_eval (-1)) (Cond.before_iff.mp (hsets _ (List.mem_of_getElem? (i := 169) rfl)))))
  have hm_negConst_8 := (Cond.before_iff.mp (hsets _ (List.mem_of_getElem? (i := 170) rfl)))
  obtain ⟨m_negConst_8, em_negConst_8⟩ := arr_v hm_negConst_8
  have G_negConst_8 : Fld s s.heap o_negConst_8 "java/math/BigInteger" "mag" "[I" (.ref m_negConst_8) := Fld.start ((fld_at ev_negConst_8).symm.trans em_negConst_8)
  obtain ⟨cm_negConst_8, Am_negConst_8⟩ := Arr.start em_negConst_8 hm_negConst_8
  have lm_negConst_8 := eqv_i (Term.int_eval (1)) (Cond.before_iff.mp (hsets _ (List.mem_of_getElem? (i := 172) rfl)))
  obtain ⟨_, _, le1, le2, le3⟩ := Term.length_spec lm_negConst_8
  cases em_negConst_8.symm.trans le1
  cases (State.arrayAt?_spec le2).1.symm.trans Am_negConst_8.1
  have V_negConst_8 : Arv s s.heap m_negConst_8 cm_negConst_8.cls .int (1 : Int32) [.int (8 : Int32)] (.int (0 : Int32)) := Arv.start hfit Am_negConst_8 (own_len31 lm_negConst_8 em_negConst_8 Am_negConst_8.1) (Value.int.inj le3).symm (by decide) rfl ⟨(elem_in (eqv_i (Term.int_eval (8)) (Cond.before_iff.mp (hsets _ (List.mem_of_getElem? (i := 173) rfl)))) em_negConst_8 (Term.int_eval (0)) Am_negConst_8.1).2, trivial⟩
  have B_negConst_8 : own_Big s s.heap o_negConst_8 (-1 : Int32) (if (8 : Int32) = (1 : Int32) then (1 : Int32) else (0 : Int32)) := ⟨m_negConst_8, cm_negConst_8.cls, _, _, E_negConst_8, F_negConst_8, G_negConst_8, V_negConst_8, Or.inl ⟨rfl, _, rfl, rfl⟩⟩
  have el_negConst_8 := (elem_in ev_negConst_8 ev_negConst (Term.int_eval (8)) A_negConst.1).2
  obtain ⟨o_negConst_9, ev_negConst_9⟩ := exa_v (Cond.before_iff.mp (hsets _ (List.mem_of_getElem? (i := 174) rfl)))
  have E_negConst_9 : Exa s s.heap o_negConst_9 "java/math/BigInteger" := Exa.start ev_negConst_9 (Cond.before_iff.mp (hsets _ (List.mem_of_getElem? (i := 174) rfl)))
  have F_negConst_9 : Fld s s.heap o_negConst_9 "java/math/BigInteger" "signum" "I" (.int (-1 : Int32)) := Fld.start ((fld_at ev_negConst_9).symm.trans (eqv_i (Term.int_eval (-1)) (Cond.before_iff.mp (hsets _ (List.mem_of_getElem? (i := 175) rfl)))))
  have hm_negConst_9 := (Cond.before_iff.mp (hsets _ (List.mem_of_getElem? (i := 176) rfl)))
  obtain ⟨m_negConst_9, em_negConst_9⟩ := arr_v hm_negConst_9
  have G_negConst_9 : Fld s s.heap o_negConst_9 "java/math/BigInteger" "mag" "[I" (.ref m_negConst_9) := Fld.start ((fld_at ev_negConst_9).symm.trans em_negConst_9)
  obtain ⟨cm_negConst_9, Am_negConst_9⟩ := Arr.start em_negConst_9 hm_negConst_9
  have lm_negConst_9 := eqv_i (Term.int_eval (1)) (Cond.before_iff.mp (hsets _ (List.mem_of_getElem? (i := 178) rfl)))
  obtain ⟨_, _, le1, le2, le3⟩ := Term.length_spec lm_negConst_9
  cases em_negConst_9.symm.trans le1
  cases (State.arrayAt?_spec le2).1.symm.trans Am_negConst_9.1
  have V_negConst_9 : Arv s s.heap m_negConst_9 cm_negConst_9.cls .int (1 : Int32) [.int (9 : Int32)] (.int (0 : Int32)) := Arv.start hfit Am_negConst_9 (own_len31 lm_negConst_9 em_negConst_9 Am_negConst_9.1) (Value.int.inj le3).symm (by decide) rfl ⟨(elem_in (eqv_i (Term.int_eval (9)) (Cond.before_iff.mp (hsets _ (List.mem_of_getElem? (i := 179) rfl)))) em_negConst_9 (Term.int_eval (0)) Am_negConst_9.1).2, trivial⟩
  have B_negConst_9 : own_Big s s.heap o_negConst_9 (-1 : Int32) (if (9 : Int32) = (1 : Int32) then (1 : Int32) else (0 : Int32)) := ⟨m_negConst_9, cm_negConst_9.cls, _, _, E_negConst_9, F_negConst_9, G_negConst_9, V_negConst_9, Or.inl ⟨rfl, _, rfl, rfl⟩⟩
  have el_negConst_9 := (elem_in ev_negConst_9 ev_negConst (Term.int_eval (9)) A_negConst.1).2
  obtain ⟨o_negConst_10, ev_negConst_10⟩ := exa_v (Cond.before_iff.mp (hsets _ (List.mem_of_getElem? (i := 180) rfl)))
  have E_negConst_10 : Exa s s.heap o_negConst_10 "java/math/BigInteger" := Exa.start ev_negConst_10 (Cond.before_iff.mp (hsets _ (List.mem_of_getElem? (i := 180) rfl)))
  have F_negConst_10 : Fld s s.heap o_negConst_10 "java/math/BigInteger" "signum" "I" (.int (-1 : Int32)) := Fld.start ((fld_at ev_negConst_10).symm.trans (eqv_i (Term.int_eval (-1)) (Cond.before_iff.mp (hsets _ (List.mem_of_getElem? (i := 181) rfl)))))
  have hm_negConst_10 := (Cond.before_iff.mp (hsets _ (List.mem_of_getElem? (i := 182) rfl)))
  obtain ⟨m_negConst_10, em_negConst_10⟩ := arr_v hm_negConst_10
  have G_negConst_10 : Fld s s.heap o_negConst_10 "java/math/BigInteger" "mag" "[I" (.ref m_negConst_10) := Fld.start ((fld_at ev_negConst_10).symm.trans em_negConst_10)
  obtain ⟨cm_negConst_10, Am_negConst_10⟩ := Arr.start em_negConst_10 hm_negConst_10
  have lm_negConst_10 := eqv_i (Term.int_eval (1)) (Cond.before_iff.mp (hsets _ (List.mem_of_getElem? (i := 184) rfl)))
  obtain ⟨_, _, le1, le2, le3⟩ := Term.length_spec lm_negConst_10
  cases em_negConst_10.symm.trans le1
  cases (State.arrayAt?_spec le2).1.symm.trans Am_negConst_10.1
  have V_negConst_10 : Arv s s.heap m_negConst_10 cm_negConst_10.cls .int (1 : Int32) [.int (10 : Int32)] (.int (0 : Int32)) := Arv.start hfit Am_negConst_10 (own_len31 lm_negConst_10 em_negConst_10 Am_negConst_10.1) (Value.int.inj le3).symm (by decide) rfl ⟨(elem_in (eqv_i (Term.int_eval (10)) (Cond.before_iff.mp (hsets _ (List.mem_of_getElem? (i := 185) rfl)))) em_negConst_10 (Term.int_eval (0)) Am_negConst_10.1).2, trivial⟩
  have B_negConst_10 : own_Big s s.heap o_negConst_10 (-1 : Int32) (if (10 : Int32) = (1 : Int32) then (1 : Int32) else (0 : Int32)) := ⟨m_negConst_10, cm_negConst_10.cls, _, _, E_negConst_10, F_negConst_10, G_negConst_10, V_negConst_10, Or.inl ⟨rfl, _, rfl, rfl⟩⟩
  have el_negConst_10 := (elem_in ev_negConst_10 ev_negConst (Term.int_eval (10)) A_negConst.1).2
  obtain ⟨o_negConst_11, ev_negConst_11⟩ := exa_v (Cond.before_iff.mp (hsets _ (List.mem_of_getElem? (i := 186) rfl)))
  have E_negConst_11 : Exa s s.heap o_negConst_11 "java/math/BigInteger" := Exa.start ev_negConst_11 (Cond.before_iff.mp (hsets _ (List.mem_of_getElem? (i := 186) rfl)))
  have F_negConst_11 : Fld s s.heap o_negConst_11 "java/math/BigInteger" "signum" "I" (.int (-1 : Int32)) := Fld.start ((fld_at ev_negConst_11).symm.trans (eqv_i (Term.int_eval (-1)) (Cond.before_iff.mp (hsets _ (List.mem_of_getElem? (i := 187) rfl)))))
  have hm_negConst_11 := (Cond.before_iff.mp (hsets _ (List.mem_of_getElem? (i := 188) rfl)))
  obtain ⟨m_negConst_11, em_negConst_11⟩ := arr_v hm_negConst_11
  have G_negConst_11 : Fld s s.heap o_negConst_11 "java/math/BigInteger" "mag" "[I" (.ref m_negConst_11) := Fld.start ((fld_at ev_negConst_11).symm.trans em_negConst_11)
  obtain ⟨cm_negConst_11, Am_negConst_11⟩ := Arr.start em_negConst_11 hm_negConst_11
  have lm_negConst_11 := eqv_i (Term.int_eval (1)) (Cond.before_iff.mp (hsets _ (List.mem_of_getElem? (i := 190) rfl)))
  obtain ⟨_, _, le1, le2, le3⟩ := Term.length_spec lm_negConst_11
  cases em_negConst_11.symm.trans le1
  cases (State.arrayAt?_spec le2).1.symm.trans Am_negConst_11.1
  have V_negConst_11 : Arv s s.heap m_negConst_11 cm_negConst_11.cls .int (1 : Int32) [.int (11 : Int32)] (.int (0 : Int32)) := Arv.start hfit Am_negConst_11 (own_len31 lm_negConst_11 em_negConst_11 Am_negConst_11.1) (Value.int.inj le3).symm (by decide) rfl ⟨(elem_in (eqv_i (Term.int_eval (11)) (Cond.before_iff.mp (hsets _ (List.mem_of_getElem? (i := 191) rfl)))) em_negConst_11 (Term.int_eval (0)) Am_negConst_11.1).2, trivial⟩
  have B_negConst_11 : own_Big s s.heap o_negConst_11 (-1 : Int32) (if (11 : Int32) = (1 : Int32) then (1 : Int32) else (0 : Int32)) := ⟨m_negConst_11, cm_negConst_11.cls, _, _, E_negConst_11, F_negConst_11, G_negConst_11, V_negConst_11, Or.inl ⟨rfl, _, rfl, rfl⟩⟩
  have el_negConst_11 := (elem_in ev_negConst_11 ev_negConst (Term.int_eval (11)) A_negConst.1).2
  obtain ⟨o_negConst_12, ev_negConst_12⟩ := exa_v (Cond.before_iff.mp (hsets _ (List.mem_of_getElem? (i := 192) rfl)))
  have E_negConst_12 : Exa s s.heap o_negConst_12 "java/math/BigInteger" := Exa.start ev_negConst_12 (Cond.before_iff.mp (hsets _ (List.mem_of_getElem? (i := 192) rfl)))
  have F_negConst_12 : Fld s s.heap o_negConst_12 "java/math/BigInteger" "signum" "I" (.int (-1 : Int32)) := Fld.start ((fld_at ev_negConst_12).symm.trans (eqv_i (Term.int_eval (-1)) (Cond.before_iff.mp (hsets _ (List.mem_of_getElem? (i := 193) rfl)))))
  have hm_negConst_12 := (Cond.before_iff.mp (hsets _ (List.mem_of_getElem? (i := 194) rfl)))
  obtain ⟨m_negConst_12, em_negConst_12⟩ := arr_v hm_negConst_12
  have G_negConst_12 : Fld s s.heap o_negConst_12 "java/math/BigInteger" "mag" "[I" (.ref m_negConst_12) := Fld.start ((fld_at ev_negConst_12).symm.trans em_negConst_12)
  obtain ⟨cm_negConst_12, Am_negConst_12⟩ := Arr.start em_negConst_12 hm_negConst_12
  have lm_negConst_12 := eqv_i (Term.int_eval (1)) (Cond.before_iff.mp (hsets _ (List.mem_of_getElem? (i := 196) rfl)))
  obtain ⟨_, _, le1, le2, le3⟩ := Term.length_spec lm_negConst_12
  cases em_negConst_12.symm.trans le1
  cases (State.arrayAt?_spec le2).1.symm.trans Am_negConst_12.1
  have V_negConst_12 : Arv s s.heap m_negConst_12 cm_negConst_12.cls .int (1 : Int32) [.int (12 : Int32)] (.int (0 : Int32)) := Arv.start hfit Am_negConst_12 (own_len31 lm_negConst_12 em_negConst_12 Am_negConst_12.1) (Value.int.inj le3).symm (by decide) rfl ⟨(elem_in (eqv_i (Term.int_eval (12)) (Cond.before_iff.mp (hsets _ (List.mem_of_getElem? (i := 197) rfl)))) em_negConst_12 (Term.int_eval (0)) Am_negConst_12.1).2, trivial⟩
  have B_negConst_12 : own_Big s s.heap o_negConst_12 (-1 : Int32) (if (12 : Int32) = (1 : Int32) then (1 : Int32) else (0 : Int32)) := ⟨m_negConst_12, cm_negConst_12.cls, _, _, E_negConst_12, F_negConst_12, G_negConst_12, V_negConst_12, Or.inl ⟨rfl, _, rfl, rfl⟩⟩
  have el_negConst_12 := (elem_in ev_negConst_12 ev_negConst (Term.int_eval (12)) A_negConst.1).2
  obtain ⟨o_negConst_13, ev_negConst_13⟩ := exa_v (Cond.before_iff.mp (hsets _ (List.mem_of_getElem? (i := 198) rfl)))
  have E_negConst_13 : Exa s s.heap o_negConst_13 "java/math/BigInteger" := Exa.start ev_negConst_13 (Cond.before_iff.mp (hsets _ (List.mem_of_getElem? (i := 198) rfl)))
  have F_negConst_13 : Fld s s.heap o_negConst_13 "java/math/BigInteger" "signum" "I" (.int (-1 : Int32)) := Fld.start ((fld_at ev_negConst_13).symm.trans (eqv_i (Term.int_eval (-1)) (Cond.before_iff.mp (hsets _ (List.mem_of_getElem? (i := 199) rfl)))))
  have hm_negConst_13 := (Cond.before_iff.mp (hsets _ (List.mem_of_getElem? (i := 200) rfl)))
  obtain ⟨m_negConst_13, em_negConst_13⟩ := arr_v hm_negConst_13
  have G_negConst_13 : Fld s s.heap o_negConst_13 "java/math/BigInteger" "mag" "[I" (.ref m_negConst_13) := Fld.start ((fld_at ev_negConst_13).symm.trans em_negConst_13)
  obtain ⟨cm_negConst_13, Am_negConst_13⟩ := Arr.start em_negConst_13 hm_negConst_13
  have lm_negConst_13 := eqv_i (Term.int_eval (1)) (Cond.before_iff.mp (hsets _ (List.mem_of_getElem? (i := 202) rfl)))
  obtain ⟨_, _, le1, le2, le3⟩ := Term.length_spec lm_negConst_13
  cases em_negConst_13.symm.trans le1
  cases (State.arrayAt?_spec le2).1.symm.trans Am_negConst_13.1
  have V_negConst_13 : Arv s s.heap m_negConst_13 cm_negConst_13.cls .int (1 : Int32) [.int (13 : Int32)] (.int (0 : Int32)) := Arv.start hfit Am_negConst_13 (own_len31 lm_negConst_13 em_negConst_13 Am_negConst_13.1) (Value.int.inj le3).symm (by decide) rfl ⟨(elem_in (eqv_i (Term.int_eval (13)) (Cond.before_iff.mp (hsets _ (List.mem_of_getElem? (i := 203) rfl)))) em_negConst_13 (Term.int_eval (0)) Am_negConst_13.1).2, trivial⟩
  have B_negConst_13 : own_Big s s.heap o_negConst_13 (-1 : Int32) (if (13 : Int32) = (1 : Int32) then (1 : Int32) else (0 : Int32)) := ⟨m_negConst_13, cm_negConst_13.cls, _, _, E_negConst_13, F_negConst_13, G_negConst_13, V_negConst_13, Or.inl ⟨rfl, _, rfl, rfl⟩⟩
  have el_negConst_13 := (elem_in ev_negConst_13 ev_negConst (Term.int_eval (13)) A_negConst.1).2
  obtain ⟨o_negConst_14, ev_negConst_14⟩ := exa_v (Cond.before_iff.mp (hsets _ (List.mem_of_getElem? (i := 204) rfl)))
  have E_negConst_14 : Exa s s.heap o_negConst_14 "java/math/BigInteger" := Exa.start ev_negConst_14 (Cond.before_iff.mp (hsets _ (List.mem_of_getElem? (i := 204) rfl)))
  have F_negConst_14 : Fld s s.heap o_negConst_14 "java/math/BigInteger" "signum" "I" (.int (-1 : Int32)) := Fld.start ((fld_at ev_negConst_14).symm.trans (eqv_i (Term.int_eval (-1)) (Cond.before_iff.mp (hsets _ (List.mem_of_getElem? (i := 205) rfl)))))
  have hm_negConst_14 := (Cond.before_iff.mp (hsets _ (List.mem_of_getElem? (i := 206) rfl)))
  obtain ⟨m_negConst_14, em_negConst_14⟩ := arr_v hm_negConst_14
  have G_negConst_14 : Fld s s.heap o_negConst_14 "java/math/BigInteger" "mag" "[I" (.ref m_negConst_14) := Fld.start ((fld_at ev_negConst_14).symm.trans em_negConst_14)
  obtain ⟨cm_negConst_14, Am_negConst_14⟩ := Arr.start em_negConst_14 hm_negConst_14
  have lm_negConst_14 := eqv_i (Term.int_eval (1)) (Cond.before_iff.mp (hsets _ (List.mem_of_getElem? (i := 208) rfl)))
  obtain ⟨_, _, le1, le2, le3⟩ := Term.length_spec lm_negConst_14
  cases em_negConst_14.symm.trans le1
  cases (State.arrayAt?_spec le2).1.symm.trans Am_negConst_14.1
  have V_negConst_14 : Arv s s.heap m_negConst_14 cm_negConst_14.cls .int (1 : Int32) [.int (14 : Int32)] (.int (0 : Int32)) := Arv.start hfit Am_negConst_14 (own_len31 lm_negConst_14 em_negConst_14 Am_negConst_14.1) (Value.int.inj le3).symm (by decide) rfl ⟨(elem_in (eqv_i (Term.int_eval (14)) (Cond.before_iff.mp (hsets _ (List.mem_of_getElem? (i := 209) rfl)))) em_negConst_14 (Term.int_eval (0)) Am_negConst_14.1).2, trivial⟩
  have B_negConst_14 : own_Big s s.heap o_negConst_14 (-1 : Int32) (if (14 : Int32) = (1 : Int32) then (1 : Int32) else (0 : Int32)) := ⟨m_negConst_14, cm_negConst_14.cls, _, _, E_negConst_14, F_negConst_14, G_negConst_14, V_negConst_14, Or.inl ⟨rfl, _, rfl, rfl⟩⟩
  have el_negConst_14 := (elem_in ev_negConst_14 ev_negConst (Term.int_eval (14)) A_negConst.1).2
  obtain ⟨o_negConst_15, ev_negConst_15⟩ := exa_v (Cond.before_iff.mp (hsets _ (List.mem_of_getElem? (i := 210) rfl)))
  have E_negConst_15 : Exa s s.heap o_negConst_15 "java/math/BigInteger" := Exa.start ev_negConst_15 (Cond.before_iff.mp (hsets _ (List.mem_of_getElem? (i := 210) rfl)))
  have F_negConst_15 : Fld s s.heap o_negConst_15 "java/math/BigInteger" "signum" "I" (.int (-1 : Int32)) := Fld.start ((fld_at ev_negConst_15).symm.trans (eqv_i (Term.int_eval (-1)) (Cond.before_iff.mp (hsets _ (List.mem_of_getElem? (i := 211) rfl)))))
  have hm_negConst_15 := (Cond.before_iff.mp (hsets _ (List.mem_of_getElem? (i := 212) rfl)))
  obtain ⟨m_negConst_15, em_negConst_15⟩ := arr_v hm_negConst_15
  have G_negConst_15 : Fld s s.heap o_negConst_15 "java/math/BigInteger" "mag" "[I" (.ref m_negConst_15) := Fld.start ((fld_at ev_negConst_15).symm.trans em_negConst_15)
  obtain ⟨cm_negConst_15, Am_negConst_15⟩ := Arr.start em_negConst_15 hm_negConst_15
  have lm_negConst_15 := eqv_i (Term.int_eval (1)) (Cond.before_iff.mp (hsets _ (List.mem_of_getElem? (i := 214) rfl)))
  obtain ⟨_, _, le1, le2, le3⟩ := Term.length_spec lm_negConst_15
  cases em_negConst_15.symm.trans le1
  cases (State.arrayAt?_spec le2).1.symm.trans Am_negConst_15.1
  have V_negConst_15 : Arv s s.heap m_negConst_15 cm_negConst_15.cls .int (1 : Int32) [.int (15 : Int32)] (.int (0 : Int32)) := Arv.start hfit Am_negConst_15 (own_len31 lm_negConst_15 em_negConst_15 Am_negConst_15.1) (Value.int.inj le3).symm (by decide) rfl ⟨(elem_in (eqv_i (Term.int_eval (15)) (Cond.before_iff.mp (hsets _ (List.mem_of_getElem? (i := 215) rfl)))) em_negConst_15 (Term.int_eval (0)) Am_negConst_15.1).2, trivial⟩
  have B_negConst_15 : own_Big s s.heap o_negConst_15 (-1 : Int32) (if (15 : Int32) = (1 : Int32) then (1 : Int32) else (0 : Int32)) := ⟨m_negConst_15, cm_negConst_15.cls, _, _, E_negConst_15, F_negConst_15, G_negConst_15, V_negConst_15, Or.inl ⟨rfl, _, rfl, rfl⟩⟩
  have el_negConst_15 := (elem_in ev_negConst_15 ev_negConst (Term.int_eval (15)) A_negConst.1).2
  obtain ⟨o_negConst_16, ev_negConst_16⟩ := exa_v (Cond.before_iff.mp (hsets _ (List.mem_of_getElem? (i := 216) rfl)))
  have E_negConst_16 : Exa s s.heap o_negConst_16 "java/math/BigInteger" := Exa.start ev_negConst_16 (Cond.before_iff.mp (hsets _ (List.mem_of_getElem? (i := 216) rfl)))
  have F_negConst_16 : Fld s s.heap o_negConst_16 "java/math/BigInteger" "signum" "I" (.int (-1 : Int32)) := Fld.start ((fld_at ev_negConst_16).symm.trans (eqv_i (Term.int_eval (-1)) (Cond.before_iff.mp (hsets _ (List.mem_of_getElem? (i := 217) rfl)))))
  have hm_negConst_16 := (Cond.before_iff.mp (hsets _ (List.mem_of_getElem? (i := 218) rfl)))
  obtain ⟨m_negConst_16, em_negConst_16⟩ := arr_v hm_negConst_16
  have G_negConst_16 : Fld s s.heap o_negConst_16 "java/math/BigInteger" "mag" "[I" (.ref m_negConst_16) := Fld.start ((fld_at ev_negConst_16).symm.trans em_negConst_16)
  obtain ⟨cm_negConst_16, Am_negConst_16⟩ := Arr.start em_negConst_16 hm_negConst_16
  have lm_negConst_16 := eqv_i (Term.int_eval (1)) (Cond.before_iff.mp (hsets _ (List.mem_of_getElem? (i := 220) rfl)))
  obtain ⟨_, _, le1, le2, le3⟩ := Term.length_spec lm_negConst_16
  cases em_negConst_16.symm.trans le1
  cases (State.arrayAt?_spec le2).1.symm.trans Am_negConst_16.1
  have V_negConst_16 : Arv s s.heap m_negConst_16 cm_negConst_16.cls .int (1 : Int32) [.int (16 : Int32)] (.int (0 : Int32)) := Arv.start hfit Am_negConst_16 (own_len31 lm_negConst_16 em_negConst_16 Am_negConst_16.1) (Value.int.inj le3).symm (by decide) rfl ⟨(elem_in (eqv_i (Term.int_eval (16)) (Cond.before_iff.mp (hsets _ (List.mem_of_getElem? (i := 221) rfl)))) em_negConst_16 (Term.int_eval (0)) Am_negConst_16.1).2, trivial⟩
  have B_negConst_16 : own_Big s s.heap o_negConst_16 (-1 : Int32) (if (16 : Int32) = (1 : Int32) then (1 : Int32) else (0 : Int32)) := ⟨m_negConst_16, cm_negConst_16.cls, _, _, E_negConst_16, F_negConst_16, G_negConst_16, V_negConst_16, Or.inl ⟨rfl, _, rfl, rfl⟩⟩
  have el_negConst_16 := (elem_in ev_negConst_16 ev_negConst (Term.int_eval (16)) A_negConst.1).2
  have T_negConst : own_Tab s a_negConst c_negConst (-1 : Int32) := by
    refine ⟨A_negConst, sz_negConst, fun j h1 h2 => ?_⟩
    have q := own_cases16 j h1 h2
    rcases q with rfl | rfl | rfl | rfl | rfl | rfl | rfl | rfl | rfl | rfl | rfl | rfl | rfl | rfl | rfl | rfl
    · exact ⟨_, el_negConst_1, B_negConst_1⟩
    · exact ⟨_, el_negConst_2, B_negConst_2⟩
    · exact ⟨_, el_negConst_3, B_negConst_3⟩
    · exact ⟨_, el_negConst_4, B_negConst_4⟩
    · exact ⟨_, el_negConst_5, B_negConst_5⟩
    · exact ⟨_, el_negConst_6, B_negConst_6⟩
    · exact ⟨_, el_negConst_7, B_negConst_7⟩
    · exact ⟨_, el_negConst_8, B_negConst_8⟩
    · exact ⟨_, el_negConst_9, B_negConst_9⟩
    · exact ⟨_, el_negConst_10, B_negConst_10⟩
    · exact ⟨_, el_negConst_11, B_negConst_11⟩
    · exact ⟨_, el_negConst_12, B_negConst_12⟩
    · exact ⟨_, el_negConst_13, B_negConst_13⟩
    · exact ⟨_, el_negConst_14, B_negConst_14⟩
    · exact ⟨_, el_negConst_15, B_negConst_15⟩
    · exact ⟨_, el_negConst_16, B_negConst_16⟩
  obtain ⟨o_ONE, ev_ONE⟩ := exa_v (Cond.before_iff.mp (hsets _ (List.mem_of_getElem? (i := 112) rfl)))
  have E_ONE : Exa s s.heap o_ONE "java/math/BigInteger" := Exa.start ev_ONE (Cond.before_iff.mp (hsets _ (List.mem_of_getElem? (i := 112) rfl)))
  have F_ONE : Fld s s.heap o_ONE "java/math/BigInteger" "signum" "I" (.int (1 : Int32)) := Fld.start ((fld_at ev_ONE).symm.trans (eqv_i (Term.int_eval (1)) (Cond.before_iff.mp (hsets _ (List.mem_of_getElem? (i := 113) rfl)))))
  have hm_ONE := (Cond.before_iff.mp (hsets _ (List.mem_of_getElem? (i := 114) rfl)))
  obtain ⟨m_ONE, em_ONE⟩ := arr_v hm_ONE
  have G_ONE : Fld s s.heap o_ONE "java/math/BigInteger" "mag" "[I" (.ref m_ONE) := Fld.start ((fld_at ev_ONE).symm.trans em_ONE)
  obtain ⟨cm_ONE, Am_ONE⟩ := Arr.start em_ONE hm_ONE
  have lm_ONE := eqv_i (Term.int_eval (1)) (Cond.before_iff.mp (hsets _ (List.mem_of_getElem? (i := 116) rfl)))
  obtain ⟨_, _, le1, le2, le3⟩ := Term.length_spec lm_ONE
  cases em_ONE.symm.trans le1
  cases (State.arrayAt?_spec le2).1.symm.trans Am_ONE.1
  have V_ONE : Arv s s.heap m_ONE cm_ONE.cls .int (1 : Int32) [.int (1 : Int32)] (.int (0 : Int32)) := Arv.start hfit Am_ONE (own_len31 lm_ONE em_ONE Am_ONE.1) (Value.int.inj le3).symm (by decide) rfl ⟨(elem_in (eqv_i (Term.int_eval (1)) (Cond.before_iff.mp (hsets _ (List.mem_of_getElem? (i := 117) rfl)))) em_ONE (Term.int_eval (0)) Am_ONE.1).2, trivial⟩
  have B_ONE : own_Big s s.heap o_ONE (1 : Int32) (if (1 : Int32) = (1 : Int32) then (1 : Int32) else (0 : Int32)) := ⟨m_ONE, cm_ONE.cls, _, _, E_ONE, F_ONE, G_ONE, V_ONE, Or.inl ⟨rfl, _, rfl, rfl⟩⟩
  have S_ONE : Sta s s.heap "java/math/BigInteger" "ONE" "Ljava/math/BigInteger;" (.ref o_ONE) := Sta.start ev_ONE (Or.inl (hsets _ (List.mem_of_getElem? (i := 3) rfl)))
  obtain ⟨n, o, h1, h2, h3, _, L, rfl, ⟨rfl, N⟩, hq⟩ := rm0 l s _ hw tables_1 i0 i1 i2 i3 _ _ _ _ i4 _ _ _ _ _ o_ONE m_ONE a_posConst a_negConst cm_ONE.cls c_posConst c_negConst s.heap s.heap.size (Old.start s) S_ONE E_ONE F_ONE G_ONE V_ONE S_posConst S_negConst T_posConst T_negConst rfl (own_cases5 _ (own_mod i4 5 (by decide))) rfl rfl (own_nz_ne _) rfl rfl (own_nz_ne _) rfl rfl (own_nz_ne _) rfl rfl (own_nz_ne _) p e ha hc hk s m _ below hf ((Spec.applies_iff_loose hf).mp happ).1 ⟨rfl, State.Warmed39.refl s, rfl⟩ trivial
  refine ⟨n, _, h1, h2, h3, hpost _ _ _ _ _ _ ⟨Cond.after_iff.mpr rfl, Cond.after_iff.mpr (eq_i res_at (Term.int_eval (1)) rfl), trivial⟩ ⟨hq.1, hq.2.1, (hq.2.2.sift fun y hy => Or.inr (N y hy)).mono (by decide) (by decide)⟩⟩
theorem main_1_1 : Claimed_1_1 := comes_1 fun _ _ _ _ _ _ h hF => ⟨h.1, hF⟩
theorem main_1_2 : Claimed_1_2 := comes_1 fun _ _ _ _ _ _ h hF => ⟨h.2.1, hF⟩
end Jvm.Pilot.@@N@@
namespace Jvm.Pilot.@@N@@
open Jvm Jvm.ClassFile Sem Op Lib Jvm.Free Jvm.Stand Jvm.Pilot.@@N@@.Jvm.D
/-! MADE BY PROGRAM (witnessworld.py) out of the Statement's table words and the real class files: 13 classes; the members and pool entries that the words name. The judged class is class 1, her method 1. -/
namespace start1
open Jvm.ClassFile
def u (s : String) : CpInfo := .utf8 (stringToUtf16 s)
/-- a pool by its gaps: so many unusable entries, then the entry; so many at the end -/
def gap : Nat → List CpInfo → List CpInfo
  | 0, r => r
  | n + 1, r => .unusable :: gap n r
def poolList (es : List (Nat × CpInfo)) (last : Nat) : List CpInfo := es.foldr (fun e r => gap e.1 (e.2 :: r)) (gap last [])
def pool (es : List (Nat × CpInfo)) (last : Nat) : Array CpInfo := ⟨poolList es last⟩
def fileOf (pool : Array CpInfo) (this : Nat) (attrs : Array Attribute := #[]) (ms : Array MethodInfo := #[]) (fl : Nat := 33) (sup : Nat := 0) (ifs : Array Nat := #[]) (fds : Array FieldInfo := #[]) : ClassFile where
  minorVersion := 0
  majorVersion := 65
  constantPool := pool
  accessFlags := fl
  thisClass := this
  superClass := sup
  interfaces := ifs
  fields := fds
  methods := ms
  attributes := attrs
def plain (name : String) (sup : Option ClassId) : Class where
  name := name
  kind := .ordinary
  loader := none
  accessFlags := 33
  super := sup
  interfaces := #[]
  cf := none
  fields := #[]
  methods := #[]
  instanceTypes := #[]
  staticTypes := #[]
  resolved := #[]
  callSites := []
  init := .initialized
  statics := none
  mirror := none

def pool0 : Array CpInfo := pool [(5, u "<init>"), (0, u "()V"), (1, .class_ 10), (1, u "java/lang/Object")] 113

def k0c0 : Code := { maxStack := 0, maxLocals := 1, code := object_method_1_code, exceptionTable := #[], attributes := #[] }
def k0m0 : Method := { name := "<init>", desc := "()V", sig := { parameters := [], returnType := none }, accessFlags := 1, code := some k0c0 }
/-- java/lang/Object -/
def k0 : Class := { plain "java/lang/Object" none with
  accessFlags := 33
  interfaces := #[]
  cf := some (fileOf pool0 8 #[] #[{ accessFlags := 1, nameIndex := 5, descriptorIndex := 6, attributes := #[] }] 33 0 #[] #[])
  fields := #[]
  methods := #[k0m0]
  instanceTypes := #[]
  staticTypes := #[]
  resolved := Array.replicate 124 none
  statics := none }

def pool1 : Array CpInfo := pool [(2, .class_ 4), (0, .nameAndType 5 6), (0, u "java/lang/Object"), (0, u "<init>"), (0, u "()V"), (0, .integer 2147483647), (0, .methodref 9 10), (0, .class_ 11), (0, .nameAndType 12 13), (0, u "com/example/liftwise/liftwise/eval/arithmetic/SidesIsOneSidedPinLaw"), (0, u "nonZero"), (0, u "(J)J"), (0, .methodref 15 16), (0, .class_ 17), (0, .nameAndType 18 19), (0, u "java/math/BigInteger"), (0, u "valueOf"), (0, u "(J)Ljava/math/BigInteger;"), (0, .class_ 21), (0, u "com/example/liftwise/liftwise/eval/arithmetic/Solver$Sides"), (0, .methodref 20 3), (0, .methodref 20 24), (0, .nameAndType 25 26), (0, u "add"), (0, u "(Ljava/math/BigInteger;)V"), (0, .methodref 9 28), (0, .nameAndType 29 30), (0, u "positive"), (0, u "(ZJ)I"), (0, .methodref 20 32), (0, .nameAndType 33 34), (0, u "isOneSided"), (0, u "()Z"), (2, u "law"), (0, u "(JJJJI)Z")] 7

def k1m0 : Method := { name := "<init>", desc := "()V", sig := { parameters := [], returnType := none }, accessFlags := 1, code := none }
def k1c1 : Code := { maxStack := 4, maxLocals := 26, code := code, exceptionTable := #[], attributes := #[] }
def k1m1 : Method := { name := "law", desc := "(JJJJI)Z", sig := { parameters := [.long, .long, .long, .long, .int], returnType := some .boolean }, accessFlags := 9, code := some k1c1 }
def k1c2 : Code := { maxStack := 4, maxLocals := 2, code := method_3_code, exceptionTable := #[], attributes := #[] }
def k1m2 : Method := { name := "nonZero", desc := "(J)J", sig := { parameters := [.long], returnType := some .long }, accessFlags := 10, code := some k1c2 }
def k1c3 : Code := { maxStack := 4, maxLocals := 3, code := method_4_code, exceptionTable := #[], attributes := #[] }
def k1m3 : Method := { name := "positive", desc := "(ZJ)I", sig := { parameters := [.boolean, .long], returnType := some .int }, accessFlags := 10, code := some k1c3 }
/-- com/example/liftwise/liftwise/eval/arithmetic/SidesIsOneSidedPinLaw -/
def k1 : Class := { plain "com/example/liftwise/liftwise/eval/arithmetic/SidesIsOneSidedPinLaw" (some 0) with
  accessFlags := 49
  interfaces := #[]
  cf := some (fileOf pool1 9 #[] #[{ accessFlags := 1, nameIndex := 5, descriptorIndex := 6, attributes := #[] }, { accessFlags := 9, nameIndex := 37, descriptorIndex := 38, attributes := #[] }, { accessFlags := 10, nameIndex := 12, descriptorIndex := 13, attributes := #[] }, { accessFlags := 10, nameIndex := 29, descriptorIndex := 30, attributes := #[] }] 49 2 #[] #[])
  fields := #[]
  methods := #[k1m0, k1m1, k1m2, k1m3]
  instanceTypes := #[]
  staticTypes := #[]
  resolved := Array.replicate 46 none
  statics := none }

def pool2 : Array CpInfo := pool [(1, .class_ 2), (0, u "java/io/Serializable"), (0, .class_ 4), (0, u "java/lang/Object")] 2

/-- java/io/Serializable -/
def k2 : Class := { plain "java/io/Serializable" (some 0) with
  accessFlags := 1537
  interfaces := #[]
  cf := some (fileOf pool2 1 #[] #[] 1537 3 #[] #[])
  fields := #[]
  methods := #[]
  instanceTypes := #[]
  staticTypes := #[]
  resolved := Array.replicate 7 none
  statics := none }

def pool3 : Array CpInfo := pool [(1, .methodref 2 3), (0, .class_ 4), (0, .nameAndType 5 6), (0, u "java/lang/Object"), (0, u "<init>"), (0, u "()V"), (1, .class_ 10), (1, u "java/lang/Number"), (2, .class_ 14), (0, u "java/io/Serializable"), (0, u "serialVersionUID"), (0, u "J")] 20

def k3c0 : Code := { maxStack := 1, maxLocals := 1, code := jdk_18_method_1_code, exceptionTable := #[], attributes := #[] }
def k3m0 : Method := { name := "<init>", desc := "()V", sig := { parameters := [], returnType := none }, accessFlags := 1, code := some k3c0 }
/-- java/lang/Number -/
def k3 : Class := { plain "java/lang/Number" (some 0) with
  accessFlags := 1057
  interfaces := #[2]
  cf := some (fileOf pool3 8 #[] #[{ accessFlags := 1, nameIndex := 5, descriptorIndex := 6, attributes := #[] }] 1057 2 #[13] #[{ accessFlags := 26, nameIndex := 15, descriptorIndex := 16, attributes := #[] }])
  fields := #[{ name := "serialVersionUID", type := .long, accessFlags := 26, slot := 0, constantValue := 0 }]
  methods := #[k3m0]
  instanceTypes := #[]
  staticTypes := #[.long]
  resolved := Array.replicate 37 none
  statics := none }

def pool4 : Array CpInfo := pool [(1, .class_ 2), (0, u "java/lang/Comparable"), (0, .class_ 4), (0, u "java/lang/Object")] 7

/-- java/lang/Comparable -/
def k4 : Class := { plain "java/lang/Comparable" (some 0) with
  accessFlags := 1537
  interfaces := #[]
  cf := some (fileOf pool4 1 #[] #[] 1537 3 #[] #[])
  fields := #[]
  methods := #[]
  instanceTypes := #[]
  staticTypes := #[]
  resolved := Array.replicate 12 none
  statics := none }

def pool5 : Array CpInfo := pool [(3, .methodref 4 5), (0, .class_ 6), (0, .nameAndType 7 8), (0, u "java/lang/Number"), (0, u "<init>"), (0, u "()V"), (14, .class_ 25), (1, u "java/math/BigInteger"), (0, u "ZERO"), (0, u "Ljava/math/BigInteger;"), (0, .fieldref 23 29), (0, .nameAndType 30 31), (0, u "mag"), (0, u "[I"), (0, .fieldref 23 33), (0, .nameAndType 34 35), (0, u "signum"), (0, u "I"), (7, .integer 67108864), (30, u "()I"), (20, u "bitsPerDigit"), (0, u "[J"), (9, u "digitsPerInt"), (12, u "intRadix"), (55, .methodref 23 176), (0, .nameAndType 7 177), (0, u "([II)V"), (2, u "SMALL_PRIME_PRODUCT"), (56, u "valueOf"), (0, u "(J)Ljava/math/BigInteger;"), (21, u "ONE"), (2, u "equals"), (0, u "(Ljava/lang/Object;)Z"), (2, u "TWO"), (30, u "abs"), (12, u "$assertionsDisabled"), (0, u "Z"), (9, u "()Ljava/math/BigInteger;"), (22, .long 16), (1, .fieldref 23 348), (0, .nameAndType 349 350), (0, u "posConst"), (0, u "[Ljava/math/BigInteger;"), (0, .long 18446744073709551600), (1, .fieldref 23 354), (0, .nameAndType 355 350), (0, u "negConst"), (0, .methodref 23 357), (0, .nameAndType 7 358), (0, u "(J)V"), (35, .methodref 23 395), (0, .nameAndType 396 322), (0, u "negate"), (75, .class_ 474), (1, u "java/math/BigInteger$RecursiveOp"), (106, u "NEGATIVE_ONE"), (91, u "bnExpModThreshTable"), (72, u "lowestSetBitPlusTwo"), (2, u "bitLengthPlusOne"), (2, u "bitCountPlusOne"), (6, u "LOG_TWO"), (0, u "D"), (2, u "logCache"), (0, u "[D"), (13, u "NUM_ZEROS"), (2, u "ZEROS"), (0, u "Ljava/lang/String;"), (9, u "longRadix"), (5, u "digitsPerLong"), (22, u "powerCache"), (0, u "[[Ljava/math/BigInteger;"), (45, u "firstNonzeroIntNumPlusTwo"), (38, .class_ 909), (1, u "java/math/BigInteger$UnsafeHolder"), (141, u "TEN"), (106, u "serialPersistentFields"), (0, u "[Ljava/io/ObjectStreamField;"), (0, .class_ 1161), (0, u "java/lang/Comparable"), (0, u "LONG_MASK"), (0, u "J"), (1, u "MAX_MAG_LENGTH"), (0, u "PRIME_SEARCH_BIT_LENGTH_LIMIT"), (1, u "KARATSUBA_THRESHOLD"), (1, u "TOOM_COOK_THRESHOLD"), (1, u "KARATSUBA_SQUARE_THRESHOLD"), (1, u "TOOM_COOK_SQUARE_THRESHOLD"), (1, u "BURNIKEL_ZIEGLER_THRESHOLD"), (0, u "BURNIKEL_ZIEGLER_OFFSET"), (1, u "SCHOENHAGE_BASE_CONVERSION_THRESHOLD"), (1, u "MULTIPLY_SQUARE_THRESHOLD"), (0, u "MONTGOMERY_INTRINSIC_THRESHOLD"), (1, u "SMALL_PRIME_THRESHOLD"), (1, u "DEFAULT_PRIME_CERTAINTY"), (1, u "MAX_CONSTANT"), (3, u "serialVersionUID"), (338, .class_ 1532), (0, u "java/math/BigInteger$RecursiveOp$RecursiveSquare"), (0, .class_ 1534), (0, u "java/math/BigInteger$RecursiveOp$RecursiveMultiply")] 7

def k5c0 : Code := { maxStack := 2, maxLocals := 3, code := jdk_2097_method_25_code, exceptionTable := #[], attributes := #[] }
def k5m0 : Method := { name := "<init>", desc := "([II)V", sig := { parameters := [(.array .int), .int], returnType := none }, accessFlags := 0, code := some k5c0 }
def k5c1 : Code := { maxStack := 4, maxLocals := 2, code := jdk_2097_method_29_code, exceptionTable := #[], attributes := #[] }
def k5m1 : Method := { name := "valueOf", desc := "(J)Ljava/math/BigInteger;", sig := { parameters := [.long], returnType := some (.object "java/math/BigInteger") }, accessFlags := 9, code := some k5c1 }
def k5c2 : Code := { maxStack := 4, maxLocals := 4, code := jdk_2097_method_30_code, exceptionTable := #[], attributes := #[] }
def k5m2 : Method := { name := "<init>", desc := "(J)V", sig := { parameters := [.long], returnType := none }, accessFlags := 2, code := some k5c2 }
def k5c3 : Code := { maxStack := 1, maxLocals := 1, code := jdk_2097_method_79_code, exceptionTable := #[], attributes := #[] }
def k5m3 : Method := { name := "abs", desc := "()Ljava/math/BigInteger;", sig := { parameters := [], returnType := some (.object "java/math/BigInteger") }, accessFlags := 1, code := some k5c3 }
def k5c4 : Code := { maxStack := 4, maxLocals := 1, code := jdk_2097_method_80_code, exceptionTable := #[], attributes := #[] }
def k5m4 : Method := { name := "negate", desc := "()Ljava/math/BigInteger;", sig := { parameters := [], returnType := some (.object "java/math/BigInteger") }, accessFlags := 1, code := some k5c4 }
def k5c5 : Code := { maxStack := 1, maxLocals := 1, code := jdk_2097_method_81_code, exceptionTable := #[], attributes := #[] }
def k5m5 : Method := { name := "signum", desc := "()I", sig := { parameters := [], returnType := some .int }, accessFlags := 1, code := some k5c5 }
def k5c6 : Code := { maxStack := 3, maxLocals := 7, code := jdk_2097_method_124_code, exceptionTable := #[], attributes := #[] }
def k5m6 : Method := { name := "equals", desc := "(Ljava/lang/Object;)Z", sig := { parameters := [(.object "java/lang/Object")], returnType := some .boolean }, accessFlags := 1, code := some k5c6 }
/-- java/math/BigInteger -/
def k5 : Class := { plain "java/math/BigInteger" (some 3) with
  accessFlags := 33
  interfaces := #[4]
  cf := some (fileOf pool5 23 #[.nestMembers #[907, 472, 1531, 1533]] #[{ accessFlags := 0, nameIndex := 7, descriptorIndex := 177, attributes := #[] }, { accessFlags := 9, nameIndex := 237, descriptorIndex := 238, attributes := #[] }, { accessFlags := 2, nameIndex := 7, descriptorIndex := 358, attributes := #[] }, { accessFlags := 1, nameIndex := 298, descriptorIndex := 322, attributes := #[] }, { accessFlags := 1, nameIndex := 396, descriptorIndex := 322, attributes := #[] }, { accessFlags := 1, nameIndex := 34, descriptorIndex := 74, attributes := #[] }, { accessFlags := 1, nameIndex := 263, descriptorIndex := 264, attributes := #[] }] 33 4 #[1160] #[{ accessFlags := 16, nameIndex := 34, descriptorIndex := 35, attributes := #[] }, { accessFlags := 16, nameIndex := 30, descriptorIndex := 31, attributes := #[] }, { accessFlags := 2, nameIndex := 752, descriptorIndex := 35, attributes := #[] }, { accessFlags := 2, nameIndex := 749, descriptorIndex := 35, attributes := #[] }, { accessFlags := 2, nameIndex := 746, descriptorIndex := 35, attributes := #[] }, { accessFlags := 2, nameIndex := 868, descriptorIndex := 35, attributes := #[] }, { accessFlags := 24, nameIndex := 1162, descriptorIndex := 1163, attributes := #[] }, { accessFlags := 26, nameIndex := 1165, descriptorIndex := 35, attributes := #[] }, { accessFlags := 26, nameIndex := 1166, descriptorIndex := 35, attributes := #[] }, { accessFlags := 26, nameIndex := 1168, descriptorIndex := 35, attributes := #[] }, { accessFlags := 26, nameIndex := 1170, descriptorIndex := 35, attributes := #[] }, { accessFlags := 26, nameIndex := 1172, descriptorIndex := 35, attributes := #[] }, { accessFlags := 26, nameIndex := 1174, descriptorIndex := 35, attributes := #[] }, { accessFlags := 24, nameIndex := 1176, descriptorIndex := 35, attributes := #[] }, { accessFlags := 24, nameIndex := 1177, descriptorIndex := 35, attributes := #[] }, { accessFlags := 26, nameIndex := 1179, descriptorIndex := 35, attributes := #[] }, { accessFlags := 26, nameIndex := 1181, descriptorIndex := 35, attributes := #[] }, { accessFlags := 26, nameIndex := 1182, descriptorIndex := 35, attributes := #[] }, { accessFlags := 10, nameIndex := 95, descriptorIndex := 96, attributes := #[] }, { accessFlags := 26, nameIndex := 1184, descriptorIndex := 35, attributes := #[] }, { accessFlags := 26, nameIndex := 1186, descriptorIndex := 35, attributes := #[] }, { accessFlags := 26, nameIndex := 180, descriptorIndex := 27, attributes := #[] }, { accessFlags := 26, nameIndex := 1188, descriptorIndex := 35, attributes := #[] }, { accessFlags := 26, nameIndex := 349, descriptorIndex := 350, attributes := #[] }, { accessFlags := 26, nameIndex := 355, descriptorIndex := 350, attributes := #[] }, { accessFlags := 74, nameIndex := 821, descriptorIndex := 822, attributes := #[] }, { accessFlags := 26, nameIndex := 763, descriptorIndex := 764, attributes := #[] }, { accessFlags := 26, nameIndex := 759, descriptorIndex := 760, attributes := #[] }, { accessFlags := 25, nameIndex := 26, descriptorIndex := 27, attributes := #[] }, { accessFlags := 25, nameIndex := 260, descriptorIndex := 27, attributes := #[] }, { accessFlags := 25, nameIndex := 267, descriptorIndex := 27, attributes := #[] }, { accessFlags := 26, nameIndex := 581, descriptorIndex := 27, attributes := #[] }, { accessFlags := 25, nameIndex := 1051, descriptorIndex := 27, attributes := #[] }, { accessFlags := 8, nameIndex := 673, descriptorIndex := 31, attributes := #[] }, { accessFlags := 10, nameIndex := 778, descriptorIndex := 35, attributes := #[] }, { accessFlags := 26, nameIndex := 781, descriptorIndex := 782, attributes := #[] }, { accessFlags := 10, nameIndex := 798, descriptorIndex := 31, attributes := #[] }, { accessFlags := 10, nameIndex := 792, descriptorIndex := 350, attributes := #[] }, { accessFlags := 10, nameIndex := 106, descriptorIndex := 31, attributes := #[] }, { accessFlags := 10, nameIndex := 119, descriptorIndex := 31, attributes := #[] }, { accessFlags := 26, nameIndex := 1192, descriptorIndex := 1163, attributes := #[] }, { accessFlags := 26, nameIndex := 1158, descriptorIndex := 1159, attributes := #[] }, { accessFlags := 4120, nameIndex := 311, descriptorIndex := 312, attributes := #[] }])
  fields := #[{ name := "signum", type := .int, accessFlags := 16, slot := 0, constantValue := 0 }, { name := "mag", type := (.array .int), accessFlags := 16, slot := 1, constantValue := 0 }, { name := "bitCountPlusOne", type := .int, accessFlags := 2, slot := 2, constantValue := 0 }, { name := "bitLengthPlusOne", type := .int, accessFlags := 2, slot := 3, constantValue := 0 }, { name := "lowestSetBitPlusTwo", type := .int, accessFlags := 2, slot := 4, constantValue := 0 }, { name := "firstNonzeroIntNumPlusTwo", type := .int, accessFlags := 2, slot := 5, constantValue := 0 }, { name := "LONG_MASK", type := .long, accessFlags := 24, slot := 0, constantValue := 0 }, { name := "MAX_MAG_LENGTH", type := .int, accessFlags := 26, slot := 1, constantValue := 0 }, { name := "PRIME_SEARCH_BIT_LENGTH_LIMIT", type := .int, accessFlags := 26, slot := 2, constantValue := 0 }, { name := "KARATSUBA_THRESHOLD", type := .int, accessFlags := 26, slot := 3, constantValue := 0 }, { name := "TOOM_COOK_THRESHOLD", type := .int, accessFlags := 26, slot := 4, constantValue := 0 }, { name := "KARATSUBA_SQUARE_THRESHOLD", type := .int, accessFlags := 26, slot := 5, constantValue := 0 }, { name := "TOOM_COOK_SQUARE_THRESHOLD", type := .int, accessFlags := 26, slot := 6, constantValue := 0 }, { name := "BURNIKEL_ZIEGLER_THRESHOLD", type := .int, accessFlags := 24, slot := 7, constantValue := 0 }, { name := "BURNIKEL_ZIEGLER_OFFSET", type := .int, accessFlags := 24, slot := 8, constantValue := 0 }, { name := "SCHOENHAGE_BASE_CONVERSION_THRESHOLD", type := .int, accessFlags := 26, slot := 9, constantValue := 0 }, { name := "MULTIPLY_SQUARE_THRESHOLD", type := .int, accessFlags := 26, slot := 10, constantValue := 0 }, { name := "MONTGOMERY_INTRINSIC_THRESHOLD", type := .int, accessFlags := 26, slot := 11, constantValue := 0 }, { name := "bitsPerDigit", type := (.array .long), accessFlags := 10, slot := 12, constantValue := 0 }, { name := "SMALL_PRIME_THRESHOLD", type := .int, accessFlags := 26, slot := 13, constantValue := 0 }, { name := "DEFAULT_PRIME_CERTAINTY", type := .int, accessFlags := 26, slot := 14, constantValue := 0 }, { name := "SMALL_PRIME_PRODUCT", type := (.object "java/math/BigInteger"), accessFlags := 26, slot := 15, constantValue := 0 }, { name := "MAX_CONSTANT", type := .int, accessFlags := 26, slot := 16, constantValue := 0 }, { name := "posConst", type := (.array (.object "java/math/BigInteger")), accessFlags := 26, slot := 17, constantValue := 0 }, { name := "negConst", type := (.array (.object "java/math/BigInteger")), accessFlags := 26, slot := 18, constantValue := 0 }, { name := "powerCache", type := (.array (.array (.object "java/math/BigInteger"))), accessFlags := 74, slot := 19, constantValue := 0 }, { name := "logCache", type := (.array .double), accessFlags := 26, slot := 20, constantValue := 0 }, { name := "LOG_TWO", type := .double, accessFlags := 26, slot := 21, constantValue := 0 }, { name := "ZERO", type := (.object "java/math/BigInteger"), accessFlags := 25, slot := 22, constantValue := 0 }, { name := "ONE", type := (.object "java/math/BigInteger"), accessFlags := 25, slot := 23, constantValue := 0 }, { name := "TWO", type := (.object "java/math/BigInteger"), accessFlags := 25, slot := 24, constantValue := 0 }, { name := "NEGATIVE_ONE", type := (.object "java/math/BigInteger"), accessFlags := 26, slot := 25, constantValue := 0 }, { name := "TEN", type := (.object "java/math/BigInteger"), accessFlags := 25, slot := 26, constantValue := 0 }, { name := "bnExpModThreshTable", type := (.array .int), accessFlags := 8, slot := 27, constantValue := 0 }, { name := "NUM_ZEROS", type := .int, accessFlags := 10, slot := 28, constantValue := 0 }, { name := "ZEROS", type := (.object "java/lang/String"), accessFlags := 26, slot := 29, constantValue := 0 }, { name := "digitsPerLong", type := (.array .int), accessFlags := 10, slot := 30, constantValue := 0 }, { name := "longRadix", type := (.array (.object "java/math/BigInteger")), accessFlags := 10, slot := 31, constantValue := 0 }, { name := "digitsPerInt", type := (.array .int), accessFlags := 10, slot := 32, constantValue := 0 }, { name := "intRadix", type := (.array .int), accessFlags := 10, slot := 33, constantValue := 0 }, { name := "serialVersionUID", type := .long, accessFlags := 26, slot := 34, constantValue := 0 }, { name := "serialPersistentFields", type := (.array (.object "java/io/ObjectStreamField")), accessFlags := 26, slot := 35, constantValue := 0 }, { name := "$assertionsDisabled", type := .boolean, accessFlags := 4120, slot := 36, constantValue := 0 }]
  methods := #[k5m0, k5m1, k5m2, k5m3, k5m4, k5m5, k5m6]
  instanceTypes := #[.int, (.array .int), .int, .int, .int, .int]
  staticTypes := #[.long, .int, .int, .int, .int, .int, .int, .int, .int, .int, .int, .int, (.array .long), .int, .int, (.object "java/math/BigInteger"), .int, (.array (.object "java/math/BigInteger")), (.array (.object "java/math/BigInteger")), (.array (.array (.object "java/math/BigInteger"))), (.array .double), .double, (.object "java/math/BigInteger"), (.object "java/math/BigInteger"), (.object "java/math/BigInteger"), (.object "java/math/BigInteger"), (.object "java/math/BigInteger"), (.array .int), .int, (.object "java/lang/String"), (.array .int), (.array (.object "java/math/BigInteger")), (.array .int), (.array .int), .long, (.array (.object "java/io/ObjectStreamField")), .boolean]
  resolved := Array.replicate 1542 none
  statics := some 0 }

def pool6 : Array CpInfo := pool [(1, .methodref 2 3), (0, .class_ 4), (0, .nameAndType 5 6), (0, u "java/lang/Object"), (0, u "<init>"), (0, u "()V"), (0, .fieldref 8 9), (0, .class_ 10), (0, .nameAndType 11 12), (0, u "com/example/liftwise/liftwise/eval/arithmetic/Solver$Sides"), (0, u "lowerUnit"), (0, u "Z"), (0, .fieldref 8 14), (0, .nameAndType 15 12), (0, u "upperUnit"), (0, .methodref 17 18), (0, .class_ 19), (0, .nameAndType 20 21), (0, u "java/math/BigInteger"), (0, u "abs"), (0, u "()Ljava/math/BigInteger;"), (0, .fieldref 17 23), (0, .nameAndType 24 25), (0, u "ONE"), (0, u "Ljava/math/BigInteger;"), (0, .methodref 17 27), (0, .nameAndType 28 29), (0, u "equals"), (0, u "(Ljava/lang/Object;)Z"), (0, .methodref 17 31), (0, .nameAndType 32 33), (0, u "signum"), (0, u "()I"), (0, .fieldref 8 35), (0, .nameAndType 36 37), (0, u "lower"), (0, u "I"), (0, .fieldref 8 39), (0, .nameAndType 40 37), (0, u "upper"), (2, u "add"), (0, u "(Ljava/math/BigInteger;)V"), (1, u "isOneSided"), (0, u "()Z"), (6, .class_ 55), (0, u "com/example/liftwise/liftwise/eval/arithmetic/Solver")] 2

def k6c0 : Code := { maxStack := 2, maxLocals := 1, code := prog_74_method_1_code, exceptionTable := #[], attributes := #[] }
def k6m0 : Method := { name := "<init>", desc := "()V", sig := { parameters := [], returnType := none }, accessFlags := 0, code := some k6c0 }
def k6c1 : Code := { maxStack := 3, maxLocals := 3, code := prog_74_method_2_code, exceptionTable := #[], attributes := #[] }
def k6m1 : Method := { name := "add", desc := "(Ljava/math/BigInteger;)V", sig := { parameters := [(.object "java/math/BigInteger")], returnType := none }, accessFlags := 0, code := some k6c1 }
def k6c2 : Code := { maxStack := 1, maxLocals := 1, code := prog_74_method_3_code, exceptionTable := #[], attributes := #[] }
def k6m2 : Method := { name := "isOneSided", desc := "()Z", sig := { parameters := [], returnType := some .boolean }, accessFlags := 0, code := some k6c2 }
/-- com/example/liftwise/liftwise/eval/arithmetic/Solver$Sides -/
def k6 : Class := { plain "com/example/liftwise/liftwise/eval/arithmetic/Solver$Sides" (some 0) with
  accessFlags := 48
  interfaces := #[]
  cf := some (fileOf pool6 8 #[.nestHost 54] #[{ accessFlags := 0, nameIndex := 5, descriptorIndex := 6, attributes := #[] }, { accessFlags := 0, nameIndex := 43, descriptorIndex := 44, attributes := #[] }, { accessFlags := 0, nameIndex := 46, descriptorIndex := 47, attributes := #[] }] 48 2 #[] #[{ accessFlags := 2, nameIndex := 36, descriptorIndex := 37, attributes := #[] }, { accessFlags := 2, nameIndex := 40, descriptorIndex := 37, attributes := #[] }, { accessFlags := 2, nameIndex := 11, descriptorIndex := 12, attributes := #[] }, { accessFlags := 2, nameIndex := 15, descriptorIndex := 12, attributes := #[] }])
  fields := #[{ name := "lower", type := .int, accessFlags := 2, slot := 0, constantValue := 0 }, { name := "upper", type := .int, accessFlags := 2, slot := 1, constantValue := 0 }, { name := "lowerUnit", type := .boolean, accessFlags := 2, slot := 2, constantValue := 0 }, { name := "upperUnit", type := .boolean, accessFlags := 2, slot := 3, constantValue := 0 }]
  methods := #[k6m0, k6m1, k6m2]
  instanceTypes := #[.int, .int, .boolean, .boolean]
  staticTypes := #[]
  resolved := Array.replicate 58 none
  statics := none }

def pool7 : Array CpInfo := pool [(1, u "java/lang/Cloneable"), (0, .class_ 1), (0, u "java/lang/Object"), (0, .class_ 3)] 3

/-- java/lang/Cloneable -/
def k7 : Class := { plain "java/lang/Cloneable" (some 0) with
  accessFlags := 1537
  interfaces := #[]
  cf := some (fileOf pool7 2 #[] #[] 1537 4 #[] #[])
  fields := #[]
  methods := #[]
  instanceTypes := #[]
  staticTypes := #[]
  resolved := Array.replicate 8 none
  statics := none }

/-- the primitive byte -/
def k8 : Class := { plain "byte" none with kind := .primitive 'B', accessFlags := 0x411 }
/-- [B -/
def k9 : Class := { plain "[B" (some 0) with kind := .array 8 .byte, interfaces := #[7, 2], accessFlags := 1041 }

/-- the primitive int -/
def k10 : Class := { plain "int" none with kind := .primitive 'I', accessFlags := 0x411 }
/-- [I -/
def k11 : Class := { plain "[I" (some 0) with kind := .array 10 .int, interfaces := #[7, 2], accessFlags := 1041 }

/-- [Ljava/math/BigInteger; -/
def k12 : Class := { plain "[Ljava/math/BigInteger;" (some 0) with kind := .array 5 (.object "java/math/BigInteger"), interfaces := #[7, 2], accessFlags := 1041 }

def heap : Heap := #[{ cls := 5, slots := #[.long 0, .int 0, .int 0, .int 0, .int 0, .int 0, .int 0, .int 0, .int 0, .int 0, .int 0, .int 0, .null, .int 0, .int 0, .null, .int 0, .ref 1, .ref 2, .null, .null, .double 0, .null, .ref 35, .ref 36, .ref 51, .ref 44, .null, .int 0, .null, .null, .null, .null, .null, .long 0, .null, .int 0], vm := .statics 5 },
  { cls := 12, slots := #[.null, .ref 35, .ref 36, .ref 37, .ref 38, .ref 39, .ref 40, .ref 41, .ref 42, .ref 43, .ref 44, .ref 45, .ref 46, .ref 47, .ref 48, .ref 49, .ref 50], vm := .none },
  { cls := 12, slots := #[.null, .ref 51, .ref 52, .ref 53, .ref 54, .ref 55, .ref 56, .ref 57, .ref 58, .ref 59, .ref 60, .ref 61, .ref 62, .ref 63, .ref 64, .ref 65, .ref 66], vm := .none },
  { cls := 11, slots := #[.int 1], vm := .none },
  { cls := 11, slots := #[.int 2], vm := .none },
  { cls := 11, slots := #[.int 3], vm := .none },
  { cls := 11, slots := #[.int 4], vm := .none },
  { cls := 11, slots := #[.int 5], vm := .none },
  { cls := 11, slots := #[.int 6], vm := .none },
  { cls := 11, slots := #[.int 7], vm := .none },
  { cls := 11, slots := #[.int 8], vm := .none },
  { cls := 11, slots := #[.int 9], vm := .none },
  { cls := 11, slots := #[.int 10], vm := .none },
  { cls := 11, slots := #[.int 11], vm := .none },
  { cls := 11, slots := #[.int 12], vm := .none },
  { cls := 11, slots := #[.int 13], vm := .none },
  { cls := 11, slots := #[.int 14], vm := .none },
  { cls := 11, slots := #[.int 15], vm := .none },
  { cls := 11, slots := #[.int 16], vm := .none },
  { cls := 11, slots := #[.int 1], vm := .none },
  { cls := 11, slots := #[.int 2], vm := .none },
  { cls := 11, slots := #[.int 3], vm := .none },
  { cls := 11, slots := #[.int 4], vm := .none },
  { cls := 11, slots := #[.int 5], vm := .none },
  { cls := 11, slots := #[.int 6], vm := .none },
  { cls := 11, slots := #[.int 7], vm := .none },
  { cls := 11, slots := #[.int 8], vm := .none },
  { cls := 11, slots := #[.int 9], vm := .none },
  { cls := 11, slots := #[.int 10], vm := .none },
  { cls := 11, slots := #[.int 11], vm := .none },
  { cls := 11, slots := #[.int 12], vm := .none },
  { cls := 11, slots := #[.int 13], vm := .none },
  { cls := 11, slots := #[.int 14], vm := .none },
  { cls := 11, slots := #[.int 15], vm := .none },
  { cls := 11, slots := #[.int 16], vm := .none },
  { cls := 5, slots := #[.int 1, .ref 3, .int 0, .int 0, .int 0, .int 0], vm := .none },
  { cls := 5, slots := #[.int 1, .ref 4, .int 0, .int 0, .int 0, .int 0], vm := .none },
  { cls := 5, slots := #[.int 1, .ref 5, .int 0, .int 0, .int 0, .int 0], vm := .none },
  { cls := 5, slots := #[.int 1, .ref 6, .int 0, .int 0, .int 0, .int 0], vm := .none },
  { cls := 5, slots := #[.int 1, .ref 7, .int 0, .int 0, .int 0, .int 0], vm := .none },
  { cls := 5, slots := #[.int 1, .ref 8, .int 0, .int 0, .int 0, .int 0], vm := .none },
  { cls := 5, slots := #[.int 1, .ref 9, .int 0, .int 0, .int 0, .int 0], vm := .none },
  { cls := 5, slots := #[.int 1, .ref 10, .int 0, .int 0, .int 0, .int 0], vm := .none },
  { cls := 5, slots := #[.int 1, .ref 11, .int 0, .int 0, .int 0, .int 0], vm := .none },
  { cls := 5, slots := #[.int 1, .ref 12, .int 0, .int 0, .int 0, .int 0], vm := .none },
  { cls := 5, slots := #[.int 1, .ref 13, .int 0, .int 0, .int 0, .int 0], vm := .none },
  { cls := 5, slots := #[.int 1, .ref 14, .int 0, .int 0, .int 0, .int 0], vm := .none },
  { cls := 5, slots := #[.int 1, .ref 15, .int 0, .int 0, .int 0, .int 0], vm := .none },
  { cls := 5, slots := #[.int 1, .ref 16, .int 0, .int 0, .int 0, .int 0], vm := .none },
  { cls := 5, slots := #[.int 1, .ref 17, .int 0, .int 0, .int 0, .int 0], vm := .none },
  { cls := 5, slots := #[.int 1, .ref 18, .int 0, .int 0, .int 0, .int 0], vm := .none },
  { cls := 5, slots := #[.int (-1), .ref 19, .int 0, .int 0, .int 0, .int 0], vm := .none },
  { cls := 5, slots := #[.int (-1), .ref 20, .int 0, .int 0, .int 0, .int 0], vm := .none },
  { cls := 5, slots := #[.int (-1), .ref 21, .int 0, .int 0, .int 0, .int 0], vm := .none },
  { cls := 5, slots := #[.int (-1), .ref 22, .int 0, .int 0, .int 0, .int 0], vm := .none },
  { cls := 5, slots := #[.int (-1), .ref 23, .int 0, .int 0, .int 0, .int 0], vm := .none },
  { cls := 5, slots := #[.int (-1), .ref 24, .int 0, .int 0, .int 0, .int 0], vm := .none },
  { cls := 5, slots := #[.int (-1), .ref 25, .int 0, .int 0, .int 0, .int 0], vm := .none },
  { cls := 5, slots := #[.int (-1), .ref 26, .int 0, .int 0, .int 0, .int 0], vm := .none },
  { cls := 5, slots := #[.int (-1), .ref 27, .int 0, .int 0, .int 0, .int 0], vm := .none },
  { cls := 5, slots := #[.int (-1), .ref 28, .int 0, .int 0, .int 0, .int 0], vm := .none },
  { cls := 5, slots := #[.int (-1), .ref 29, .int 0, .int 0, .int 0, .int 0], vm := .none },
  { cls := 5, slots := #[.int (-1), .ref 30, .int 0, .int 0, .int 0, .int 0], vm := .none },
  { cls := 5, slots := #[.int (-1), .ref 31, .int 0, .int 0, .int 0, .int 0], vm := .none },
  { cls := 5, slots := #[.int (-1), .ref 32, .int 0, .int 0, .int 0, .int 0], vm := .none },
  { cls := 5, slots := #[.int (-1), .ref 33, .int 0, .int 0, .int 0, .int 0], vm := .none },
  { cls := 5, slots := #[.int (-1), .ref 34, .int 0, .int 0, .int 0, .int 0], vm := .none }]
def classes : Array Class := #[k0, k1, k2, k3, k4, k5, k6, k7, k8, k9, k10, k11, k12]
def interned : List (Array UInt16 × Addr) := []
def slotsUsed : Nat := 295
def theMethod : MethodId := ⟨1, 1⟩
def args0 : Array Value := #[.long 5, .long 6, .long 7, .long 8, .int 9]
def aboutOver (below : List Frame) : State where
  vm := { classes := classes, interned := interned.toArray }
  heap := heap
  slotsUsed := slotsUsed
  threads := #[{ frames := .invoking theMethod args0 :: below }]
def below0 : List Frame := [.native { method := ⟨0, 0⟩, args := #[] }]
def about1 : State := aboutOver below0
def p0 : Program := .bare "" "" ""
def e0 : Env := launch0.env 0 0 0
theorem w_frames : about1.frames = Frame.invoking theMethod args0 :: below0 := rfl
set_option maxRecDepth 65536 in
theorem w_args : argsFit about1.vm theMethod args0 = true := by decide +kernel
set_option maxRecDepth 65536 in
theorem w_heap : heapFits about1 = true := by decide +kernel
set_option maxRecDepth 65536 in
theorem w_runnable : about1.curStatus? = some .runnable := by decide +kernel
set_option maxRecDepth 65536 in
theorem w_alone : about1.alone = true := by decide +kernel
set_option maxRecDepth 65536 in
theorem w_named : about1.methodNamed? x = some theMethod := by decide +kernel
set_option maxRecDepth 65536 in
theorem w_hears : about1.hears theMethod below0 = true := by decide +kernel
set_option maxRecDepth 65536 in
theorem w_ripe : about1.ripe theMethod args0 below0 = true := by decide +kernel
theorem w_running : about1.status = .running := rfl
set_option maxRecDepth 65536 in
theorem w_room : about1.hasRoom e0.platform room_1 = true :=
  launch0.hasRoom_least _ room_1 (by decide +kernel) (by decide +kernel) (by decide +kernel) (by decide +kernel) (by decide +kernel) (by decide +kernel)
theorem allAtoms_all (ts : List Jvm.Cond) (a : Array Jvm.Value) (st : Jvm.State) : (allAtoms ts).before a st = ts.all (fun c => c.before a st) := by
  induction ts with
  | nil => rfl
  | cons c t ih =>
    show (Jvm.Cond.and c (allAtoms t)).before a st = _
    rw [Jvm.Cond.before_and, ih, List.all_cons]
def words1 : List Jvm.Cond := Jvm.Cond.code x code maxLocals ret :: tables_1
/-- a 'code' word, met by the world's own term for the bytes: nothing is compared byte by byte -/
theorem code_word {y : MethodName} {bytes : ByteArray} {mx : Nat} {rt : Option FieldType} {a : Array Value} {s : State} {m : MethodId} {meth : Method} {c : Code} (h1 : s.methodNamed? y = some m) (h2 : s.vm.method? m = some meth) (h3 : meth.code = some c) (h4 : c.code = bytes)
    (h5 : (c.maxLocals == mx && c.exceptionTable.isEmpty && decide (c.maxStack ≤ mostOperands) && decide (meth.sig.returnType = rt) && !meth.locks && decide (parseMethodDescriptor y.desc = some meth.sig)) = true) : (Jvm.Cond.code y bytes mx rt).before a s = true := by
  simp only [Bool.and_eq_true, beq_iff_eq, Bool.not_eq_true', decide_eq_true_eq] at h5
  obtain ⟨⟨⟨⟨⟨g1, g2⟩, g3⟩, g4⟩, g5⟩, g6⟩ := h5
  simp [Cond.before, Cond.holds, Cond.value, h1, h2, h3, h4, g1, g2, g3, g4, g5, g6]
def isCode : Jvm.Cond → Bool
  | .code _ _ _ _ => true
  | _ => false
theorem all_split {L : List Jvm.Cond} {P : Jvm.Cond → Bool} (h1 : L.all (fun c => isCode c || P c) = true) (h2 : ∀ c ∈ L.filter isCode, P c = true) : L.all P = true := by
  refine List.all_eq_true.mpr fun c hc => ?_
  have h := List.all_eq_true.mp h1 c hc
  rcases Bool.eq_false_or_eq_true (isCode c) with hi | hi
  · exact h2 c (List.mem_filter.mpr ⟨hc, hi⟩)
  · simpa [hi] using h
set_option maxRecDepth 65536 in
theorem w_c0 : (Jvm.Cond.code x code maxLocals ret).before args0 about1 = true := code_word (m := ⟨1, 1⟩) (meth := k1m1) (c := k1c1) (by decide +kernel) rfl rfl rfl (by decide +kernel)
set_option maxRecDepth 65536 in
theorem w_c1 : (Jvm.Cond.code ({ cls := "com/example/liftwise/liftwise/eval/arithmetic/SidesIsOneSidedPinLaw", name := "nonZero", desc := "(J)J" } : Jvm.MethodName) method_3_code (2 : Nat) (Option.some Jvm.ClassFile.FieldType.long)).before args0 about1 = true := code_word (m := ⟨1, 2⟩) (meth := k1m2) (c := k1c2) (by decide +kernel) rfl rfl rfl (by decide +kernel)
set_option maxRecDepth 65536 in
theorem w_c2 : (Jvm.Cond.code ({ cls := "java/math/BigInteger", name := "valueOf", desc := "(J)Ljava/math/BigInteger;" } : Jvm.MethodName) jdk_2097_method_29_code (2 : Nat) (Option.some (Jvm.ClassFile.FieldType.object "java/math/BigInteger"))).before args0 about1 = true := code_word (m := ⟨5, 1⟩) (meth := k5m1) (c := k5c1) (by decide +kernel) rfl rfl rfl (by decide +kernel)
set_option maxRecDepth 65536 in
theorem w_c3 : (Jvm.Cond.code ({ cls := "java/math/BigInteger", name := "<init>", desc := "(J)V" } : Jvm.MethodName) jdk_2097_method_30_code (4 : Nat) (Option.none : Option Jvm.ClassFile.FieldType)).before args0 about1 = true := code_word (m := ⟨5, 2⟩) (meth := k5m2) (c := k5c2) (by decide +kernel) rfl rfl rfl (by decide +kernel)
set_option maxRecDepth 65536 in
theorem w_c4 : (Jvm.Cond.code ({ cls := "java/lang/Number", name := "<init>", desc := "()V" } : Jvm.MethodName) jdk_18_method_1_code (1 : Nat) (Option.none : Option Jvm.ClassFile.FieldType)).before args0 about1 = true := code_word (m := ⟨3, 0⟩) (meth := k3m0) (c := k3c0) (by decide +kernel) rfl rfl rfl (by decide +kernel)
set_option maxRecDepth 65536 in
theorem w_c5 : (Jvm.Cond.code ({ cls := "java/lang/Object", name := "<init>", desc := "()V" } : Jvm.MethodName) object_method_1_code (1 : Nat) (Option.none : Option Jvm.ClassFile.FieldType)).before args0 about1 = true := code_word (m := ⟨0, 0⟩) (meth := k0m0) (c := k0c0) (by decide +kernel) rfl rfl rfl (by decide +kernel)
set_option maxRecDepth 65536 in
theorem w_c6 : (Jvm.Cond.code ({ cls := "com/example/liftwise/liftwise/eval/arithmetic/Solver$Sides", name := "<init>", desc := "()V" } : Jvm.MethodName) prog_74_method_1_code (1 : Nat) (Option.none : Option Jvm.ClassFile.FieldType)).before args0 about1 = true := code_word (m := ⟨6, 0⟩) (meth := k6m0) (c := k6c0) (by decide +kernel) rfl rfl rfl (by decide +kernel)
set_option maxRecDepth 65536 in
theorem w_c7 : (Jvm.Cond.code ({ cls := "com/example/liftwise/liftwise/eval/arithmetic/Solver$Sides", name := "add", desc := "(Ljava/math/BigInteger;)V" } : Jvm.MethodName) prog_74_method_2_code (3 : Nat) (Option.none : Option Jvm.ClassFile.FieldType)).before args0 about1 = true := code_word (m := ⟨6, 1⟩) (meth := k6m1) (c := k6c1) (by decide +kernel) rfl rfl rfl (by decide +kernel)
set_option maxRecDepth 65536 in
theorem w_c8 : (Jvm.Cond.code ({ cls := "java/math/BigInteger", name := "abs", desc := "()Ljava/math/BigInteger;" } : Jvm.MethodName) jdk_2097_method_79_code (1 : Nat) (Option.some (Jvm.ClassFile.FieldType.object "java/math/BigInteger"))).before args0 about1 = true := code_word (m := ⟨5, 3⟩) (meth := k5m3) (c := k5c3) (by decide +kernel) rfl rfl rfl (by decide +kernel)
set_option maxRecDepth 65536 in
theorem w_c9 : (Jvm.Cond.code ({ cls := "java/math/BigInteger", name := "equals", desc := "(Ljava/lang/Object;)Z" } : Jvm.MethodName) jdk_2097_method_124_code (7 : Nat) (Option.some Jvm.ClassFile.FieldType.boolean)).before args0 about1 = true := code_word (m := ⟨5, 6⟩) (meth := k5m6) (c := k5c6) (by decide +kernel) rfl rfl rfl (by decide +kernel)
set_option maxRecDepth 65536 in
theorem w_c10 : (Jvm.Cond.code ({ cls := "java/math/BigInteger", name := "signum", desc := "()I" } : Jvm.MethodName) jdk_2097_method_81_code (1 : Nat) (Option.some Jvm.ClassFile.FieldType.int)).before args0 about1 = true := code_word (m := ⟨5, 5⟩) (meth := k5m5) (c := k5c5) (by decide +kernel) rfl rfl rfl (by decide +kernel)
set_option maxRecDepth 65536 in
theorem w_c11 : (Jvm.Cond.code ({ cls := "java/math/BigInteger", name := "negate", desc := "()Ljava/math/BigInteger;" } : Jvm.MethodName) jdk_2097_method_80_code (1 : Nat) (Option.some (Jvm.ClassFile.FieldType.object "java/math/BigInteger"))).before args0 about1 = true := code_word (m := ⟨5, 4⟩) (meth := k5m4) (c := k5c4) (by decide +kernel) rfl rfl rfl (by decide +kernel)
set_option maxRecDepth 65536 in
theorem w_c12 : (Jvm.Cond.code ({ cls := "java/math/BigInteger", name := "<init>", desc := "([II)V" } : Jvm.MethodName) jdk_2097_method_25_code (3 : Nat) (Option.none : Option Jvm.ClassFile.FieldType)).before args0 about1 = true := code_word (m := ⟨5, 0⟩) (meth := k5m0) (c := k5c0) (by decide +kernel) rfl rfl rfl (by decide +kernel)
set_option maxRecDepth 65536 in
theorem w_c13 : (Jvm.Cond.code ({ cls := "com/example/liftwise/liftwise/eval/arithmetic/SidesIsOneSidedPinLaw", name := "positive", desc := "(ZJ)I" } : Jvm.MethodName) method_4_code (3 : Nat) (Option.some Jvm.ClassFile.FieldType.int)).before args0 about1 = true := code_word (m := ⟨1, 3⟩) (meth := k1m3) (c := k1c3) (by decide +kernel) rfl rfl rfl (by decide +kernel)
set_option maxRecDepth 65536 in
theorem w_c14 : (Jvm.Cond.code ({ cls := "com/example/liftwise/liftwise/eval/arithmetic/Solver$Sides", name := "isOneSided", desc := "()Z" } : Jvm.MethodName) prog_74_method_3_code (1 : Nat) (Option.some Jvm.ClassFile.FieldType.boolean)).before args0 about1 = true := code_word (m := ⟨6, 2⟩) (meth := k6m2) (c := k6c2) (by decide +kernel) rfl rfl rfl (by decide +kernel)
def codes1 : List Jvm.Cond := [Jvm.Cond.code x code maxLocals ret, Jvm.Cond.code ({ cls := "com/example/liftwise/liftwise/eval/arithmetic/SidesIsOneSidedPinLaw", name := "nonZero", desc := "(J)J" } : Jvm.MethodName) method_3_code (2 : Nat) (Option.some Jvm.ClassFile.FieldType.long), Jvm.Cond.code ({ cls := "java/math/BigInteger", name := "valueOf", desc := "(J)Ljava/math/BigInteger;" } : Jvm.MethodName) jdk_2097_method_29_code (2 : Nat) (Option.some (Jvm.ClassFile.FieldType.object "java/math/BigInteger")), Jvm.Cond.code ({ cls := "java/math/BigInteger", name := "<init>", desc := "(J)V" } : Jvm.MethodName) jdk_2097_method_30_code (4 : Nat) (Option.none : Option Jvm.ClassFile.FieldType), Jvm.Cond.code ({ cls := "java/lang/Number", name := "<init>", desc := "()V" } : Jvm.MethodName) jdk_18_method_1_code (1 : Nat) (Option.none : Option Jvm.ClassFile.FieldType), Jvm.Cond.code ({ cls := "java/lang/Object", name := "<init>", desc := "()V" } : Jvm.MethodName) object_method_1_code (1 : Nat) (Option.none : Option Jvm.ClassFile.FieldType), Jvm.Cond.code ({ cls := "com/example/liftwise/liftwise/eval/arithmetic/Solver$Sides", name := "<init>", desc := "()V" } : Jvm.MethodName) prog_74_method_1_code (1 : Nat) (Option.none : Option Jvm.ClassFile.FieldType), Jvm.Cond.code ({ cls := "com/example/liftwise/liftwise/eval/arithmetic/Solver$Sides", name := "add", desc := "(Ljava/math/BigInteger;)V" } : Jvm.MethodName) prog_74_method_2_code (3 : Nat) (Option.none : Option Jvm.ClassFile.FieldType), Jvm.Cond.code ({ cls := "java/math/BigInteger", name := "abs", desc := "()Ljava/math/BigInteger;" } : Jvm.MethodName) jdk_2097_method_79_code (1 : Nat) (Option.some (Jvm.ClassFile.FieldType.object "java/math/BigInteger")), Jvm.Cond.code ({ cls := "java/math/BigInteger", name := "equals", desc := "(Ljava/lang/Object;)Z" } : Jvm.MethodName) jdk_2097_method_124_code (7 : Nat) (Option.some Jvm.ClassFile.FieldType.boolean), Jvm.Cond.code ({ cls := "java/math/BigInteger", name := "signum", desc := "()I" } : Jvm.MethodName) jdk_2097_method_81_code (1 : Nat) (Option.some Jvm.ClassFile.FieldType.int), Jvm.Cond.code ({ cls := "java/math/BigInteger", name := "negate", desc := "()Ljava/math/BigInteger;" } : Jvm.MethodName) jdk_2097_method_80_code (1 : Nat) (Option.some (Jvm.ClassFile.FieldType.object "java/math/BigInteger")), Jvm.Cond.code ({ cls := "java/math/BigInteger", name := "<init>", desc := "([II)V" } : Jvm.MethodName) jdk_2097_method_25_code (3 : Nat) (Option.none : Option Jvm.ClassFile.FieldType), Jvm.Cond.code ({ cls := "com/example/liftwise/liftwise/eval/arithmetic/SidesIsOneSidedPinLaw", name := "positive", desc := "(ZJ)I" } : Jvm.MethodName) method_4_code (3 : Nat) (Option.some Jvm.ClassFile.FieldType.int), Jvm.Cond.code ({ cls := "com/example/liftwise/liftwise/eval/arithmetic/Solver$Sides", name := "isOneSided", desc := "()Z" } : Jvm.MethodName) prog_74_method_3_code (1 : Nat) (Option.some Jvm.ClassFile.FieldType.boolean)]
set_option maxRecDepth 65536 in
theorem codes_eq : words1.filter isCode = codes1 := rfl
theorem w_codes : ∀ c ∈ words1.filter isCode, c.before args0 about1 = true := by
  rw [codes_eq]
  intro c hc
  simp only [codes1, List.mem_cons, List.not_mem_nil, or_false] at hc
  rcases hc with rfl | rfl | rfl | rfl | rfl | rfl | rfl | rfl | rfl | rfl | rfl | rfl | rfl | rfl | rfl
  · exact w_c0
  · exact w_c1
  · exact w_c2
  · exact w_c3
  · exact w_c4
  · exact w_c5
  · exact w_c6
  · exact w_c7
  · exact w_c8
  · exact w_c9
  · exact w_c10
  · exact w_c11
  · exact w_c12
  · exact w_c13
  · exact w_c14
set_option maxRecDepth 65536 in
theorem w_t1 : (words1.take 24).all (fun c => isCode c || c.before args0 about1) = true := by decide +kernel
set_option maxRecDepth 65536 in
theorem w_t2 : ((words1.drop 24).take 24).all (fun c => isCode c || c.before args0 about1) = true := by decide +kernel
set_option maxRecDepth 65536 in
theorem w_t3 : (((words1.drop 24).drop 24).take 24).all (fun c => isCode c || c.before args0 about1) = true := by decide +kernel
set_option maxRecDepth 65536 in
theorem w_t4 : (((words1.drop 24).drop 24).drop 24).all (fun c => isCode c || c.before args0 about1) = true := by decide +kernel
theorem w_tables : (allAtoms (Jvm.Cond.code x code maxLocals ret :: tables_1)).before args0 about1 = true := by
  rw [allAtoms_all]
  show words1.all (fun c => c.before args0 about1) = true
  refine all_split ?_ w_codes
  rw [← List.take_append_drop 24 words1, List.all_append, w_t1, ← List.take_append_drop 24 (words1.drop 24), List.all_append, w_t2, ← List.take_append_drop 24 ((words1.drop 24).drop 24), List.all_append, w_t3, w_t4]
  rfl
set_option maxRecDepth 65536 in
theorem w_rest : rest_1_c.before args0 about1 = true := by decide +kernel
set_option maxRecDepth 65536 in
theorem w_case : (Jvm.Cond.and given_1 narrow_1).before args0 about1 = true := by decide +kernel
theorem w_applies : (headSpec (Jvm.Cond.code x code maxLocals ret :: tables_1) room_1).applies x e0.platform about1 = true :=
  (Spec.applies_iff w_frames).mpr ⟨w_running, w_runnable, w_alone, w_named, w_hears, w_ripe, w_room, w_tables⟩
theorem atStart : AtStart classFile x code maxLocals ret World_1 tables_1 room_1 Calls_1 rest_1 Pre_1 launch0 p0 e0 about1 theMethod args0 below0 :=
  ⟨lists_1, trivial, launch0.admits_env _ _ _, launch0.least_env, fairChoices_fair.cas, fairChoices_fair.clock, w_frames, w_args, w_heap, w_applies, trivial, w_rest, w_case⟩
end start1
theorem witness_1 : WitnessClaimed_1 := ⟨start1.p0, start1.e0, start1.about1, start1.theMethod, start1.args0, start1.below0, start1.atStart⟩
end Jvm.Pilot.@@N@@
