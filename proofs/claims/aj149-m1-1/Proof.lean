import JvmDerived
import JvmDerived.Pilot.@@N@@Statement
import JvmDerived.Pilot.@@N@@Code
set_option linter.unusedVariables false
set_option linter.unusedSimpArgs false
namespace Jvm.Pilot.@@N@@
open Jvm Jvm.ClassFile Sem Op Lib Jvm.Free Jvm.Stand Jvm.LawKit Jvm.RoadKit Bundle Jvm.Pilot.@@N@@.Jvm.D
/-- from S the run goes on to an end that answers Q -/
def own_Go (p : Program) (e : Env) (below : List Frame) (s : State) (Q : Option Value → Heap → List Loc → Prop) (rm : Room) (S : State) : Prop :=
  ∃ t o, Steps p.tables e below S t ∧ t.status = .running ∧ Ended t below o ∧ ∃ v L, o = .returned v ∧ Q v t.heap L ∧ FrameEnd s o t L rm.cells rm.slots
section OwnKit
variable {p : Program} {l : Launch} {e : Env} {R rm : Room} {s S S' : State} {m : MethodId} {args : Array Value} {below : List Frame} {meth : Method} {c : Code} {T : State} {locs : List Loc} {cells slots : Nat} {Q : Option Value → Heap → List Loc → Prop}
theorem own_by (st : ∀ t, Steps p.tables e below S' t → Steps p.tables e below S t) (k : own_Go p e below s Q rm S') : own_Go p e below s Q rm S := by
  obtain ⟨t, o, h, r⟩ := k
  exact ⟨t, o, st _ h, r⟩
theorem own_via (st : Steps p.tables e below S S') (k : own_Go p e below s Q rm S') : own_Go p e below s Q rm S := own_by (fun _ h => st.trans h) k
theorem own_out {v : Option Value} {pc : Nat} {Ls : Array Slot} {st : List Value} (X : Stand p l e rm s m args below meth c T locs cells slots) (hlk : meth.locks = false) (hv : meth.sig.returnType = none → v = none) (hc : cells ≤ rm.cells) (hs : slots ≤ rm.slots)
    (step : ∀ fs, (∀ (f : JFrame) (acts : List Action), f.method = m → f.locked = none → f.entered = [] → (doReturn e (T.setTop f) acts v).1 = T.setFrames fs) → Steps p.tables e below (T.setTop (mkF m pc Ls st)) (T.setFrames fs)) (hQ : Q v T.heap locs) : own_Go p e below s Q rm (T.setTop (mkF m pc Ls st)) := by
  obtain ⟨fs, hr, hrun, hended, hW, hsame⟩ := X.leave (v := v) hv hlk
  exact ⟨_, _, step fs hr, hrun, hended, v, locs, rfl, hQ, ⟨_, rfl⟩, hW, hsame.mono hc hs⟩
theorem own_retV (X : Stand p l e rm s m args below meth c T locs cells slots) (hx : p.tables.exec = Jvm.exec) (hlk : meth.locks = false) {pc : Nat} {Ls : Array Slot} (hret : meth.sig.returnType = none) (hd : decode c.code pc = .ok (.return_, 1)) (hQ : Q none T.heap locs) (hc : cells ≤ rm.cells) (hs : slots ≤ rm.slots) :
    own_Go p e below s Q rm (T.setTop (mkF m pc Ls [])) := own_out X hlk (fun _ => rfl) hc hs (fun fs hr => X.returnOut hx hret hd hr) hQ
theorem own_retI (X : Stand p l e rm s m args below meth c T locs cells slots) (hx : p.tables.exec = Jvm.exec) (hlk : meth.locks = false) {pc : Nat} {Ls : Array Slot} {z : Int32} {t : FieldType} {rest : List Value} (hret : meth.sig.returnType = some t) (ht : t = .int ∨ t = .boolean ∨ t = .byte ∨ t = .char ∨ t = .short) (hn : narrow t (.int z) = .int z) (hd : decode c.code pc = .ok (.ireturn, 1)) (hQ : Q (some (.int z)) T.heap locs) (hc : cells ≤ rm.cells) (hs : slots ≤ rm.slots) :
    own_Go p e below s Q rm (T.setTop (mkF m pc Ls (.int z :: rest))) := own_out X hlk (fun h => by rw [hret] at h; cases h) hc hs (fun fs hr => retOut X hx hret hn (Or.inl ⟨rfl, ht, z, rfl⟩) hd hr) hQ
theorem own_retL (X : Stand p l e rm s m args below meth c T locs cells slots) (hx : p.tables.exec = Jvm.exec) (hlk : meth.locks = false) {pc : Nat} {Ls : Array Slot} {z : Int64} {rest : List Value} (hret : meth.sig.returnType = some .long) (hd : decode c.code pc = .ok (.lreturn, 1)) (hQ : Q (some (.long z)) T.heap locs) (hc : cells ≤ rm.cells) (hs : slots ≤ rm.slots) :
    own_Go p e below s Q rm (T.setTop (mkF m pc Ls (.long z :: rest))) := own_out X hlk (fun h => by rw [hret] at h; cases h) hc hs (fun fs hr => retOut X hx hret rfl (Or.inr (Or.inl ⟨rfl, rfl, z, rfl⟩)) hd hr) hQ
theorem own_retA (X : Stand p l e rm s m args below meth c T locs cells slots) (hx : p.tables.exec = Jvm.exec) (hlk : meth.locks = false) {pc : Nat} {Ls : Array Slot} {w : Value} {t : FieldType} {rest : List Value} (hret : meth.sig.returnType = some t) (ht : t.isReference = true) (hw : w.isRef = true) (hd : decode c.code pc = .ok (.areturn, 1)) (hQ : Q (some w) T.heap locs) (hc : cells ≤ rm.cells) (hs : slots ≤ rm.slots) :
    own_Go p e below s Q rm (T.setTop (mkF m pc Ls (w :: rest))) := by
  have hn : narrow t w = w := by cases w <;> first | (simp [Value.isRef] at hw; done) | (cases t <;> first | (simp [FieldType.isReference] at ht; done) | rfl)
  exact own_out X hlk (fun h => by rw [hret] at h; cases h) hc hs (fun fs hr => retOut X hx hret hn (Or.inr (Or.inr (Or.inr (Or.inr ⟨rfl, ht, hw⟩)))) hd hr) hQ
theorem own_enter {Z : State} {h0 : Heap} {y : MethodName} {bytes : ByteArray} {maxL : Nat} {ret : Option FieldType} {ws : List Jvm.Cond} {as : Array Value} (hp : plainFor y = true)
    (body : ∀ p e s m below meth c s₁, Stand p l e rm s m as below meth c s₁ [] 0 0 → p.tables.exec = Jvm.exec → Z.Warmed39 s.vm → c.code = bytes → c.maxLocals = maxL → s.vm.findClass y.cls = some m.cls → meth.name = y.name → meth.sig.returnType = ret → meth.locks = false → s₁.heap = h0 →
      own_Go p e below s Q rm (s₁.setTop (entryFrame m as maxL))) :
    MetFree l y (head1 (Jvm.Cond.code y bytes maxL ret :: ws) rm) (fun a U => a = as ∧ Z.Warmed39 U.vm ∧ U.heap = h0) (fun _ _ _ _ _ => True) (fun _ U o U' => ∃ v L, o = .returned v ∧ Q v U'.heap L ∧ FrameEnd U o U' L rm.cells rm.slots) := by
  refine MetFree.of_bodySF hp hisR ?_
  intro p e s m args below meth c s₁ Bd hml0 hP hK
  obtain ⟨rfl, hZ, hh⟩ := hP
  have X0 : Stand p l e rm s m args below meth c s₁ [] 0 0 := Stand.of_body Bd
  exact body p e s m below meth c s₁ X0 Bd.exec hZ Bd.bytes hml0 (findClass_of_methodNamed Bd.named) (name_of_methodNamed Bd.named Bd.method).1 Bd.returns (BodyLoose.notSynchronized Bd) (by rw [← hh, Bd.state]; rfl)
end OwnKit
theorem own_len31 {Z : State} {args : Array Value} {t : Term} {v : Value} {a : Addr} {cl : Cell} (h : (Term.length t).eval args Z none [] Z = some v) (ht : t.eval args Z none [] Z = some (.ref a)) (hc : Z.heap[a]? = some cl) : cl.slots.size < 2 ^ 31 := by
  simp only [Term.eval, ht, Option.bind_eq_bind, Option.bind_some] at h
  cases ha : Z.arrayAt? a with
  | none => simp [ha] at h
  | some c2 =>
    cases (State.arrayAt?_spec ha).1.symm.trans hc
    by_cases q : cl.slots.size < 2 ^ 31
    · exact q
    · simp [ha, q] at h
theorem own_eqr {Z : State} {args : Array Value} {X F : Term} {y : Value} (hy : y.isRef = true) (hF : F.eval args Z none [] Z = some y) (h : (Jvm.Cond.eq X F).value args Z none Z [] = some true) : X.eval args Z none [] Z = some y := by
  obtain ⟨x, y', e1, e2, k1, k2⟩ := cmp_v (Or.inl h)
  cases hF.symm.trans e2
  have hx : x.isRef = true := by
    rcases ref_cases hy with rfl | ⟨a, rfl⟩
    · exact k2.2
    · exact k2.2
  exact e1.trans (congrArg some (gotT (eq_R e1 hF hx hy) h))
theorem pl_0 : plainFor x = true := plainFor_of_name (by first | (simp [plainName, overriddenIn]; done) | decide +kernel)
theorem d1_0 : decode prog_74_method_1_code 0 = .ok (.aload_n 0, 1) := by decide +kernel
theorem d1_1 : decode prog_74_method_1_code 1 = .ok (.invokespecial 1, 3) := by decide +kernel
theorem d1_4 : decode prog_74_method_1_code 4 = .ok (.aload_n 0, 1) := by decide +kernel
theorem d1_5 : decode prog_74_method_1_code 5 = .ok (.iconst 1, 1) := by decide +kernel
theorem d1_6 : decode prog_74_method_1_code 6 = .ok (.putfield 7, 3) := by decide +kernel
theorem d1_9 : decode prog_74_method_1_code 9 = .ok (.aload_n 0, 1) := by decide +kernel
theorem d1_10 : decode prog_74_method_1_code 10 = .ok (.iconst 1, 1) := by decide +kernel
theorem d1_11 : decode prog_74_method_1_code 11 = .ok (.putfield 13, 3) := by decide +kernel
theorem d1_14 : decode prog_74_method_1_code 14 = .ok (.return_, 1) := by decide +kernel
theorem pl_1 : plainFor (⟨"com/example/liftwise/liftwise/eval/arithmetic/Solver$Sides", "<init>", "()V"⟩ : MethodName) = true := plainFor_of_name (by first | (simp [plainName, overriddenIn]; done) | decide +kernel)
theorem d3_0 : decode method_3_code 0 = .ok (.iload_n 0, 1) := by decide +kernel
theorem d3_1 : decode method_3_code 1 = .ok (.ifCond .eq 15, 3) := by decide +kernel
theorem d3_4 : decode method_3_code 4 = .ok (.lload_n 1, 1) := by decide +kernel
theorem d3_5 : decode method_3_code 5 = .ok (.lconst 0, 1) := by decide +kernel
theorem d3_6 : decode method_3_code 6 = .ok (.lcmp, 1) := by decide +kernel
theorem d3_7 : decode method_3_code 7 = .ok (.ifCond .lt 9, 3) := by decide +kernel
theorem d3_10 : decode method_3_code 10 = .ok (.lload_n 1, 1) := by decide +kernel
theorem d3_11 : decode method_3_code 11 = .ok (.lconst 1, 1) := by decide +kernel
theorem d3_12 : decode method_3_code 12 = .ok (.lcmp, 1) := by decide +kernel
theorem d3_13 : decode method_3_code 13 = .ok (.ifCond .ne 7, 3) := by decide +kernel
theorem d3_16 : decode method_3_code 16 = .ok (.iconst 1, 1) := by decide +kernel
theorem d3_17 : decode method_3_code 17 = .ok (.goto 4, 3) := by decide +kernel
theorem d3_20 : decode method_3_code 20 = .ok (.iconst 0, 1) := by decide +kernel
theorem d3_21 : decode method_3_code 21 = .ok (.ireturn, 1) := by decide +kernel
theorem pl_3 : plainFor (⟨"com/example/liftwise/liftwise/eval/arithmetic/SidesIsExactPinLaw", "lowerFine", "(ZJ)Z"⟩ : MethodName) = true := plainFor_of_name (by first | (simp [plainName, overriddenIn]; done) | decide +kernel)
theorem d4_0 : decode method_4_code 0 = .ok (.iload_n 0, 1) := by decide +kernel
theorem d4_1 : decode method_4_code 1 = .ok (.ifCond .eq 17, 3) := by decide +kernel
theorem d4_4 : decode method_4_code 4 = .ok (.lload_n 1, 1) := by decide +kernel
theorem d4_5 : decode method_4_code 5 = .ok (.lconst 0, 1) := by decide +kernel
theorem d4_6 : decode method_4_code 6 = .ok (.lcmp, 1) := by decide +kernel
theorem d4_7 : decode method_4_code 7 = .ok (.ifCond .gt 11, 3) := by decide +kernel
theorem d4_10 : decode method_4_code 10 = .ok (.lload_n 1, 1) := by decide +kernel
theorem d4_11 : decode method_4_code 11 = .ok (.ldc2_w 34, 3) := by decide +kernel
theorem d4_14 : decode method_4_code 14 = .ok (.lcmp, 1) := by decide +kernel
theorem d4_15 : decode method_4_code 15 = .ok (.ifCond .ne 7, 3) := by decide +kernel
theorem d4_18 : decode method_4_code 18 = .ok (.iconst 1, 1) := by decide +kernel
theorem d4_19 : decode method_4_code 19 = .ok (.goto 4, 3) := by decide +kernel
theorem d4_22 : decode method_4_code 22 = .ok (.iconst 0, 1) := by decide +kernel
theorem d4_23 : decode method_4_code 23 = .ok (.ireturn, 1) := by decide +kernel
theorem pl_4 : plainFor (⟨"com/example/liftwise/liftwise/eval/arithmetic/SidesIsExactPinLaw", "upperFine", "(ZJ)Z"⟩ : MethodName) = true := plainFor_of_name (by first | (simp [plainName, overriddenIn]; done) | decide +kernel)
theorem d5_0 : decode prog_74_method_5_code 0 = .ok (.aload_n 0, 1) := by decide +kernel
theorem d5_1 : decode prog_74_method_5_code 1 = .ok (.getfield 7, 3) := by decide +kernel
theorem d5_4 : decode prog_74_method_5_code 4 = .ok (.ifCond .ne 10, 3) := by decide +kernel
theorem d5_7 : decode prog_74_method_5_code 7 = .ok (.aload_n 0, 1) := by decide +kernel
theorem d5_8 : decode prog_74_method_5_code 8 = .ok (.getfield 13, 3) := by decide +kernel
theorem d5_11 : decode prog_74_method_5_code 11 = .ok (.ifCond .eq 7, 3) := by decide +kernel
theorem d5_14 : decode prog_74_method_5_code 14 = .ok (.iconst 1, 1) := by decide +kernel
theorem d5_15 : decode prog_74_method_5_code 15 = .ok (.goto 4, 3) := by decide +kernel
theorem d5_18 : decode prog_74_method_5_code 18 = .ok (.iconst 0, 1) := by decide +kernel
theorem d5_19 : decode prog_74_method_5_code 19 = .ok (.ireturn, 1) := by decide +kernel
theorem pl_5 : plainFor (⟨"com/example/liftwise/liftwise/eval/arithmetic/Solver$Sides", "isExact", "()Z"⟩ : MethodName) = true := plainFor_of_name (by first | (simp [plainName, overriddenIn]; done) | decide +kernel)
theorem d6_0 : decode jdk_2097_method_29_code 0 = .ok (.lload_n 0, 1) := by decide +kernel
theorem d6_1 : decode jdk_2097_method_29_code 1 = .ok (.lconst 0, 1) := by decide +kernel
theorem d6_2 : decode jdk_2097_method_29_code 2 = .ok (.lcmp, 1) := by decide +kernel
theorem d6_3 : decode jdk_2097_method_29_code 3 = .ok (.ifCond .ne 7, 3) := by decide +kernel
theorem d6_6 : decode jdk_2097_method_29_code 6 = .ok (.getstatic 22, 3) := by decide +kernel
theorem d6_9 : decode jdk_2097_method_29_code 9 = .ok (.areturn, 1) := by decide +kernel
theorem d6_10 : decode jdk_2097_method_29_code 10 = .ok (.lload_n 0, 1) := by decide +kernel
theorem d6_11 : decode jdk_2097_method_29_code 11 = .ok (.lconst 0, 1) := by decide +kernel
theorem d6_12 : decode jdk_2097_method_29_code 12 = .ok (.lcmp, 1) := by decide +kernel
theorem d6_13 : decode jdk_2097_method_29_code 13 = .ok (.ifCond .le 18, 3) := by decide +kernel
theorem d6_16 : decode jdk_2097_method_29_code 16 = .ok (.lload_n 0, 1) := by decide +kernel
theorem d6_17 : decode jdk_2097_method_29_code 17 = .ok (.ldc2_w 345, 3) := by decide +kernel
theorem d6_20 : decode jdk_2097_method_29_code 20 = .ok (.lcmp, 1) := by decide +kernel
theorem d6_21 : decode jdk_2097_method_29_code 21 = .ok (.ifCond .gt 10, 3) := by decide +kernel
theorem d6_24 : decode jdk_2097_method_29_code 24 = .ok (.getstatic 347, 3) := by decide +kernel
theorem d6_27 : decode jdk_2097_method_29_code 27 = .ok (.lload_n 0, 1) := by decide +kernel
theorem d6_28 : decode jdk_2097_method_29_code 28 = .ok (.l2i, 1) := by decide +kernel
theorem d6_29 : decode jdk_2097_method_29_code 29 = .ok (.aaload, 1) := by decide +kernel
theorem d6_30 : decode jdk_2097_method_29_code 30 = .ok (.areturn, 1) := by decide +kernel
theorem d6_31 : decode jdk_2097_method_29_code 31 = .ok (.lload_n 0, 1) := by decide +kernel
theorem d6_32 : decode jdk_2097_method_29_code 32 = .ok (.lconst 0, 1) := by decide +kernel
theorem d6_33 : decode jdk_2097_method_29_code 33 = .ok (.lcmp, 1) := by decide +kernel
theorem d6_34 : decode jdk_2097_method_29_code 34 = .ok (.ifCond .ge 19, 3) := by decide +kernel
theorem d6_37 : decode jdk_2097_method_29_code 37 = .ok (.lload_n 0, 1) := by decide +kernel
theorem d6_38 : decode jdk_2097_method_29_code 38 = .ok (.ldc2_w 351, 3) := by decide +kernel
theorem d6_41 : decode jdk_2097_method_29_code 41 = .ok (.lcmp, 1) := by decide +kernel
theorem d6_42 : decode jdk_2097_method_29_code 42 = .ok (.ifCond .lt 11, 3) := by decide +kernel
theorem d6_45 : decode jdk_2097_method_29_code 45 = .ok (.getstatic 353, 3) := by decide +kernel
theorem d6_48 : decode jdk_2097_method_29_code 48 = .ok (.lload_n 0, 1) := by decide +kernel
theorem d6_49 : decode jdk_2097_method_29_code 49 = .ok (.lneg, 1) := by decide +kernel
theorem d6_50 : decode jdk_2097_method_29_code 50 = .ok (.l2i, 1) := by decide +kernel
theorem d6_51 : decode jdk_2097_method_29_code 51 = .ok (.aaload, 1) := by decide +kernel
theorem d6_52 : decode jdk_2097_method_29_code 52 = .ok (.areturn, 1) := by decide +kernel
theorem d6_53 : decode jdk_2097_method_29_code 53 = .ok (.new 23, 3) := by decide +kernel
theorem d6_56 : decode jdk_2097_method_29_code 56 = .ok (.dup, 1) := by decide +kernel
theorem d6_57 : decode jdk_2097_method_29_code 57 = .ok (.lload_n 0, 1) := by decide +kernel
theorem d6_58 : decode jdk_2097_method_29_code 58 = .ok (.invokespecial 356, 3) := by decide +kernel
theorem d6_61 : decode jdk_2097_method_29_code 61 = .ok (.areturn, 1) := by decide +kernel
theorem pl_6 : plainFor (⟨"java/math/BigInteger", "valueOf", "(J)Ljava/math/BigInteger;"⟩ : MethodName) = true := plainFor_of_name (by first | (simp [plainName, overriddenIn]; done) | decide +kernel)
theorem d7_0 : decode jdk_2097_method_30_code 0 = .ok (.aload_n 0, 1) := by decide +kernel
theorem d7_1 : decode jdk_2097_method_30_code 1 = .ok (.invokespecial 3, 3) := by decide +kernel
theorem d7_4 : decode jdk_2097_method_30_code 4 = .ok (.lload_n 1, 1) := by decide +kernel
theorem d7_5 : decode jdk_2097_method_30_code 5 = .ok (.lconst 0, 1) := by decide +kernel
theorem d7_6 : decode jdk_2097_method_30_code 6 = .ok (.lcmp, 1) := by decide +kernel
theorem d7_7 : decode jdk_2097_method_30_code 7 = .ok (.ifCond .ge 14, 3) := by decide +kernel
theorem d7_10 : decode jdk_2097_method_30_code 10 = .ok (.lload_n 1, 1) := by decide +kernel
theorem d7_11 : decode jdk_2097_method_30_code 11 = .ok (.lneg, 1) := by decide +kernel
theorem d7_12 : decode jdk_2097_method_30_code 12 = .ok (.lstore_n 1, 1) := by decide +kernel
theorem d7_13 : decode jdk_2097_method_30_code 13 = .ok (.aload_n 0, 1) := by decide +kernel
theorem d7_14 : decode jdk_2097_method_30_code 14 = .ok (.iconst (-1), 1) := by decide +kernel
theorem d7_15 : decode jdk_2097_method_30_code 15 = .ok (.putfield 32, 3) := by decide +kernel
theorem d7_18 : decode jdk_2097_method_30_code 18 = .ok (.goto 8, 3) := by decide +kernel
theorem d7_21 : decode jdk_2097_method_30_code 21 = .ok (.aload_n 0, 1) := by decide +kernel
theorem d7_22 : decode jdk_2097_method_30_code 22 = .ok (.iconst 1, 1) := by decide +kernel
theorem d7_23 : decode jdk_2097_method_30_code 23 = .ok (.putfield 32, 3) := by decide +kernel
theorem d7_26 : decode jdk_2097_method_30_code 26 = .ok (.lload_n 1, 1) := by decide +kernel
theorem d7_27 : decode jdk_2097_method_30_code 27 = .ok (.bipush 32, 2) := by decide +kernel
theorem d7_29 : decode jdk_2097_method_30_code 29 = .ok (.lushr, 1) := by decide +kernel
theorem d7_30 : decode jdk_2097_method_30_code 30 = .ok (.l2i, 1) := by decide +kernel
theorem d7_31 : decode jdk_2097_method_30_code 31 = .ok (.istore_n 3, 1) := by decide +kernel
theorem d7_32 : decode jdk_2097_method_30_code 32 = .ok (.iload_n 3, 1) := by decide +kernel
theorem d7_33 : decode jdk_2097_method_30_code 33 = .ok (.ifCond .ne 21, 3) := by decide +kernel
theorem d7_36 : decode jdk_2097_method_30_code 36 = .ok (.aload_n 0, 1) := by decide +kernel
theorem d7_37 : decode jdk_2097_method_30_code 37 = .ok (.iconst 1, 1) := by decide +kernel
theorem d7_38 : decode jdk_2097_method_30_code 38 = .ok (.newarray .int, 2) := by decide +kernel
theorem d7_40 : decode jdk_2097_method_30_code 40 = .ok (.putfield 28, 3) := by decide +kernel
theorem d7_43 : decode jdk_2097_method_30_code 43 = .ok (.aload_n 0, 1) := by decide +kernel
theorem d7_44 : decode jdk_2097_method_30_code 44 = .ok (.getfield 28, 3) := by decide +kernel
theorem d7_47 : decode jdk_2097_method_30_code 47 = .ok (.iconst 0, 1) := by decide +kernel
theorem d7_48 : decode jdk_2097_method_30_code 48 = .ok (.lload_n 1, 1) := by decide +kernel
theorem d7_49 : decode jdk_2097_method_30_code 49 = .ok (.l2i, 1) := by decide +kernel
theorem d7_50 : decode jdk_2097_method_30_code 50 = .ok (.iastore, 1) := by decide +kernel
theorem d7_51 : decode jdk_2097_method_30_code 51 = .ok (.goto 25, 3) := by decide +kernel
theorem d7_54 : decode jdk_2097_method_30_code 54 = .ok (.aload_n 0, 1) := by decide +kernel
theorem d7_55 : decode jdk_2097_method_30_code 55 = .ok (.iconst 2, 1) := by decide +kernel
theorem d7_56 : decode jdk_2097_method_30_code 56 = .ok (.newarray .int, 2) := by decide +kernel
theorem d7_58 : decode jdk_2097_method_30_code 58 = .ok (.putfield 28, 3) := by decide +kernel
theorem d7_61 : decode jdk_2097_method_30_code 61 = .ok (.aload_n 0, 1) := by decide +kernel
theorem d7_62 : decode jdk_2097_method_30_code 62 = .ok (.getfield 28, 3) := by decide +kernel
theorem d7_65 : decode jdk_2097_method_30_code 65 = .ok (.iconst 0, 1) := by decide +kernel
theorem d7_66 : decode jdk_2097_method_30_code 66 = .ok (.iload_n 3, 1) := by decide +kernel
theorem d7_67 : decode jdk_2097_method_30_code 67 = .ok (.iastore, 1) := by decide +kernel
theorem d7_68 : decode jdk_2097_method_30_code 68 = .ok (.aload_n 0, 1) := by decide +kernel
theorem d7_69 : decode jdk_2097_method_30_code 69 = .ok (.getfield 28, 3) := by decide +kernel
theorem d7_72 : decode jdk_2097_method_30_code 72 = .ok (.iconst 1, 1) := by decide +kernel
theorem d7_73 : decode jdk_2097_method_30_code 73 = .ok (.lload_n 1, 1) := by decide +kernel
theorem d7_74 : decode jdk_2097_method_30_code 74 = .ok (.l2i, 1) := by decide +kernel
theorem d7_75 : decode jdk_2097_method_30_code 75 = .ok (.iastore, 1) := by decide +kernel
theorem d7_76 : decode jdk_2097_method_30_code 76 = .ok (.return_, 1) := by decide +kernel
theorem pl_7 : plainFor (⟨"java/math/BigInteger", "<init>", "(J)V"⟩ : MethodName) = true := plainFor_of_name (by first | (simp [plainName, overriddenIn]; done) | decide +kernel)
theorem d8_0 : decode jdk_18_method_1_code 0 = .ok (.aload_n 0, 1) := by decide +kernel
theorem d8_1 : decode jdk_18_method_1_code 1 = .ok (.invokespecial 1, 3) := by decide +kernel
theorem d8_4 : decode jdk_18_method_1_code 4 = .ok (.return_, 1) := by decide +kernel
theorem pl_8 : plainFor (⟨"java/lang/Number", "<init>", "()V"⟩ : MethodName) = true := plainFor_of_name (by first | (simp [plainName, overriddenIn]; done) | decide +kernel)
theorem d9_0 : decode prog_74_method_2_code 0 = .ok (.aload_n 1, 1) := by decide +kernel
theorem d9_1 : decode prog_74_method_2_code 1 = .ok (.invokevirtual 16, 3) := by decide +kernel
theorem d9_4 : decode prog_74_method_2_code 4 = .ok (.getstatic 22, 3) := by decide +kernel
theorem d9_7 : decode prog_74_method_2_code 7 = .ok (.invokevirtual 26, 3) := by decide +kernel
theorem d9_10 : decode prog_74_method_2_code 10 = .ok (.istore_n 2, 1) := by decide +kernel
theorem d9_11 : decode prog_74_method_2_code 11 = .ok (.aload_n 1, 1) := by decide +kernel
theorem d9_12 : decode prog_74_method_2_code 12 = .ok (.invokevirtual 30, 3) := by decide +kernel
theorem d9_15 : decode prog_74_method_2_code 15 = .ok (.ifCond .le 26, 3) := by decide +kernel
theorem d9_18 : decode prog_74_method_2_code 18 = .ok (.aload_n 0, 1) := by decide +kernel
theorem d9_19 : decode prog_74_method_2_code 19 = .ok (.dup, 1) := by decide +kernel
theorem d9_20 : decode prog_74_method_2_code 20 = .ok (.getfield 34, 3) := by decide +kernel
theorem d9_23 : decode prog_74_method_2_code 23 = .ok (.iconst 1, 1) := by decide +kernel
theorem d9_24 : decode prog_74_method_2_code 24 = .ok (.iadd, 1) := by decide +kernel
theorem d9_25 : decode prog_74_method_2_code 25 = .ok (.putfield 34, 3) := by decide +kernel
theorem d9_28 : decode prog_74_method_2_code 28 = .ok (.aload_n 0, 1) := by decide +kernel
theorem d9_29 : decode prog_74_method_2_code 29 = .ok (.dup, 1) := by decide +kernel
theorem d9_30 : decode prog_74_method_2_code 30 = .ok (.getfield 7, 3) := by decide +kernel
theorem d9_33 : decode prog_74_method_2_code 33 = .ok (.iload_n 2, 1) := by decide +kernel
theorem d9_34 : decode prog_74_method_2_code 34 = .ok (.iand, 1) := by decide +kernel
theorem d9_35 : decode prog_74_method_2_code 35 = .ok (.putfield 7, 3) := by decide +kernel
theorem d9_38 : decode prog_74_method_2_code 38 = .ok (.goto 23, 3) := by decide +kernel
theorem d9_41 : decode prog_74_method_2_code 41 = .ok (.aload_n 0, 1) := by decide +kernel
theorem d9_42 : decode prog_74_method_2_code 42 = .ok (.dup, 1) := by decide +kernel
theorem d9_43 : decode prog_74_method_2_code 43 = .ok (.getfield 38, 3) := by decide +kernel
theorem d9_46 : decode prog_74_method_2_code 46 = .ok (.iconst 1, 1) := by decide +kernel
theorem d9_47 : decode prog_74_method_2_code 47 = .ok (.iadd, 1) := by decide +kernel
theorem d9_48 : decode prog_74_method_2_code 48 = .ok (.putfield 38, 3) := by decide +kernel
theorem d9_51 : decode prog_74_method_2_code 51 = .ok (.aload_n 0, 1) := by decide +kernel
theorem d9_52 : decode prog_74_method_2_code 52 = .ok (.dup, 1) := by decide +kernel
theorem d9_53 : decode prog_74_method_2_code 53 = .ok (.getfield 13, 3) := by decide +kernel
theorem d9_56 : decode prog_74_method_2_code 56 = .ok (.iload_n 2, 1) := by decide +kernel
theorem d9_57 : decode prog_74_method_2_code 57 = .ok (.iand, 1) := by decide +kernel
theorem d9_58 : decode prog_74_method_2_code 58 = .ok (.putfield 13, 3) := by decide +kernel
theorem d9_61 : decode prog_74_method_2_code 61 = .ok (.return_, 1) := by decide +kernel
theorem pl_9 : plainFor (⟨"com/example/liftwise/liftwise/eval/arithmetic/Solver$Sides", "add", "(Ljava/math/BigInteger;)V"⟩ : MethodName) = true := plainFor_of_name (by first | (simp [plainName, overriddenIn]; done) | decide +kernel)
theorem d10_0 : decode jdk_2097_method_79_code 0 = .ok (.aload_n 0, 1) := by decide +kernel
theorem d10_1 : decode jdk_2097_method_79_code 1 = .ok (.getfield 32, 3) := by decide +kernel
theorem d10_4 : decode jdk_2097_method_79_code 4 = .ok (.ifCond .lt 7, 3) := by decide +kernel
theorem d10_7 : decode jdk_2097_method_79_code 7 = .ok (.aload_n 0, 1) := by decide +kernel
theorem d10_8 : decode jdk_2097_method_79_code 8 = .ok (.goto 7, 3) := by decide +kernel
theorem d10_11 : decode jdk_2097_method_79_code 11 = .ok (.aload_n 0, 1) := by decide +kernel
theorem d10_12 : decode jdk_2097_method_79_code 12 = .ok (.invokevirtual 394, 3) := by decide +kernel
theorem d10_15 : decode jdk_2097_method_79_code 15 = .ok (.areturn, 1) := by decide +kernel
theorem pl_10 : plainFor (⟨"java/math/BigInteger", "abs", "()Ljava/math/BigInteger;"⟩ : MethodName) = true := plainFor_of_name (by first | (simp [plainName, overriddenIn]; done) | decide +kernel)
theorem d11_0 : decode jdk_2097_method_124_code 0 = .ok (.aload_n 1, 1) := by decide +kernel
theorem d11_1 : decode jdk_2097_method_124_code 1 = .ok (.aload_n 0, 1) := by decide +kernel
theorem d11_2 : decode jdk_2097_method_124_code 2 = .ok (.if_acmp .ne 5, 3) := by decide +kernel
theorem d11_5 : decode jdk_2097_method_124_code 5 = .ok (.iconst 1, 1) := by decide +kernel
theorem d11_6 : decode jdk_2097_method_124_code 6 = .ok (.ireturn, 1) := by decide +kernel
theorem d11_7 : decode jdk_2097_method_124_code 7 = .ok (.aload_n 1, 1) := by decide +kernel
theorem d11_8 : decode jdk_2097_method_124_code 8 = .ok (.instanceof 23, 3) := by decide +kernel
theorem d11_11 : decode jdk_2097_method_124_code 11 = .ok (.ifCond .eq 11, 3) := by decide +kernel
theorem d11_14 : decode jdk_2097_method_124_code 14 = .ok (.aload_n 1, 1) := by decide +kernel
theorem d11_15 : decode jdk_2097_method_124_code 15 = .ok (.checkcast 23, 3) := by decide +kernel
theorem d11_18 : decode jdk_2097_method_124_code 18 = .ok (.astore_n 2, 1) := by decide +kernel
theorem d11_19 : decode jdk_2097_method_124_code 19 = .ok (.goto 5, 3) := by decide +kernel
theorem d11_22 : decode jdk_2097_method_124_code 22 = .ok (.iconst 0, 1) := by decide +kernel
theorem d11_23 : decode jdk_2097_method_124_code 23 = .ok (.ireturn, 1) := by decide +kernel
theorem d11_24 : decode jdk_2097_method_124_code 24 = .ok (.aload_n 2, 1) := by decide +kernel
theorem d11_25 : decode jdk_2097_method_124_code 25 = .ok (.getfield 32, 3) := by decide +kernel
theorem d11_28 : decode jdk_2097_method_124_code 28 = .ok (.aload_n 0, 1) := by decide +kernel
theorem d11_29 : decode jdk_2097_method_124_code 29 = .ok (.getfield 32, 3) := by decide +kernel
theorem d11_32 : decode jdk_2097_method_124_code 32 = .ok (.if_icmp .eq 5, 3) := by decide +kernel
theorem d11_35 : decode jdk_2097_method_124_code 35 = .ok (.iconst 0, 1) := by decide +kernel
theorem d11_36 : decode jdk_2097_method_124_code 36 = .ok (.ireturn, 1) := by decide +kernel
theorem d11_37 : decode jdk_2097_method_124_code 37 = .ok (.aload_n 0, 1) := by decide +kernel
theorem d11_38 : decode jdk_2097_method_124_code 38 = .ok (.getfield 28, 3) := by decide +kernel
theorem d11_41 : decode jdk_2097_method_124_code 41 = .ok (.astore_n 3, 1) := by decide +kernel
theorem d11_42 : decode jdk_2097_method_124_code 42 = .ok (.aload_n 3, 1) := by decide +kernel
theorem d11_43 : decode jdk_2097_method_124_code 43 = .ok (.arraylength, 1) := by decide +kernel
theorem d11_44 : decode jdk_2097_method_124_code 44 = .ok (.istore 4, 2) := by decide +kernel
theorem d11_46 : decode jdk_2097_method_124_code 46 = .ok (.aload_n 2, 1) := by decide +kernel
theorem d11_47 : decode jdk_2097_method_124_code 47 = .ok (.getfield 28, 3) := by decide +kernel
theorem d11_50 : decode jdk_2097_method_124_code 50 = .ok (.astore 5, 2) := by decide +kernel
theorem d11_52 : decode jdk_2097_method_124_code 52 = .ok (.iload 4, 2) := by decide +kernel
theorem d11_54 : decode jdk_2097_method_124_code 54 = .ok (.aload 5, 2) := by decide +kernel
theorem d11_56 : decode jdk_2097_method_124_code 56 = .ok (.arraylength, 1) := by decide +kernel
theorem d11_57 : decode jdk_2097_method_124_code 57 = .ok (.if_icmp .eq 5, 3) := by decide +kernel
theorem d11_60 : decode jdk_2097_method_124_code 60 = .ok (.iconst 0, 1) := by decide +kernel
theorem d11_61 : decode jdk_2097_method_124_code 61 = .ok (.ireturn, 1) := by decide +kernel
theorem d11_62 : decode jdk_2097_method_124_code 62 = .ok (.iconst 0, 1) := by decide +kernel
theorem d11_63 : decode jdk_2097_method_124_code 63 = .ok (.istore 6, 2) := by decide +kernel
theorem d11_65 : decode jdk_2097_method_124_code 65 = .ok (.iload 6, 2) := by decide +kernel
theorem d11_67 : decode jdk_2097_method_124_code 67 = .ok (.iload 4, 2) := by decide +kernel
theorem d11_69 : decode jdk_2097_method_124_code 69 = .ok (.if_icmp .ge 23, 3) := by decide +kernel
theorem d11_72 : decode jdk_2097_method_124_code 72 = .ok (.aload 5, 2) := by decide +kernel
theorem d11_74 : decode jdk_2097_method_124_code 74 = .ok (.iload 6, 2) := by decide +kernel
theorem d11_76 : decode jdk_2097_method_124_code 76 = .ok (.iaload, 1) := by decide +kernel
theorem d11_77 : decode jdk_2097_method_124_code 77 = .ok (.aload_n 3, 1) := by decide +kernel
theorem d11_78 : decode jdk_2097_method_124_code 78 = .ok (.iload 6, 2) := by decide +kernel
theorem d11_80 : decode jdk_2097_method_124_code 80 = .ok (.iaload, 1) := by decide +kernel
theorem d11_81 : decode jdk_2097_method_124_code 81 = .ok (.if_icmp .eq 5, 3) := by decide +kernel
theorem d11_84 : decode jdk_2097_method_124_code 84 = .ok (.iconst 0, 1) := by decide +kernel
theorem d11_85 : decode jdk_2097_method_124_code 85 = .ok (.ireturn, 1) := by decide +kernel
theorem d11_86 : decode jdk_2097_method_124_code 86 = .ok (.iinc 6 1, 3) := by decide +kernel
theorem d11_89 : decode jdk_2097_method_124_code 89 = .ok (.goto (-24), 3) := by decide +kernel
theorem d11_92 : decode jdk_2097_method_124_code 92 = .ok (.iconst 1, 1) := by decide +kernel
theorem d11_93 : decode jdk_2097_method_124_code 93 = .ok (.ireturn, 1) := by decide +kernel
theorem pl_11 : plainFor (⟨"java/math/BigInteger", "equals", "(Ljava/lang/Object;)Z"⟩ : MethodName) = true := plainFor_of_name (by first | (simp [plainName, overriddenIn]; done) | decide +kernel)
theorem d12_0 : decode jdk_2097_method_81_code 0 = .ok (.aload_n 0, 1) := by decide +kernel
theorem d12_1 : decode jdk_2097_method_81_code 1 = .ok (.getfield 32, 3) := by decide +kernel
theorem d12_4 : decode jdk_2097_method_81_code 4 = .ok (.ireturn, 1) := by decide +kernel
theorem pl_12 : plainFor (⟨"java/math/BigInteger", "signum", "()I"⟩ : MethodName) = true := plainFor_of_name (by first | (simp [plainName, overriddenIn]; done) | decide +kernel)
theorem d13_0 : decode jdk_2097_method_80_code 0 = .ok (.new 23, 3) := by decide +kernel
theorem d13_3 : decode jdk_2097_method_80_code 3 = .ok (.dup, 1) := by decide +kernel
theorem d13_4 : decode jdk_2097_method_80_code 4 = .ok (.aload_n 0, 1) := by decide +kernel
theorem d13_5 : decode jdk_2097_method_80_code 5 = .ok (.getfield 28, 3) := by decide +kernel
theorem d13_8 : decode jdk_2097_method_80_code 8 = .ok (.aload_n 0, 1) := by decide +kernel
theorem d13_9 : decode jdk_2097_method_80_code 9 = .ok (.getfield 32, 3) := by decide +kernel
theorem d13_12 : decode jdk_2097_method_80_code 12 = .ok (.ineg, 1) := by decide +kernel
theorem d13_13 : decode jdk_2097_method_80_code 13 = .ok (.invokespecial 175, 3) := by decide +kernel
theorem d13_16 : decode jdk_2097_method_80_code 16 = .ok (.areturn, 1) := by decide +kernel
theorem pl_13 : plainFor (⟨"java/math/BigInteger", "negate", "()Ljava/math/BigInteger;"⟩ : MethodName) = true := plainFor_of_name (by first | (simp [plainName, overriddenIn]; done) | decide +kernel)
theorem d14_0 : decode jdk_2097_method_25_code 0 = .ok (.aload_n 0, 1) := by decide +kernel
theorem d14_1 : decode jdk_2097_method_25_code 1 = .ok (.invokespecial 3, 3) := by decide +kernel
theorem d14_4 : decode jdk_2097_method_25_code 4 = .ok (.aload_n 0, 1) := by decide +kernel
theorem d14_5 : decode jdk_2097_method_25_code 5 = .ok (.aload_n 1, 1) := by decide +kernel
theorem d14_6 : decode jdk_2097_method_25_code 6 = .ok (.arraylength, 1) := by decide +kernel
theorem d14_7 : decode jdk_2097_method_25_code 7 = .ok (.ifCond .ne 7, 3) := by decide +kernel
theorem d14_10 : decode jdk_2097_method_25_code 10 = .ok (.iconst 0, 1) := by decide +kernel
theorem d14_11 : decode jdk_2097_method_25_code 11 = .ok (.goto 4, 3) := by decide +kernel
theorem d14_14 : decode jdk_2097_method_25_code 14 = .ok (.iload_n 2, 1) := by decide +kernel
theorem d14_15 : decode jdk_2097_method_25_code 15 = .ok (.putfield 32, 3) := by decide +kernel
theorem d14_18 : decode jdk_2097_method_25_code 18 = .ok (.aload_n 0, 1) := by decide +kernel
theorem d14_19 : decode jdk_2097_method_25_code 19 = .ok (.aload_n 1, 1) := by decide +kernel
theorem d14_20 : decode jdk_2097_method_25_code 20 = .ok (.putfield 28, 3) := by decide +kernel
theorem d14_23 : decode jdk_2097_method_25_code 23 = .ok (.aload_n 0, 1) := by decide +kernel
theorem d14_24 : decode jdk_2097_method_25_code 24 = .ok (.getfield 28, 3) := by decide +kernel
theorem d14_27 : decode jdk_2097_method_25_code 27 = .ok (.arraylength, 1) := by decide +kernel
theorem d14_28 : decode jdk_2097_method_25_code 28 = .ok (.ldc 43, 2) := by decide +kernel
theorem d14_30 : decode jdk_2097_method_25_code 30 = .ok (.if_icmp .lt 7, 3) := by decide +kernel
theorem d14_33 : decode jdk_2097_method_25_code 33 = .ok (.aload_n 0, 1) := by decide +kernel
theorem d14_34 : decode jdk_2097_method_25_code 34 = .ok (.invokevirtual 44, 3) := by decide +kernel
theorem d14_37 : decode jdk_2097_method_25_code 37 = .ok (.return_, 1) := by decide +kernel
theorem pl_14 : plainFor (⟨"java/math/BigInteger", "<init>", "([II)V"⟩ : MethodName) = true := plainFor_of_name (by first | (simp [plainName, overriddenIn]; done) | decide +kernel)
theorem pd_0 : parseMethodDescriptor "()V" = some ⟨[], none⟩ := by decide +kernel
theorem pd_1 : parseMethodDescriptor "(ZJ)Z" = some ⟨[.boolean, .long], some .boolean⟩ := by decide +kernel
theorem pd_2 : parseMethodDescriptor "()Z" = some ⟨[], some .boolean⟩ := by decide +kernel
theorem pd_3 : parseMethodDescriptor "(J)Ljava/math/BigInteger;" = some ⟨[.long], some (.object "java/math/BigInteger")⟩ := by decide +kernel
theorem pd_4 : parseMethodDescriptor "(J)V" = some ⟨[.long], none⟩ := by decide +kernel
theorem pd_5 : parseMethodDescriptor "(Ljava/math/BigInteger;)V" = some ⟨[(.object "java/math/BigInteger")], none⟩ := by decide +kernel
theorem pd_6 : parseMethodDescriptor "()Ljava/math/BigInteger;" = some ⟨[], some (.object "java/math/BigInteger")⟩ := by decide +kernel
theorem pd_7 : parseMethodDescriptor "(Ljava/lang/Object;)Z" = some ⟨[(.object "java/lang/Object")], some .boolean⟩ := by decide +kernel
theorem pd_8 : parseMethodDescriptor "()I" = some ⟨[], some .int⟩ := by decide +kernel
theorem pd_9 : parseMethodDescriptor "([II)V" = some ⟨[(.array .int), .int], none⟩ := by decide +kernel
theorem own_mod (x n : Int32) (hn : 0 < n.toInt) : 0 ≤ ((x &&& (2147483647 : Int32)) % n).toInt ∧ ((x &&& (2147483647 : Int32)) % n).toInt < n.toInt := by
  have h := (c_and x 2147483647 (by decide)).1
  have q := (c_iremV (x &&& 2147483647) n).1 h hn
  exact ⟨q.1, q.2.1⟩
theorem own_cases5 (k : Int32) (h : 0 ≤ k.toInt ∧ k.toInt < (5 : Int32).toInt) : k = (0 : Int32) ∨ k = (1 : Int32) ∨ k = (2 : Int32) ∨ k = (3 : Int32) ∨ k = (4 : Int32) := by
  have e : (5 : Int32).toInt = 5 := by decide
  have q : k.toInt = 0 ∨ k.toInt = 1 ∨ k.toInt = 2 ∨ k.toInt = 3 ∨ k.toInt = 4 := by omega
  rcases q with q | q | q | q | q
  · exact Or.inl (Int32.toInt_inj.mp (q.trans (by decide)))
  · exact Or.inr (Or.inl (Int32.toInt_inj.mp (q.trans (by decide))))
  · exact Or.inr (Or.inr (Or.inl (Int32.toInt_inj.mp (q.trans (by decide)))))
  · exact Or.inr (Or.inr (Or.inr (Or.inl (Int32.toInt_inj.mp (q.trans (by decide))))))
  · exact Or.inr (Or.inr (Or.inr (Or.inr ((Int32.toInt_inj.mp (q.trans (by decide)))))))
theorem own_ifc {p q : Prop} [Decidable p] [Decidable q] (h : p ↔ q) (a b : Int32) : (if p then a else b) = if q then a else b := by
  by_cases hp : p
  · rw [if_pos hp, if_pos (h.mp hp)]
  · rw [if_neg hp, if_neg (fun x => hp (h.mpr x))]
def own_Mag (n : Int32) (vs : List Value) (u : Int32) : Prop := (n = (1 : Int32) ∧ ∃ m : Int32, vs = [.int m] ∧ u = if m = (1 : Int32) then (1 : Int32) else (0 : Int32)) ∨ (n = (2 : Int32) ∧ ∃ a b : Int32, vs = [.int a, .int b] ∧ u = (0 : Int32))
def own_Big (Z : State) (h : Heap) (b : Addr) (sg u : Int32) : Prop := ∃ (ma : Addr) (k : ClassId) (n : Int32) (vs : List Value), Exa Z h b "java/math/BigInteger" ∧ Fld Z h b "java/math/BigInteger" "signum" "I" (.int sg) ∧ Fld Z h b "java/math/BigInteger" "mag" "[I" (.ref ma) ∧ Arv Z h ma k .int n vs (.int (0 : Int32)) ∧ own_Mag n vs u
theorem own_Big.ext {Z : State} {h h' : Heap} {b : Addr} {sg u : Int32} (F : own_Big Z h b sg u) (E : Ext h h') : own_Big Z h' b sg u := by
  obtain ⟨ma, k, n, vs, a1, a2, a3, a4, a5⟩ := F
  exact ⟨ma, k, n, vs, a1.ext E, a2.ext E, a3.ext E, Arv.ext a4 E, a5⟩
theorem own_Big.keep {Z : State} {h h' : Heap} {b : Addr} {sg u : Int32} (F : own_Big Z h b sg u) (K : Keep h h' []) : own_Big Z h' b sg u := by
  obtain ⟨ma, k, n, vs, a1, a2, a3, a4, a5⟩ := F
  exact ⟨ma, k, n, vs, a1.keep K, a2.keep K nin0, a3.keep K nin0, Arv.keep a4 K nin0, a5⟩
def own_sg (x : Int64) : Int32 := if (0 : Int64) < x then (1 : Int32) else (-1 : Int32)
def own_un (x : Int64) : Int32 := if x = (1 : Int64) ∨ x = (-1 : Int64) then (1 : Int32) else (0 : Int32)
theorem own_sg_or (x : Int64) : own_sg x = (1 : Int32) ∨ own_sg x = (-1 : Int32) := by
  by_cases h : (0 : Int64) < x
  · exact Or.inl (if_pos h)
  · exact Or.inr (if_neg h)
theorem own_un_or (x : Int64) : own_un x = (0 : Int32) ∨ own_un x = (1 : Int32) := by
  by_cases h : x = (1 : Int64) ∨ x = (-1 : Int64)
  · exact Or.inr (if_pos h)
  · exact Or.inl (if_neg h)
theorem own_mag_or {n : Int32} {vs : List Value} {u : Int32} (h : own_Mag n vs u) : u = (0 : Int32) ∨ u = (1 : Int32) := by
  rcases h with ⟨-, m, -, rfl⟩ | ⟨-, a, b, -, rfl⟩
  · by_cases q : m = (1 : Int32)
    · exact Or.inr (if_pos q)
    · exact Or.inl (if_neg q)
  · exact Or.inl rfl
/-- a table of boxed small numbers: what stands at 1 .. 16 -/
def own_Tab (Z : State) (a : Addr) (c : Cell) (sg : Int32) : Prop := Arr Z Z.heap a c (.object "java/math/BigInteger") ∧ c.slots.size = (17 : Int32).toNatClampNeg ∧ ∀ j : Int32, (0 : Int32) < j → ¬ (16 : Int32) < j → ∃ b, c.slots[j.toNatClampNeg]? = some (.ref b) ∧ own_Big Z Z.heap b sg (if j = (1 : Int32) then (1 : Int32) else (0 : Int32))
theorem own_fld_inj {Z : State} {h : Heap} {a : Addr} {C n d : String} {v w : Value} (F : Fld Z h a C n d v) (G : Fld Z h a C n d w) : v = w := Classical.byContradiction fun q => Fld.ne F G q rfl
theorem own_arv_inj {Z : State} {h : Heap} {a : Addr} {k k' : ClassId} {ty ty' : FieldType} {z z' : Int32} {vs vs' : List Value} {d d' : Value} (F : Arv Z h a k ty z vs d) (G : Arv Z h a k' ty' z' vs' d') : z.toNatClampNeg = z'.toNatClampNeg ∧ ∀ i, i < z.toNatClampNeg → vs.getD i d = vs'.getD i d' := by
  obtain ⟨c, A, -, S, -, H, -⟩ := F
  obtain ⟨c', A', -, S', -, H', -⟩ := G
  cases A.1.symm.trans A'.1
  refine ⟨S.symm.trans S', fun i hi => ?_⟩
  have e1 := H i (by rw [S]; exact hi)
  have e2 := H' i (by rw [S]; exact hi)
  exact Option.some.inj (e1.symm.trans e2)
/-- an object that is ONE is a unit -/
theorem own_one {Z : State} {h : Heap} {b ma om : Addr} {k ko : ClassId} {n : Int32} {vs : List Value} {u : Int32} (F : Fld Z h b "java/math/BigInteger" "mag" "[I" (.ref ma)) (G : Fld Z h b "java/math/BigInteger" "mag" "[I" (.ref om)) (A : Arv Z h ma k .int n vs (.int (0 : Int32))) (B : Arv Z h om ko .int (1 : Int32) [.int (1 : Int32)] (.int (0 : Int32))) (M : own_Mag n vs u) : u = (1 : Int32) := by
  cases Value.ref.inj (own_fld_inj F G)
  obtain ⟨e, q⟩ := own_arv_inj A B
  rcases M with ⟨rfl, m, rfl, rfl⟩ | ⟨rfl, a, c, rfl, rfl⟩
  · have := q 0 (by decide)
    exact if_pos (Value.int.inj this)
  · exact absurd e (by decide)
theorem own_low (y : Int64) (h : ((y.toUInt64 >>> ((32 : Int32) &&& 0x3f).toInt64.toUInt64).toInt64).toInt32 = (0 : Int32)) (q : y.toInt32 = (1 : Int32)) : y = (1 : Int64) := by
  have a := c_lushr y 32 32 (by decide) (by decide)
  have b := c_l2i ((y.toUInt64 >>> ((32 : Int32) &&& 0x3f).toInt64.toUInt64).toInt64)
  have c := c_l2i y
  have r := rng64 y
  have e0 : (0 : Int32).toInt = 0 := by decide
  have e1 : (1 : Int32).toInt = 1 := by decide
  rw [h, e0, a] at b
  rw [q, e1] at c
  have e2 : (1 : Int64).toInt = 1 := by decide
  refine Int64.toInt_inj.mp ?_
  rw [e2]
  have p : ((2 ^ 32 : Nat) : Int) = 4294967296 := by decide
  rw [p] at b
  omega
theorem own_big_pos {x : Int64} (h : (16 : Int64) < x) : ¬ x = (1 : Int64) ∧ ¬ x = (-1 : Int64) ∧ (0 : Int64) < x ∧ ¬ x < (0 : Int64) := by
  refine ⟨fun q => ?_, fun q => ?_, ?_, ?_⟩
  · rw [q] at h; exact absurd h (by decide)
  · rw [q] at h; exact absurd h (by decide)
  all_goals
    have e1 : (16 : Int64).toInt = 16 := by decide
    have e0 : (0 : Int64).toInt = 0 := by decide
    rw [Int64.lt_iff_toInt_lt] at h ⊢
    omega
theorem own_big_neg {x : Int64} (h : x < (-16 : Int64)) : ¬ x = (1 : Int64) ∧ ¬ -x = (1 : Int64) ∧ ¬ x = (-1 : Int64) ∧ ¬ (0 : Int64) < x ∧ x < (0 : Int64) := by
  have e1 : (-16 : Int64).toInt = -16 := by decide
  have e0 : (0 : Int64).toInt = 0 := by decide
  have e2 : (1 : Int64).toInt = 1 := by decide
  have e3 : (-1 : Int64).toInt = -1 := by decide
  have c := c_lneg x
  have r := rng64 x
  rw [Int64.lt_iff_toInt_lt] at h
  refine ⟨fun q => ?_, fun q => ?_, fun q => ?_, ?_, ?_⟩
  · rw [q] at h; omega
  · rw [q, e2] at c; omega
  · rw [q] at h; omega
  all_goals
    rw [Int64.lt_iff_toInt_lt]
    omega
theorem own_neg {x : Int64} (h0 : ¬ x = (0 : Int64)) (h : ¬ (0 : Int64) < x) : x < (0 : Int64) := by
  have e0 : (0 : Int64).toInt = 0 := by decide
  rw [← Int64.toInt_inj] at h0
  rw [Int64.lt_iff_toInt_lt] at h ⊢
  omega
theorem own_small_pos {x : Int64} (h : (0 : Int64) < x) (g : ¬ (16 : Int64) < x) : (0 : Int32) < x.toInt32 ∧ ¬ (16 : Int32) < x.toInt32 ∧ (x.toInt32 = (1 : Int32) ↔ x = (1 : Int64)) ∧ ¬ x = (-1 : Int64) := by
  have c := c_l2i x
  have r := rng32 x.toInt32
  have e1 : (16 : Int64).toInt = 16 := by decide
  have e0 : (0 : Int64).toInt = 0 := by decide
  have f1 : (16 : Int32).toInt = 16 := by decide
  have f0 : (0 : Int32).toInt = 0 := by decide
  have e2 : (1 : Int64).toInt = 1 := by decide
  have e3 : (-1 : Int64).toInt = -1 := by decide
  have f2 : (1 : Int32).toInt = 1 := by decide
  rw [Int64.lt_iff_toInt_lt] at h g
  rw [Int32.lt_iff_toInt_lt, Int32.lt_iff_toInt_lt, ← Int32.toInt_inj, ← Int64.toInt_inj, ← Int64.toInt_inj]
  omega
theorem own_small_neg {x : Int64} (h : x < (0 : Int64)) (g : ¬ x < (-16 : Int64)) : (0 : Int32) < (-x).toInt32 ∧ ¬ (16 : Int32) < (-x).toInt32 ∧ ((-x).toInt32 = (1 : Int32) ↔ x = (-1 : Int64)) ∧ ¬ x = (1 : Int64) ∧ ¬ (0 : Int64) < x := by
  have c := c_l2i (-x)
  have n := c_lneg x
  have rx := rng64 x
  have r6 := rng64 (-x)
  have r := rng32 (-x).toInt32
  have e1 : (-16 : Int64).toInt = -16 := by decide
  have e0 : (0 : Int64).toInt = 0 := by decide
  have f1 : (16 : Int32).toInt = 16 := by decide
  have f0 : (0 : Int32).toInt = 0 := by decide
  have e2 : (1 : Int64).toInt = 1 := by decide
  have e3 : (-1 : Int64).toInt = -1 := by decide
  have f2 : (1 : Int32).toInt = 1 := by decide
  rw [Int64.lt_iff_toInt_lt] at h g
  rw [Int32.lt_iff_toInt_lt, Int32.lt_iff_toInt_lt, Int64.lt_iff_toInt_lt, ← Int32.toInt_inj, ← Int64.toInt_inj, ← Int64.toInt_inj]
  omega
theorem own_inb17 {j : Int32} (h1 : (0 : Int32) < j) (h2 : ¬ (16 : Int32) < j) : ¬ j < 0 ∧ j < (17 : Int32) := by
  have f0 : (0 : Int32).toInt = 0 := by decide
  have f1 : (16 : Int32).toInt = 16 := by decide
  have f2 : (17 : Int32).toInt = 17 := by decide
  rw [Int32.lt_iff_toInt_lt] at h1 h2
  rw [Int32.lt_iff_toInt_lt, Int32.lt_iff_toInt_lt]
  omega
theorem own_and01 {a b : Int32} (ha : a = (0 : Int32) ∨ a = (1 : Int32)) (hb : b = (0 : Int32) ∨ b = (1 : Int32)) : narrow .boolean (.int (a &&& b)) = .int (a &&& b) ∧ fits .boolean (.int (a &&& b)) = true ∧ ((a &&& b) = (0 : Int32) ∨ (a &&& b) = (1 : Int32)) := by
  rcases ha with rfl | rfl <;> rcases hb with rfl | rfl <;> decide
theorem own_cases16 (j : Int32) (h1 : (0 : Int32) < j) (h2 : ¬ (16 : Int32) < j) : j = (1 : Int32) ∨ j = (2 : Int32) ∨ j = (3 : Int32) ∨ j = (4 : Int32) ∨ j = (5 : Int32) ∨ j = (6 : Int32) ∨ j = (7 : Int32) ∨ j = (8 : Int32) ∨ j = (9 : Int32) ∨ j = (10 : Int32) ∨ j = (11 : Int32) ∨ j = (12 : Int32) ∨ j = (13 : Int32) ∨ j = (14 : Int32) ∨ j = (15 : Int32) ∨ j = (16 : Int32) := by
  have f0 : (0 : Int32).toInt = 0 := by decide
  have f1 : (16 : Int32).toInt = 16 := by decide
  rw [Int32.lt_iff_toInt_lt] at h1 h2
  have q : j.toInt = 1 ∨ j.toInt = 2 ∨ j.toInt = 3 ∨ j.toInt = 4 ∨ j.toInt = 5 ∨ j.toInt = 6 ∨ j.toInt = 7 ∨ j.toInt = 8 ∨ j.toInt = 9 ∨ j.toInt = 10 ∨ j.toInt = 11 ∨ j.toInt = 12 ∨ j.toInt = 13 ∨ j.toInt = 14 ∨ j.toInt = 15 ∨ j.toInt = 16 := by omega
  rcases q with q | q | q | q | q | q | q | q | q | q | q | q | q | q | q | q
  · exact Or.inl (Int32.toInt_inj.mp (q.trans (by decide)))
  · exact Or.inr (Or.inl (Int32.toInt_inj.mp (q.trans (by decide))))
  · exact Or.inr (Or.inr (Or.inl (Int32.toInt_inj.mp (q.trans (by decide)))))
  · exact Or.inr (Or.inr (Or.inr (Or.inl (Int32.toInt_inj.mp (q.trans (by decide))))))
  · exact Or.inr (Or.inr (Or.inr (Or.inr (Or.inl (Int32.toInt_inj.mp (q.trans (by decide)))))))
  · exact Or.inr (Or.inr (Or.inr (Or.inr (Or.inr (Or.inl (Int32.toInt_inj.mp (q.trans (by decide))))))))
  · exact Or.inr (Or.inr (Or.inr (Or.inr (Or.inr (Or.inr (Or.inl (Int32.toInt_inj.mp (q.trans (by decide)))))))))
  · exact Or.inr (Or.inr (Or.inr (Or.inr (Or.inr (Or.inr (Or.inr (Or.inl (Int32.toInt_inj.mp (q.trans (by decide))))))))))
  · exact Or.inr (Or.inr (Or.inr (Or.inr (Or.inr (Or.inr (Or.inr (Or.inr (Or.inl (Int32.toInt_inj.mp (q.trans (by decide)))))))))))
  · exact Or.inr (Or.inr (Or.inr (Or.inr (Or.inr (Or.inr (Or.inr (Or.inr (Or.inr (Or.inl (Int32.toInt_inj.mp (q.trans (by decide))))))))))))
  · exact Or.inr (Or.inr (Or.inr (Or.inr (Or.inr (Or.inr (Or.inr (Or.inr (Or.inr (Or.inr (Or.inl (Int32.toInt_inj.mp (q.trans (by decide)))))))))))))
  · exact Or.inr (Or.inr (Or.inr (Or.inr (Or.inr (Or.inr (Or.inr (Or.inr (Or.inr (Or.inr (Or.inr (Or.inl (Int32.toInt_inj.mp (q.trans (by decide))))))))))))))
  · exact Or.inr (Or.inr (Or.inr (Or.inr (Or.inr (Or.inr (Or.inr (Or.inr (Or.inr (Or.inr (Or.inr (Or.inr (Or.inl (Int32.toInt_inj.mp (q.trans (by decide)))))))))))))))
  · exact Or.inr (Or.inr (Or.inr (Or.inr (Or.inr (Or.inr (Or.inr (Or.inr (Or.inr (Or.inr (Or.inr (Or.inr (Or.inr (Or.inl (Int32.toInt_inj.mp (q.trans (by decide))))))))))))))))
  · exact Or.inr (Or.inr (Or.inr (Or.inr (Or.inr (Or.inr (Or.inr (Or.inr (Or.inr (Or.inr (Or.inr (Or.inr (Or.inr (Or.inr (Or.inl (Int32.toInt_inj.mp (q.trans (by decide)))))))))))))))))
  · exact Or.inr (Or.inr (Or.inr (Or.inr (Or.inr (Or.inr (Or.inr (Or.inr (Or.inr (Or.inr (Or.inr (Or.inr (Or.inr (Or.inr (Or.inr ((Int32.toInt_inj.mp (q.trans (by decide))))))))))))))))))
def Q_rm_Number (Z : State) (a : Addr) (h0 : Heap) (n0 : Nat) (v : Option Value) (h : Heap) (L : List Loc) : Prop := v = none ∧ Fr n0 L ∧ h = h0
set_option maxRecDepth 65536 in
set_option maxHeartbeats 40000000 in
theorem rm_Number (l : Launch) (Z : State) (a0 : Array Value) (hw : ∀ d ∈ tables_1, d.before a0 Z = true) (ws : List Jvm.Cond) (a : Addr) (h0 : Heap) (n0 : Nat)  :
    MetFree l (⟨"java/lang/Number", "<init>", "()V"⟩ : MethodName) (head1 (Jvm.Cond.code (⟨"java/lang/Number", "<init>", "()V"⟩ : MethodName) jdk_18_method_1_code 1 none :: ws) ({ frames := 1, cells := 0, slots := 0, locals := 12 } : Room)) (fun ar U => ar = #[(.ref a)] ∧ Z.Warmed39 U.vm ∧ U.heap = h0) (fun _ _ _ _ _ => True) (fun _ U o U' => ∃ v L, o = .returned v ∧ Q_rm_Number Z a h0 n0 v U'.heap L ∧ FrameEnd U o U' L ({ frames := 1, cells := 0, slots := 0, locals := 12 } : Room).cells ({ frames := 1, cells := 0, slots := 0, locals := 12 } : Room).slots) := by
  refine own_enter (Q := (Q_rm_Number Z a h0 n0)) pl_8 ?_
  intro p e s m below meth c s₁ X0 hx hZ hby hml hown hnm hret hlk e0
  have N0 := Fr.nil n0
  refine own_by (fun tz kz => castTop (g' := (mkF m 0 #[.val (.ref a)] [])) (by first | (simp [entryFrame, mkF, argsToLocals, Value.category]; done) | rfl) kz) ?_
  show own_Go p e below s _ _ (s₁.setTop (mkF m 0 #[.val (.ref a)] []))
  refine own_by (fun tz kz => XS.aloadN X0.here hx rfl (hb hby d8_0) rfl rfl kz) ?_
  show own_Go p e below s _ _ (s₁.setTop (mkF m 1 #[.val (.ref a)] [(.ref a)]))
  obtain ⟨T1, X1, e1, st1⟩ := initO X0 hx hZ hown (hw _ (List.mem_of_getElem? (i := 43) rfl)) (hw _ (List.mem_of_getElem? (i := 8) rfl)) (hw _ (List.mem_of_getElem? (i := 9) rfl)) e0 (g := (mkF m 1 #[.val (.ref a)] [(.ref a)])) rfl (by rw [hml]; rfl) rfl (hb hby d8_1) (by decide) (W := 0) (by show 2 * 0 + _ ≤ _; exact Nat.le_of_eq rfl) (by decide)
  refine own_by st1 ?_
  show own_Go p e below s _ _ (T1.setTop (mkF m 4 #[.val (.ref a)] []))
  refine own_retV X1 hx hlk hret (hb hby d8_4) ?_ (by decide) (by decide)
  exact ⟨rfl, N0, e1⟩
def Q_rm_Binit (Z : State) (a : Addr) (x : Int64) (h0 : Heap) (n0 : Nat) (v : Option Value) (h : Heap) (L : List Loc) : Prop := v = none ∧ Fr n0 L ∧ Keep h0 h [a] ∧ own_Big Z h a (own_sg x) (0 : Int32)
set_option maxRecDepth 65536 in
set_option maxHeartbeats 40000000 in
theorem rm_Binit (l : Launch) (Z : State) (a0 : Array Value) (hw : ∀ d ∈ tables_1, d.before a0 Z = true) (ws : List Jvm.Cond) (a : Addr) (x : Int64) (h0 : Heap) (n0 : Nat) (O0 : Old Z n0 h0) (E_a : Exa Z h0 a "java/math/BigInteger") (F_s : Fld Z h0 a "java/math/BigInteger" "signum" "I" (.int (0 : Int32))) (F_m : Fld Z h0 a "java/math/BigInteger" "mag" "[I" .null) (g_a : n0 ≤ a) (hbig : (16 : Int64) < x ∨ x < (-16 : Int64)) :
    MetFree l (⟨"java/math/BigInteger", "<init>", "(J)V"⟩ : MethodName) (head1 (Jvm.Cond.code (⟨"java/math/BigInteger", "<init>", "(J)V"⟩ : MethodName) jdk_2097_method_30_code 4 none :: ws) ({ frames := 2, cells := 1, slots := 2, locals := 26 } : Room)) (fun ar U => ar = #[(.ref a), (.long x)] ∧ Z.Warmed39 U.vm ∧ U.heap = h0) (fun _ _ _ _ _ => True) (fun _ U o U' => ∃ v L, o = .returned v ∧ Q_rm_Binit Z a x h0 n0 v U'.heap L ∧ FrameEnd U o U' L ({ frames := 2, cells := 1, slots := 2, locals := 26 } : Room).cells ({ frames := 2, cells := 1, slots := 2, locals := 26 } : Room).slots) := by
  refine own_enter (Q := (Q_rm_Binit Z a x h0 n0)) pl_7 ?_
  intro p e s m below meth c s₁ X0 hx hZ hby hml hown hnm hret hlk e0
  have N0 := Fr.nil n0
  refine own_by (fun tz kz => castTop (g' := (mkF m 0 #[.val (.ref a), .val (.long x), .second, .unset] [])) (by first | (simp [entryFrame, mkF, argsToLocals, Value.category]; done) | rfl) kz) ?_
  have K0 := Keep.refl h0 [a]
  show own_Go p e below s _ _ (s₁.setTop (mkF m 0 #[.val (.ref a), .val (.long x), .second, .unset] []))
  refine own_by (fun tz kz => XS.aloadN X0.here hx rfl (hb hby d7_0) rfl rfl kz) ?_
  show own_Go p e below s _ _ (s₁.setTop (mkF m 1 #[.val (.ref a), .val (.long x), .second, .unset] [(.ref a)]))
  obtain ⟨_, _, ⟨T1, L1, k1, n1⟩, -, X1, ⟨Lc1, hQ1, l1, y1, z1⟩, st1⟩ := X0.specialBack hx (y := (⟨"java/lang/Number", "<init>", "()V"⟩ : MethodName)) rfl hown (mvT hZ (hw _ (List.mem_of_getElem? (i := 37) rfl))) (mvT hZ (hw _ (List.mem_of_getElem? (i := 38) rfl))) (mvT hZ (hw _ (List.mem_of_getElem? (i := 42) rfl))) (by decide) (backOf (W := 0) (rm_Number l Z a0 hw [] a h0 n0) hZ (hw _ (List.mem_of_getElem? (i := 42) rfl)) (hw _ (List.mem_of_getElem? (i := 41) rfl)) (by decide) (by decide)) (g := (mkF m 1 #[.val (.ref a), .val (.long x), .second, .unset] [(.ref a)])) rfl (by rw [hml]; rfl) (Steps.refl _) (a := a) (argsL := []) (rest := []) (lenOf pd_0 rfl) rfl (by show 2 * 0 + _ ≤ _; exact Nat.le_of_eq rfl) (hb hby d7_1) (fun _ _ => ⟨rfl, e0, (by decide : 0 + 0 ≤ _), (by decide : 0 + 0 ≤ _)⟩)
  dsimp only [Pt.U, Pt.locs, Pt.cells, Pt.slots] at X1 l1 y1 z1 st1 hQ1
  rw [l1, y1, z1] at X1
  obtain ⟨rfl, Nq1, e1⟩ := hQ1
  have N1 := Fr.app N0 Nq1
  refine own_via st1 ?_
  show own_Go p e below s _ _ (T1.setTop (mkF m 4 #[.val (.ref a), .val (.long x), .second, .unset] []))
  refine own_by (fun tz kz => XS.lloadN X1.here hx rfl (hb hby d7_4) rfl kz) ?_
  show own_Go p e below s _ _ (T1.setTop (mkF m 5 #[.val (.ref a), .val (.long x), .second, .unset] [(.long x)]))
  refine own_by (fun tz kz => XS.lconst X1.here hx rfl (hb hby d7_5) kz) ?_
  show own_Go p e below s _ _ (T1.setTop (mkF m 6 #[.val (.ref a), .val (.long x), .second, .unset] [(.long (0 : Int64)), (.long x)]))
  refine own_by (fun tz kz => XS.lcmp X1.here hx rfl (hb hby d7_6) rfl kz) ?_
  show own_Go p e below s _ _ (T1.setTop (mkF m 7 #[.val (.ref a), .val (.long x), .second, .unset] [(.int (lcmpW x (0 : Int64)))]))
  by_cases hc7_2 : x < (0 : Int64)
  · refine own_by (fun tz kz => XS.ifNo X1.here hx rfl (hb hby d7_7) rfl ((if0 _ _).trans (tlt ((lw_lt x (0 : Int64)).mpr hc7_2)).2.1) kz) ?_
    show own_Go p e below s _ _ (T1.setTop (mkF m 10 #[.val (.ref a), .val (.long x), .second, .unset] []))
    refine own_by (fun tz kz => XS.lloadN X1.here hx rfl (hb hby d7_10) rfl kz) ?_
    show own_Go p e below s _ _ (T1.setTop (mkF m 11 #[.val (.ref a), .val (.long x), .second, .unset] [(.long x)]))
    refine own_by (fun tz kz => XS.lneg X1.here hx rfl (hb hby d7_11) rfl kz) ?_
    show own_Go p e below s _ _ (T1.setTop (mkF m 12 #[.val (.ref a), .val (.long x), .second, .unset] [(.long (-x))]))
    refine own_by (fun tz kz => XS.lstoreN X1.here hx rfl (hb hby d7_12) rfl (l' := #[.val (.ref a), .val (.long (-x)), .second, .unset]) rfl kz) ?_
    show own_Go p e below s _ _ (T1.setTop (mkF m 13 #[.val (.ref a), .val (.long (-x)), .second, .unset] []))
    refine own_by (fun tz kz => XS.aloadN X1.here hx rfl (hb hby d7_13) rfl rfl kz) ?_
    show own_Go p e below s _ _ (T1.setTop (mkF m 14 #[.val (.ref a), .val (.long (-x)), .second, .unset] [(.ref a)]))
    refine own_by (fun tz kz => XS.iconst X1.here hx rfl (hb hby d7_14) kz) ?_
    show own_Go p e below s _ _ (T1.setTop (mkF m 15 #[.val (.ref a), .val (.long (-x)), .second, .unset] [(.int (-1 : Int32)), (.ref a)]))
    obtain ⟨T3, h3, X3, e3, W3, st3⟩ := putF X1 hx hZ hown (host := "") (Or.inl (hw _ (List.mem_of_getElem? (i := 44) rfl))) Via.refl e1 F_s E_a (Or.inr ⟨(hw _ (List.mem_of_getElem? (i := 45) rfl)), rfl, hnm⟩) (hw _ (List.mem_of_getElem? (i := 32) rfl)) (ty := .int) (by decide) rfl rfl (g := (mkF m 15 #[.val (.ref a), .val (.long (-x)), .second, .unset] [(.int (-1 : Int32)), (.ref a)])) rfl rfl (hb hby d7_15)
    have Fw3 := F_s.same W3
    have O3 := O0.wr W3 g_a
    have N3 := Fr.snoc X3 N1 g_a
    have K3 := K0.wr W3 (Or.inl (List.mem_of_getElem? (i := 0) rfl))
    refine own_by st3 ?_
    show own_Go p e below s _ _ (T3.setTop (mkF m 18 #[.val (.ref a), .val (.long (-x)), .second, .unset] []))
    refine own_by (fun tz kz => XS.goto X3.here hx rfl (pc0 := 18) (pc' := 26) rfl (hb hby d7_18) (by decide) (by decide) kz) ?_
    show own_Go p e below s _ _ (T3.setTop (mkF m 26 #[.val (.ref a), .val (.long (-x)), .second, .unset] []))
    refine own_by (fun tz kz => XS.lloadN X3.here hx rfl (hb hby d7_26) rfl kz) ?_
    show own_Go p e below s _ _ (T3.setTop (mkF m 27 #[.val (.ref a), .val (.long (-x)), .second, .unset] [(.long (-x))]))
    refine own_by (fun tz kz => XS.bipush X3.here hx rfl (hb hby d7_27) kz) ?_
    show own_Go p e below s _ _ (T3.setTop (mkF m 29 #[.val (.ref a), .val (.long (-x)), .second, .unset] [(.int (32 : Int32)), (.long (-x))]))
    refine own_by (fun tz kz => XS.lushr X3.here hx rfl (hb hby d7_29) rfl kz) ?_
    show own_Go p e below s _ _ (T3.setTop (mkF m 30 #[.val (.ref a), .val (.long (-x)), .second, .unset] [(.long (((-x).toUInt64 >>> ((32 : Int32) &&& 0x3f).toInt64.toUInt64).toInt64))]))
    refine own_by (fun tz kz => XS.l2i X3.here hx rfl (hb hby d7_30) rfl kz) ?_
    show own_Go p e below s _ _ (T3.setTop (mkF m 31 #[.val (.ref a), .val (.long (-x)), .second, .unset] [(.int ((((-x).toUInt64 >>> ((32 : Int32) &&& 0x3f).toInt64.toUInt64).toInt64).toInt32))]))
    refine own_by (fun tz kz => XS.istoreN X3.here hx rfl (hb hby d7_31) rfl (l' := #[.val (.ref a), .val (.long (-x)), .second, .val (.int ((((-x).toUInt64 >>> ((32 : Int32) &&& 0x3f).toInt64.toUInt64).toInt64).toInt32))]) rfl kz) ?_
    show own_Go p e below s _ _ (T3.setTop (mkF m 32 #[.val (.ref a), .val (.long (-x)), .second, .val (.int ((((-x).toUInt64 >>> ((32 : Int32) &&& 0x3f).toInt64.toUInt64).toInt64).toInt32))] []))
    refine own_by (fun tz kz => XS.iloadN X3.here hx rfl (hb hby d7_32) rfl  kz) ?_
    show own_Go p e below s _ _ (T3.setTop (mkF m 33 #[.val (.ref a), .val (.long (-x)), .second, .val (.int ((((-x).toUInt64 >>> ((32 : Int32) &&& 0x3f).toInt64.toUInt64).toInt64).toInt32))] [(.int ((((-x).toUInt64 >>> ((32 : Int32) &&& 0x3f).toInt64.toUInt64).toInt64).toInt32))]))
    by_cases hc33_4 : ((((-x).toUInt64 >>> ((32 : Int32) &&& 0x3f).toInt64.toUInt64).toInt64).toInt32) = (0 : Int32)
    · refine own_by (fun tz kz => XS.ifNo X3.here hx rfl (hb hby d7_33) rfl ((if0 _ _).trans (teq hc33_4).2) kz) ?_
      show own_Go p e below s _ _ (T3.setTop (mkF m 36 #[.val (.ref a), .val (.long (-x)), .second, .val (.int ((((-x).toUInt64 >>> ((32 : Int32) &&& 0x3f).toInt64.toUInt64).toInt64).toInt32))] []))
      refine own_by (fun tz kz => XS.aloadN X3.here hx rfl (hb hby d7_36) rfl rfl kz) ?_
      show own_Go p e below s _ _ (T3.setTop (mkF m 37 #[.val (.ref a), .val (.long (-x)), .second, .val (.int ((((-x).toUInt64 >>> ((32 : Int32) &&& 0x3f).toInt64.toUInt64).toInt64).toInt32))] [(.ref a)]))
      refine own_by (fun tz kz => XS.iconst X3.here hx rfl (hb hby d7_37) kz) ?_
      show own_Go p e below s _ _ (T3.setTop (mkF m 38 #[.val (.ref a), .val (.long (-x)), .second, .val (.int ((((-x).toUInt64 >>> ((32 : Int32) &&& 0x3f).toInt64.toUInt64).toInt64).toInt32))] [(.int (1 : Int32)), (.ref a)]))
      obtain ⟨T5, h5, k5, X5, e5, E5, A5, st5⟩ := newP X3 hx hZ (hw _ (List.mem_of_getElem? (i := 46) rfl)) e3 (g := (mkF m 38 #[.val (.ref a), .val (.long (-x)), .second, .val (.int ((((-x).toUInt64 >>> ((32 : Int32) &&& 0x3f).toInt64.toUInt64).toInt64).toInt32))] [(.int (1 : Int32)), (.ref a)])) rfl (hb hby d7_38) rfl (by decide) (cap := 1) (by decide) (by decide) (by decide) (by decide)
      obtain ⟨b5, g5⟩ : ∃ z, z = h3.size := ⟨_, rfl⟩
      have f6 := (E_a.wr W3)
      have ne_a_b5 : a ≠ b5 := by rw [g5]; exact Nat.ne_of_lt f6.lt
      rw [← g5] at A5 st5
      have g_b5 : n0 ≤ b5 := by rw [g5]; exact O3.1 ▸ O3.2.1
      have sz_b5 : h0.size ≤ b5 := by rw [g5]; exact K3.1
      have O5 := O3.ext E5
      have K5 := K3.ext E5
      refine own_by st5 ?_
      have V5 : Arv Z h5 b5 k5 .int (1 : Int32) [(.int (0 : Int32))] (.int (0 : Int32)) := (Arv.new A5 (by decide)).pad (pad_rep [] (.int (0 : Int32)) 1)
      show own_Go p e below s _ _ (T5.setTop (mkF m 40 #[.val (.ref a), .val (.long (-x)), .second, .val (.int ((((-x).toUInt64 >>> ((32 : Int32) &&& 0x3f).toInt64.toUInt64).toInt64).toInt32))] [(.ref b5), (.ref a)]))
      have f7 := ((F_m.other W3 (Or.inr (slot_ne (Or.inr (hw _ (List.mem_of_getElem? (i := 48) rfl))) (Or.inr (hw _ (List.mem_of_getElem? (i := 45) rfl))) (by decide) (t := (.array .int)) (t' := .int) (by decide) (by decide)))).ext E5)
      have f8 := (f6.ext E5)
      obtain ⟨T9, h9, X9, e9, W9, st9⟩ := putF X5 hx hZ hown (host := "") (Or.inl (hw _ (List.mem_of_getElem? (i := 47) rfl))) Via.refl e5 f7 f8 (Or.inr ⟨(hw _ (List.mem_of_getElem? (i := 48) rfl)), rfl, hnm⟩) (hw _ (List.mem_of_getElem? (i := 32) rfl)) (ty := (.array .int)) (by decide) rfl rfl (g := (mkF m 40 #[.val (.ref a), .val (.long (-x)), .second, .val (.int ((((-x).toUInt64 >>> ((32 : Int32) &&& 0x3f).toInt64.toUInt64).toInt64).toInt32))] [(.ref b5), (.ref a)])) rfl rfl (hb hby d7_40)
      have Fw9 := f7.same W9
      have O9 := O5.wr W9 g_a
      have N9 := Fr.snoc X9 N3 g_a
      have K9 := K5.wr W9 (Or.inl (List.mem_of_getElem? (i := 0) rfl))
      refine own_by st9 ?_
      show own_Go p e below s _ _ (T9.setTop (mkF m 43 #[.val (.ref a), .val (.long (-x)), .second, .val (.int ((((-x).toUInt64 >>> ((32 : Int32) &&& 0x3f).toInt64.toUInt64).toInt64).toInt32))] []))
      refine own_by (fun tz kz => XS.aloadN X9.here hx rfl (hb hby d7_43) rfl rfl kz) ?_
      show own_Go p e below s _ _ (T9.setTop (mkF m 44 #[.val (.ref a), .val (.long (-x)), .second, .val (.int ((((-x).toUInt64 >>> ((32 : Int32) &&& 0x3f).toInt64.toUInt64).toInt64).toInt32))] [(.ref a)]))
      obtain ⟨T10, X10, e10, st10⟩ := getF X9 hx hZ hown (host := "") (Or.inl (hw _ (List.mem_of_getElem? (i := 47) rfl))) Via.refl e9 Fw9 (g := (mkF m 44 #[.val (.ref a), .val (.long (-x)), .second, .val (.int ((((-x).toUInt64 >>> ((32 : Int32) &&& 0x3f).toInt64.toUInt64).toInt64).toInt32))] [(.ref a)])) rfl rfl (hb hby d7_44)
      refine own_by st10 ?_
      show own_Go p e below s _ _ (T10.setTop (mkF m 47 #[.val (.ref a), .val (.long (-x)), .second, .val (.int ((((-x).toUInt64 >>> ((32 : Int32) &&& 0x3f).toInt64.toUInt64).toInt64).toInt32))] [(.ref b5)]))
      refine own_by (fun tz kz => XS.iconst X10.here hx rfl (hb hby d7_47) kz) ?_
      show own_Go p e below s _ _ (T10.setTop (mkF m 48 #[.val (.ref a), .val (.long (-x)), .second, .val (.int ((((-x).toUInt64 >>> ((32 : Int32) &&& 0x3f).toInt64.toUInt64).toInt64).toInt32))] [(.int (0 : Int32)), (.ref b5)]))
      refine own_by (fun tz kz => XS.lloadN X10.here hx rfl (hb hby d7_48) rfl kz) ?_
      show own_Go p e below s _ _ (T10.setTop (mkF m 49 #[.val (.ref a), .val (.long (-x)), .second, .val (.int ((((-x).toUInt64 >>> ((32 : Int32) &&& 0x3f).toInt64.toUInt64).toInt64).toInt32))] [(.long (-x)), (.int (0 : Int32)), (.ref b5)]))
      refine own_by (fun tz kz => XS.l2i X10.here hx rfl (hb hby d7_49) rfl kz) ?_
      show own_Go p e below s _ _ (T10.setTop (mkF m 50 #[.val (.ref a), .val (.long (-x)), .second, .val (.int ((((-x).toUInt64 >>> ((32 : Int32) &&& 0x3f).toInt64.toUInt64).toInt64).toInt32))] [(.int ((-x).toInt32)), (.int (0 : Int32)), (.ref b5)]))
      have f12 := (V5.other W9 (Ne.symm ne_a_b5))
      obtain ⟨c11, Ar11, q11, S11, M11, Hh11, G11⟩ := id f12
      have hin11 : ¬ ((0 : Int32) < 0 ∨ c11.slots.size ≤ ((0 : Int32)).toNatClampNeg) := inb_of S11 ⟨by decide, by decide⟩
      obtain ⟨T11, h11, X11, e11, W11, st11⟩ := stI X10 hx hZ e10 Ar11 (j := (0 : Int32)) hin11 (g := (mkF m 50 #[.val (.ref a), .val (.long (-x)), .second, .val (.int ((((-x).toUInt64 >>> ((32 : Int32) &&& 0x3f).toInt64.toUInt64).toInt64).toInt32))] [(.int ((-x).toInt32)), (.int (0 : Int32)), (.ref b5)])) rfl rfl (hb hby d7_50)
      have V11 : Arv Z h11 b5 k5 .int (1 : Int32) [(.int ((-x).toInt32))] (.int (0 : Int32)) := Arv.set Ar11 q11 S11 M11 Hh11 G11 rfl W11 0 (by decide) (Nat.le_of_ble_eq_true rfl)
      have O11 := O9.wr W11 g_b5
      have N11 := Fr.snoc X11 N9 g_b5
      have K11 := K9.wr W11 (Or.inr sz_b5)
      refine own_by st11 ?_
      show own_Go p e below s _ _ (T11.setTop (mkF m 51 #[.val (.ref a), .val (.long (-x)), .second, .val (.int ((((-x).toUInt64 >>> ((32 : Int32) &&& 0x3f).toInt64.toUInt64).toInt64).toInt32))] []))
      refine own_by (fun tz kz => XS.goto X11.here hx rfl (pc0 := 51) (pc' := 76) rfl (hb hby d7_51) (by decide) (by decide) kz) ?_
      show own_Go p e below s _ _ (T11.setTop (mkF m 76 #[.val (.ref a), .val (.long (-x)), .second, .val (.int ((((-x).toUInt64 >>> ((32 : Int32) &&& 0x3f).toInt64.toUInt64).toInt64).toInt32))] []))
      have f13 := ((f8.wr W9).wr W11)
      have f14 := (((Fw3.ext E5).other W9 (Or.inr (slot_ne (Or.inr (hw _ (List.mem_of_getElem? (i := 45) rfl))) (Or.inr (hw _ (List.mem_of_getElem? (i := 48) rfl))) (by decide) (t := .int) (t' := (.array .int)) (by decide) (by decide)))).other W11 (Or.inl ne_a_b5))
      have f15 := (Fw9.other W11 (Or.inl ne_a_b5))
      have hs : own_sg x = (-1 : Int32) := if_neg (hbig.elim (fun g => absurd hc7_2 (own_big_pos g).2.2.2) (fun g => (own_big_neg g).2.2.2.1))
      refine own_retV X11 hx hlk hret (hb hby d7_76) ?_ (by decide) (by decide)
      exact ⟨rfl, N11, by rw [e11]; exact K11, by rw [hs, e11]; exact ⟨b5, _, _, _, f13, f14, f15, V11, Or.inl ⟨rfl, _, rfl, (if_neg (fun q => (hbig.elim (fun g => absurd hc7_2 (own_big_pos g).2.2.2) (fun g => (own_big_neg g).2.1)) (own_low _ hc33_4 q))).symm⟩⟩⟩
    · refine own_by (fun tz kz => XS.ifYes X3.here hx rfl (pc0 := 33) (pc' := 54) rfl (hb hby d7_33) rfl ((if0 _ _).trans (feq hc33_4).2) (by decide) (by decide) kz) ?_
      show own_Go p e below s _ _ (T3.setTop (mkF m 54 #[.val (.ref a), .val (.long (-x)), .second, .val (.int ((((-x).toUInt64 >>> ((32 : Int32) &&& 0x3f).toInt64.toUInt64).toInt64).toInt32))] []))
      refine own_by (fun tz kz => XS.aloadN X3.here hx rfl (hb hby d7_54) rfl rfl kz) ?_
      show own_Go p e below s _ _ (T3.setTop (mkF m 55 #[.val (.ref a), .val (.long (-x)), .second, .val (.int ((((-x).toUInt64 >>> ((32 : Int32) &&& 0x3f).toInt64.toUInt64).toInt64).toInt32))] [(.ref a)]))
      refine own_by (fun tz kz => XS.iconst X3.here hx rfl (hb hby d7_55) kz) ?_
      show own_Go p e below s _ _ (T3.setTop (mkF m 56 #[.val (.ref a), .val (.long (-x)), .second, .val (.int ((((-x).toUInt64 >>> ((32 : Int32) &&& 0x3f).toInt64.toUInt64).toInt64).toInt32))] [(.int (2 : Int32)), (.ref a)]))
      obtain ⟨T16, h16, k16, X16, e16, E16, A16, st16⟩ := newP X3 hx hZ (hw _ (List.mem_of_getElem? (i := 46) rfl)) e3 (g := (mkF m 56 #[.val (.ref a), .val (.long (-x)), .second, .val (.int ((((-x).toUInt64 >>> ((32 : Int32) &&& 0x3f).toInt64.toUInt64).toInt64).toInt32))] [(.int (2 : Int32)), (.ref a)])) rfl (hb hby d7_56) rfl (by decide) (cap := 2) (by decide) (by decide) (by decide) (by decide)
      obtain ⟨b16, g16⟩ : ∃ z, z = h3.size := ⟨_, rfl⟩
      have f17 := (E_a.wr W3)
      have ne_a_b16 : a ≠ b16 := by rw [g16]; exact Nat.ne_of_lt f17.lt
      rw [← g16] at A16 st16
      have g_b16 : n0 ≤ b16 := by rw [g16]; exact O3.1 ▸ O3.2.1
      have sz_b16 : h0.size ≤ b16 := by rw [g16]; exact K3.1
      have O16 := O3.ext E16
      have K16 := K3.ext E16
      refine own_by st16 ?_
      have V16 : Arv Z h16 b16 k16 .int (2 : Int32) [(.int (0 : Int32)), (.int (0 : Int32))] (.int (0 : Int32)) := (Arv.new A16 (by decide)).pad (pad_rep [] (.int (0 : Int32)) 2)
      show own_Go p e below s _ _ (T16.setTop (mkF m 58 #[.val (.ref a), .val (.long (-x)), .second, .val (.int ((((-x).toUInt64 >>> ((32 : Int32) &&& 0x3f).toInt64.toUInt64).toInt64).toInt32))] [(.ref b16), (.ref a)]))
      have f18 := ((F_m.other W3 (Or.inr (slot_ne (Or.inr (hw _ (List.mem_of_getElem? (i := 48) rfl))) (Or.inr (hw _ (List.mem_of_getElem? (i := 45) rfl))) (by decide) (t := (.array .int)) (t' := .int) (by decide) (by decide)))).ext E16)
      have f19 := (f17.ext E16)
      obtain ⟨T20, h20, X20, e20, W20, st20⟩ := putF X16 hx hZ hown (host := "") (Or.inl (hw _ (List.mem_of_getElem? (i := 47) rfl))) Via.refl e16 f18 f19 (Or.inr ⟨(hw _ (List.mem_of_getElem? (i := 48) rfl)), rfl, hnm⟩) (hw _ (List.mem_of_getElem? (i := 32) rfl)) (ty := (.array .int)) (by decide) rfl rfl (g := (mkF m 58 #[.val (.ref a), .val (.long (-x)), .second, .val (.int ((((-x).toUInt64 >>> ((32 : Int32) &&& 0x3f).toInt64.toUInt64).toInt64).toInt32))] [(.ref b16), (.ref a)])) rfl rfl (hb hby d7_58)
      have Fw20 := f18.same W20
      have O20 := O16.wr W20 g_a
      have N20 := Fr.snoc X20 N3 g_a
      have K20 := K16.wr W20 (Or.inl (List.mem_of_getElem? (i := 0) rfl))
      refine own_by st20 ?_
      show own_Go p e below s _ _ (T20.setTop (mkF m 61 #[.val (.ref a), .val (.long (-x)), .second, .val (.int ((((-x).toUInt64 >>> ((32 : Int32) &&& 0x3f).toInt64.toUInt64).toInt64).toInt32))] []))
      refine own_by (fun tz kz => XS.aloadN X20.here hx rfl (hb hby d7_61) rfl rfl kz) ?_
      show own_Go p e below s _ _ (T20.setTop (mkF m 62 #[.val (.ref a), .val (.long (-x)), .second, .val (.int ((((-x).toUInt64 >>> ((32 : Int32) &&& 0x3f).toInt64.toUInt64).toInt64).toInt32))] [(.ref a)]))
      obtain ⟨T21, X21, e21, st21⟩ := getF X20 hx hZ hown (host := "") (Or.inl (hw _ (List.mem_of_getElem? (i := 47) rfl))) Via.refl e20 Fw20 (g := (mkF m 62 #[.val (.ref a), .val (.long (-x)), .second, .val (.int ((((-x).toUInt64 >>> ((32 : Int32) &&& 0x3f).toInt64.toUInt64).toInt64).toInt32))] [(.ref a)])) rfl rfl (hb hby d7_62)
      refine own_by st21 ?_
      show own_Go p e below s _ _ (T21.setTop (mkF m 65 #[.val (.ref a), .val (.long (-x)), .second, .val (.int ((((-x).toUInt64 >>> ((32 : Int32) &&& 0x3f).toInt64.toUInt64).toInt64).toInt32))] [(.ref b16)]))
      refine own_by (fun tz kz => XS.iconst X21.here hx rfl (hb hby d7_65) kz) ?_
      show own_Go p e below s _ _ (T21.setTop (mkF m 66 #[.val (.ref a), .val (.long (-x)), .second, .val (.int ((((-x).toUInt64 >>> ((32 : Int32) &&& 0x3f).toInt64.toUInt64).toInt64).toInt32))] [(.int (0 : Int32)), (.ref b16)]))
      refine own_by (fun tz kz => XS.iloadN X21.here hx rfl (hb hby d7_66) rfl  kz) ?_
      show own_Go p e below s _ _ (T21.setTop (mkF m 67 #[.val (.ref a), .val (.long (-x)), .second, .val (.int ((((-x).toUInt64 >>> ((32 : Int32) &&& 0x3f).toInt64.toUInt64).toInt64).toInt32))] [(.int ((((-x).toUInt64 >>> ((32 : Int32) &&& 0x3f).toInt64.toUInt64).toInt64).toInt32)), (.int (0 : Int32)), (.ref b16)]))
      have f23 := (V16.other W20 (Ne.symm ne_a_b16))
      obtain ⟨c22, Ar22, q22, S22, M22, Hh22, G22⟩ := id f23
      have hin22 : ¬ ((0 : Int32) < 0 ∨ c22.slots.size ≤ ((0 : Int32)).toNatClampNeg) := inb_of S22 ⟨by decide, by decide⟩
      obtain ⟨T22, h22, X22, e22, W22, st22⟩ := stI X21 hx hZ e21 Ar22 (j := (0 : Int32)) hin22 (g := (mkF m 67 #[.val (.ref a), .val (.long (-x)), .second, .val (.int ((((-x).toUInt64 >>> ((32 : Int32) &&& 0x3f).toInt64.toUInt64).toInt64).toInt32))] [(.int ((((-x).toUInt64 >>> ((32 : Int32) &&& 0x3f).toInt64.toUInt64).toInt64).toInt32)), (.int (0 : Int32)), (.ref b16)])) rfl rfl (hb hby d7_67)
      have V22 : Arv Z h22 b16 k16 .int (2 : Int32) [(.int ((((-x).toUInt64 >>> ((32 : Int32) &&& 0x3f).toInt64.toUInt64).toInt64).toInt32)), (.int (0 : Int32))] (.int (0 : Int32)) := Arv.set Ar22 q22 S22 M22 Hh22 G22 rfl W22 0 (by decide) (Nat.le_of_ble_eq_true rfl)
      have O22 := O20.wr W22 g_b16
      have N22 := Fr.snoc X22 N20 g_b16
      have K22 := K20.wr W22 (Or.inr sz_b16)
      refine own_by st22 ?_
      show own_Go p e below s _ _ (T22.setTop (mkF m 68 #[.val (.ref a), .val (.long (-x)), .second, .val (.int ((((-x).toUInt64 >>> ((32 : Int32) &&& 0x3f).toInt64.toUInt64).toInt64).toInt32))] []))
      refine own_by (fun tz kz => XS.aloadN X22.here hx rfl (hb hby d7_68) rfl rfl kz) ?_
      show own_Go p e below s _ _ (T22.setTop (mkF m 69 #[.val (.ref a), .val (.long (-x)), .second, .val (.int ((((-x).toUInt64 >>> ((32 : Int32) &&& 0x3f).toInt64.toUInt64).toInt64).toInt32))] [(.ref a)]))
      have f24 := (Fw20.other W22 (Or.inl ne_a_b16))
      obtain ⟨T25, X25, e25, st25⟩ := getF X22 hx hZ hown (host := "") (Or.inl (hw _ (List.mem_of_getElem? (i := 47) rfl))) Via.refl e22 f24 (g := (mkF m 69 #[.val (.ref a), .val (.long (-x)), .second, .val (.int ((((-x).toUInt64 >>> ((32 : Int32) &&& 0x3f).toInt64.toUInt64).toInt64).toInt32))] [(.ref a)])) rfl rfl (hb hby d7_69)
      refine own_by st25 ?_
      show own_Go p e below s _ _ (T25.setTop (mkF m 72 #[.val (.ref a), .val (.long (-x)), .second, .val (.int ((((-x).toUInt64 >>> ((32 : Int32) &&& 0x3f).toInt64.toUInt64).toInt64).toInt32))] [(.ref b16)]))
      refine own_by (fun tz kz => XS.iconst X25.here hx rfl (hb hby d7_72) kz) ?_
      show own_Go p e below s _ _ (T25.setTop (mkF m 73 #[.val (.ref a), .val (.long (-x)), .second, .val (.int ((((-x).toUInt64 >>> ((32 : Int32) &&& 0x3f).toInt64.toUInt64).toInt64).toInt32))] [(.int (1 : Int32)), (.ref b16)]))
      refine own_by (fun tz kz => XS.lloadN X25.here hx rfl (hb hby d7_73) rfl kz) ?_
      show own_Go p e below s _ _ (T25.setTop (mkF m 74 #[.val (.ref a), .val (.long (-x)), .second, .val (.int ((((-x).toUInt64 >>> ((32 : Int32) &&& 0x3f).toInt64.toUInt64).toInt64).toInt32))] [(.long (-x)), (.int (1 : Int32)), (.ref b16)]))
      refine own_by (fun tz kz => XS.l2i X25.here hx rfl (hb hby d7_74) rfl kz) ?_
      show own_Go p e below s _ _ (T25.setTop (mkF m 75 #[.val (.ref a), .val (.long (-x)), .second, .val (.int ((((-x).toUInt64 >>> ((32 : Int32) &&& 0x3f).toInt64.toUInt64).toInt64).toInt32))] [(.int ((-x).toInt32)), (.int (1 : Int32)), (.ref b16)]))
      obtain ⟨c26, Ar26, q26, S26, M26, Hh26, G26⟩ := id V22
      have hin26 : ¬ ((1 : Int32) < 0 ∨ c26.slots.size ≤ ((1 : Int32)).toNatClampNeg) := inb_of S26 ⟨by decide, by decide⟩
      obtain ⟨T26, h26, X26, e26, W26, st26⟩ := stI X25 hx hZ e25 Ar26 (j := (1 : Int32)) hin26 (g := (mkF m 75 #[.val (.ref a), .val (.long (-x)), .second, .val (.int ((((-x).toUInt64 >>> ((32 : Int32) &&& 0x3f).toInt64.toUInt64).toInt64).toInt32))] [(.int ((-x).toInt32)), (.int (1 : Int32)), (.ref b16)])) rfl rfl (hb hby d7_75)
      have V26 : Arv Z h26 b16 k16 .int (2 : Int32) [(.int ((((-x).toUInt64 >>> ((32 : Int32) &&& 0x3f).toInt64.toUInt64).toInt64).toInt32)), (.int ((-x).toInt32))] (.int (0 : Int32)) := Arv.set Ar26 q26 S26 M26 Hh26 G26 rfl W26 1 (by decide) (Nat.le_of_ble_eq_true rfl)
      have O26 := O22.wr W26 g_b16
      have N26 := Fr.snoc X26 N22 g_b16
      have K26 := K22.wr W26 (Or.inr sz_b16)
      refine own_by st26 ?_
      show own_Go p e below s _ _ (T26.setTop (mkF m 76 #[.val (.ref a), .val (.long (-x)), .second, .val (.int ((((-x).toUInt64 >>> ((32 : Int32) &&& 0x3f).toInt64.toUInt64).toInt64).toInt32))] []))
      have f27 := (((f19.wr W20).wr W22).wr W26)
      have f28 := ((((Fw3.ext E16).other W20 (Or.inr (slot_ne (Or.inr (hw _ (List.mem_of_getElem? (i := 45) rfl))) (Or.inr (hw _ (List.mem_of_getElem? (i := 48) rfl))) (by decide) (t := .int) (t' := (.array .int)) (by decide) (by decide)))).other W22 (Or.inl ne_a_b16)).other W26 (Or.inl ne_a_b16))
      have f29 := (f24.other W26 (Or.inl ne_a_b16))
      have hs : own_sg x = (-1 : Int32) := if_neg (hbig.elim (fun g => absurd hc7_2 (own_big_pos g).2.2.2) (fun g => (own_big_neg g).2.2.2.1))
      refine own_retV X26 hx hlk hret (hb hby d7_76) ?_ (by decide) (by decide)
      exact ⟨rfl, N26, by rw [e26]; exact K26, by rw [hs, e26]; exact ⟨b16, _, _, _, f27, f28, f29, V26, Or.inr ⟨rfl, _, _, rfl, rfl⟩⟩⟩
  · refine own_by (fun tz kz => XS.ifYes X1.here hx rfl (pc0 := 7) (pc' := 21) rfl (hb hby d7_7) rfl ((if0 _ _).trans (flt (fun q => hc7_2 ((lw_lt x (0 : Int64)).mp q))).2.1) (by decide) (by decide) kz) ?_
    show own_Go p e below s _ _ (T1.setTop (mkF m 21 #[.val (.ref a), .val (.long x), .second, .unset] []))
    refine own_by (fun tz kz => XS.aloadN X1.here hx rfl (hb hby d7_21) rfl rfl kz) ?_
    show own_Go p e below s _ _ (T1.setTop (mkF m 22 #[.val (.ref a), .val (.long x), .second, .unset] [(.ref a)]))
    refine own_by (fun tz kz => XS.iconst X1.here hx rfl (hb hby d7_22) kz) ?_
    show own_Go p e below s _ _ (T1.setTop (mkF m 23 #[.val (.ref a), .val (.long x), .second, .unset] [(.int (1 : Int32)), (.ref a)]))
    obtain ⟨T30, h30, X30, e30, W30, st30⟩ := putF X1 hx hZ hown (host := "") (Or.inl (hw _ (List.mem_of_getElem? (i := 44) rfl))) Via.refl e1 F_s E_a (Or.inr ⟨(hw _ (List.mem_of_getElem? (i := 45) rfl)), rfl, hnm⟩) (hw _ (List.mem_of_getElem? (i := 32) rfl)) (ty := .int) (by decide) rfl rfl (g := (mkF m 23 #[.val (.ref a), .val (.long x), .second, .unset] [(.int (1 : Int32)), (.ref a)])) rfl rfl (hb hby d7_23)
    have Fw30 := F_s.same W30
    have O30 := O0.wr W30 g_a
    have N30 := Fr.snoc X30 N1 g_a
    have K30 := K0.wr W30 (Or.inl (List.mem_of_getElem? (i := 0) rfl))
    refine own_by st30 ?_
    show own_Go p e below s _ _ (T30.setTop (mkF m 26 #[.val (.ref a), .val (.long x), .second, .unset] []))
    refine own_by (fun tz kz => XS.lloadN X30.here hx rfl (hb hby d7_26) rfl kz) ?_
    show own_Go p e below s _ _ (T30.setTop (mkF m 27 #[.val (.ref a), .val (.long x), .second, .unset] [(.long x)]))
    refine own_by (fun tz kz => XS.bipush X30.here hx rfl (hb hby d7_27) kz) ?_
    show own_Go p e below s _ _ (T30.setTop (mkF m 29 #[.val (.ref a), .val (.long x), .second, .unset] [(.int (32 : Int32)), (.long x)]))
    refine own_by (fun tz kz => XS.lushr X30.here hx rfl (hb hby d7_29) rfl kz) ?_
    show own_Go p e below s _ _ (T30.setTop (mkF m 30 #[.val (.ref a), .val (.long x), .second, .unset] [(.long ((x.toUInt64 >>> ((32 : Int32) &&& 0x3f).toInt64.toUInt64).toInt64))]))
    refine own_by (fun tz kz => XS.l2i X30.here hx rfl (hb hby d7_30) rfl kz) ?_
    show own_Go p e below s _ _ (T30.setTop (mkF m 31 #[.val (.ref a), .val (.long x), .second, .unset] [(.int (((x.toUInt64 >>> ((32 : Int32) &&& 0x3f).toInt64.toUInt64).toInt64).toInt32))]))
    refine own_by (fun tz kz => XS.istoreN X30.here hx rfl (hb hby d7_31) rfl (l' := #[.val (.ref a), .val (.long x), .second, .val (.int (((x.toUInt64 >>> ((32 : Int32) &&& 0x3f).toInt64.toUInt64).toInt64).toInt32))]) rfl kz) ?_
    show own_Go p e below s _ _ (T30.setTop (mkF m 32 #[.val (.ref a), .val (.long x), .second, .val (.int (((x.toUInt64 >>> ((32 : Int32) &&& 0x3f).toInt64.toUInt64).toInt64).toInt32))] []))
    refine own_by (fun tz kz => XS.iloadN X30.here hx rfl (hb hby d7_32) rfl  kz) ?_
    show own_Go p e below s _ _ (T30.setTop (mkF m 33 #[.val (.ref a), .val (.long x), .second, .val (.int (((x.toUInt64 >>> ((32 : Int32) &&& 0x3f).toInt64.toUInt64).toInt64).toInt32))] [(.int (((x.toUInt64 >>> ((32 : Int32) &&& 0x3f).toInt64.toUInt64).toInt64).toInt32))]))
    by_cases hc33_31 : (((x.toUInt64 >>> ((32 : Int32) &&& 0x3f).toInt64.toUInt64).toInt64).toInt32) = (0 : Int32)
    · refine own_by (fun tz kz => XS.ifNo X30.here hx rfl (hb hby d7_33) rfl ((if0 _ _).trans (teq hc33_31).2) kz) ?_
      show own_Go p e below s _ _ (T30.setTop (mkF m 36 #[.val (.ref a), .val (.long x), .second, .val (.int (((x.toUInt64 >>> ((32 : Int32) &&& 0x3f).toInt64.toUInt64).toInt64).toInt32))] []))
      refine own_by (fun tz kz => XS.aloadN X30.here hx rfl (hb hby d7_36) rfl rfl kz) ?_
      show own_Go p e below s _ _ (T30.setTop (mkF m 37 #[.val (.ref a), .val (.long x), .second, .val (.int (((x.toUInt64 >>> ((32 : Int32) &&& 0x3f).toInt64.toUInt64).toInt64).toInt32))] [(.ref a)]))
      refine own_by (fun tz kz => XS.iconst X30.here hx rfl (hb hby d7_37) kz) ?_
      show own_Go p e below s _ _ (T30.setTop (mkF m 38 #[.val (.ref a), .val (.long x), .second, .val (.int (((x.toUInt64 >>> ((32 : Int32) &&& 0x3f).toInt64.toUInt64).toInt64).toInt32))] [(.int (1 : Int32)), (.ref a)]))
      obtain ⟨T32, h32, k32, X32, e32, E32, A32, st32⟩ := newP X30 hx hZ (hw _ (List.mem_of_getElem? (i := 46) rfl)) e30 (g := (mkF m 38 #[.val (.ref a), .val (.long x), .second, .val (.int (((x.toUInt64 >>> ((32 : Int32) &&& 0x3f).toInt64.toUInt64).toInt64).toInt32))] [(.int (1 : Int32)), (.ref a)])) rfl (hb hby d7_38) rfl (by decide) (cap := 1) (by decide) (by decide) (by decide) (by decide)
      obtain ⟨b32, g32⟩ : ∃ z, z = h30.size := ⟨_, rfl⟩
      have f33 := (E_a.wr W30)
      have ne_a_b32 : a ≠ b32 := by rw [g32]; exact Nat.ne_of_lt f33.lt
      rw [← g32] at A32 st32
      have g_b32 : n0 ≤ b32 := by rw [g32]; exact O30.1 ▸ O30.2.1
      have sz_b32 : h0.size ≤ b32 := by rw [g32]; exact K30.1
      have O32 := O30.ext E32
      have K32 := K30.ext E32
      refine own_by st32 ?_
      have V32 : Arv Z h32 b32 k32 .int (1 : Int32) [(.int (0 : Int32))] (.int (0 : Int32)) := (Arv.new A32 (by decide)).pad (pad_rep [] (.int (0 : Int32)) 1)
      show own_Go p e below s _ _ (T32.setTop (mkF m 40 #[.val (.ref a), .val (.long x), .second, .val (.int (((x.toUInt64 >>> ((32 : Int32) &&& 0x3f).toInt64.toUInt64).toInt64).toInt32))] [(.ref b32), (.ref a)]))
      have f34 := ((F_m.other W30 (Or.inr (slot_ne (Or.inr (hw _ (List.mem_of_getElem? (i := 48) rfl))) (Or.inr (hw _ (List.mem_of_getElem? (i := 45) rfl))) (by decide) (t := (.array .int)) (t' := .int) (by decide) (by decide)))).ext E32)
      have f35 := (f33.ext E32)
      obtain ⟨T36, h36, X36, e36, W36, st36⟩ := putF X32 hx hZ hown (host := "") (Or.inl (hw _ (List.mem_of_getElem? (i := 47) rfl))) Via.refl e32 f34 f35 (Or.inr ⟨(hw _ (List.mem_of_getElem? (i := 48) rfl)), rfl, hnm⟩) (hw _ (List.mem_of_getElem? (i := 32) rfl)) (ty := (.array .int)) (by decide) rfl rfl (g := (mkF m 40 #[.val (.ref a), .val (.long x), .second, .val (.int (((x.toUInt64 >>> ((32 : Int32) &&& 0x3f).toInt64.toUInt64).toInt64).toInt32))] [(.ref b32), (.ref a)])) rfl rfl (hb hby d7_40)
      have Fw36 := f34.same W36
      have O36 := O32.wr W36 g_a
      have N36 := Fr.snoc X36 N30 g_a
      have K36 := K32.wr W36 (Or.inl (List.mem_of_getElem? (i := 0) rfl))
      refine own_by st36 ?_
      show own_Go p e below s _ _ (T36.setTop (mkF m 43 #[.val (.ref a), .val (.long x), .second, .val (.int (((x.toUInt64 >>> ((32 : Int32) &&& 0x3f).toInt64.toUInt64).toInt64).toInt32))] []))
      refine own_by (fun tz kz => XS.aloadN X36.here hx rfl (hb hby d7_43) rfl rfl kz) ?_
      show own_Go p e below s _ _ (T36.setTop (mkF m 44 #[.val (.ref a), .val (.long x), .second, .val (.int (((x.toUInt64 >>> ((32 : Int32) &&& 0x3f).toInt64.toUInt64).toInt64).toInt32))] [(.ref a)]))
      obtain ⟨T37, X37, e37, st37⟩ := getF X36 hx hZ hown (host := "") (Or.inl (hw _ (List.mem_of_getElem? (i := 47) rfl))) Via.refl e36 Fw36 (g := (mkF m 44 #[.val (.ref a), .val (.long x), .second, .val (.int (((x.toUInt64 >>> ((32 : Int32) &&& 0x3f).toInt64.toUInt64).toInt64).toInt32))] [(.ref a)])) rfl rfl (hb hby d7_44)
      refine own_by st37 ?_
      show own_Go p e below s _ _ (T37.setTop (mkF m 47 #[.val (.ref a), .val (.long x), .second, .val (.int (((x.toUInt64 >>> ((32 : Int32) &&& 0x3f).toInt64.toUInt64).toInt64).toInt32))] [(.ref b32)]))
      refine own_by (fun tz kz => XS.iconst X37.here hx rfl (hb hby d7_47) kz) ?_
      show own_Go p e below s _ _ (T37.setTop (mkF m 48 #[.val (.ref a), .val (.long x), .second, .val (.int (((x.toUInt64 >>> ((32 : Int32) &&& 0x3f).toInt64.toUInt64).toInt64).toInt32))] [(.int (0 : Int32)), (.ref b32)]))
      refine own_by (fun tz kz => XS.lloadN X37.here hx rfl (hb hby d7_48) rfl kz) ?_
      show own_Go p e below s _ _ (T37.setTop (mkF m 49 #[.val (.ref a), .val (.long x), .second, .val (.int (((x.toUInt64 >>> ((32 : Int32) &&& 0x3f).toInt64.toUInt64).toInt64).toInt32))] [(.long x), (.int (0 : Int32)), (.ref b32)]))
      refine own_by (fun tz kz => XS.l2i X37.here hx rfl (hb hby d7_49) rfl kz) ?_
      show own_Go p e below s _ _ (T37.setTop (mkF m 50 #[.val (.ref a), .val (.long x), .second, .val (.int (((x.toUInt64 >>> ((32 : Int32) &&& 0x3f).toInt64.toUInt64).toInt64).toInt32))] [(.int (x.toInt32)), (.int (0 : Int32)), (.ref b32)]))
      have f39 := (V32.other W36 (Ne.symm ne_a_b32))
      obtain ⟨c38, Ar38, q38, S38, M38, Hh38, G38⟩ := id f39
      have hin38 : ¬ ((0 : Int32) < 0 ∨ c38.slots.size ≤ ((0 : Int32)).toNatClampNeg) := inb_of S38 ⟨by decide, by decide⟩
      obtain ⟨T38, h38, X38, e38, W38, st38⟩ := stI X37 hx hZ e37 Ar38 (j := (0 : Int32)) hin38 (g := (mkF m 50 #[.val (.ref a), .val (.long x), .second, .val (.int (((x.toUInt64 >>> ((32 : Int32) &&& 0x3f).toInt64.toUInt64).toInt64).toInt32))] [(.int (x.toInt32)), (.int (0 : Int32)), (.ref b32)])) rfl rfl (hb hby d7_50)
      have V38 : Arv Z h38 b32 k32 .int (1 : Int32) [(.int (x.toInt32))] (.int (0 : Int32)) := Arv.set Ar38 q38 S38 M38 Hh38 G38 rfl W38 0 (by decide) (Nat.le_of_ble_eq_true rfl)
      have O38 := O36.wr W38 g_b32
      have N38 := Fr.snoc X38 N36 g_b32
      have K38 := K36.wr W38 (Or.inr sz_b32)
      refine own_by st38 ?_
      show own_Go p e below s _ _ (T38.setTop (mkF m 51 #[.val (.ref a), .val (.long x), .second, .val (.int (((x.toUInt64 >>> ((32 : Int32) &&& 0x3f).toInt64.toUInt64).toInt64).toInt32))] []))
      refine own_by (fun tz kz => XS.goto X38.here hx rfl (pc0 := 51) (pc' := 76) rfl (hb hby d7_51) (by decide) (by decide) kz) ?_
      show own_Go p e below s _ _ (T38.setTop (mkF m 76 #[.val (.ref a), .val (.long x), .second, .val (.int (((x.toUInt64 >>> ((32 : Int32) &&& 0x3f).toInt64.toUInt64).toInt64).toInt32))] []))
      have f40 := ((f35.wr W36).wr W38)
      have f41 := (((Fw30.ext E32).other W36 (Or.inr (slot_ne (Or.inr (hw _ (List.mem_of_getElem? (i := 45) rfl))) (Or.inr (hw _ (List.mem_of_getElem? (i := 48) rfl))) (by decide) (t := .int) (t' := (.array .int)) (by decide) (by decide)))).other W38 (Or.inl ne_a_b32))
      have f42 := (Fw36.other W38 (Or.inl ne_a_b32))
      have hs : own_sg x = (1 : Int32) := if_pos (hbig.elim (fun g => (own_big_pos g).2.2.1) (fun g => absurd (own_big_neg g).2.2.2.2 hc7_2))
      refine own_retV X38 hx hlk hret (hb hby d7_76) ?_ (by decide) (by decide)
      exact ⟨rfl, N38, by rw [e38]; exact K38, by rw [hs, e38]; exact ⟨b32, _, _, _, f40, f41, f42, V38, Or.inl ⟨rfl, _, rfl, (if_neg (fun q => (hbig.elim (fun g => (own_big_pos g).1) (fun g => (own_big_neg g).1)) (own_low _ hc33_31 q))).symm⟩⟩⟩
    · refine own_by (fun tz kz => XS.ifYes X30.here hx rfl (pc0 := 33) (pc' := 54) rfl (hb hby d7_33) rfl ((if0 _ _).trans (feq hc33_31).2) (by decide) (by decide) kz) ?_
      show own_Go p e below s _ _ (T30.setTop (mkF m 54 #[.val (.ref a), .val (.long x), .second, .val (.int (((x.toUInt64 >>> ((32 : Int32) &&& 0x3f).toInt64.toUInt64).toInt64).toInt32))] []))
      refine own_by (fun tz kz => XS.aloadN X30.here hx rfl (hb hby d7_54) rfl rfl kz) ?_
      show own_Go p e below s _ _ (T30.setTop (mkF m 55 #[.val (.ref a), .val (.long x), .second, .val (.int (((x.toUInt64 >>> ((32 : Int32) &&& 0x3f).toInt64.toUInt64).toInt64).toInt32))] [(.ref a)]))
      refine own_by (fun tz kz => XS.iconst X30.here hx rfl (hb hby d7_55) kz) ?_
      show own_Go p e below s _ _ (T30.setTop (mkF m 56 #[.val (.ref a), .val (.long x), .second, .val (.int (((x.toUInt64 >>> ((32 : Int32) &&& 0x3f).toInt64.toUInt64).toInt64).toInt32))] [(.int (2 : Int32)), (.ref a)]))
      obtain ⟨T43, h43, k43, X43, e43, E43, A43, st43⟩ := newP X30 hx hZ (hw _ (List.mem_of_getElem? (i := 46) rfl)) e30 (g := (mkF m 56 #[.val (.ref a), .val (.long x), .second, .val (.int (((x.toUInt64 >>> ((32 : Int32) &&& 0x3f).toInt64.toUInt64).toInt64).toInt32))] [(.int (2 : Int32)), (.ref a)])) rfl (hb hby d7_56) rfl (by decide) (cap := 2) (by decide) (by decide) (by decide) (by decide)
      obtain ⟨b43, g43⟩ : ∃ z, z = h30.size := ⟨_, rfl⟩
      have f44 := (E_a.wr W30)
      have ne_a_b43 : a ≠ b43 := by rw [g43]; exact Nat.ne_of_lt f44.lt
      rw [← g43] at A43 st43
      have g_b43 : n0 ≤ b43 := by rw [g43]; exact O30.1 ▸ O30.2.1
      have sz_b43 : h0.size ≤ b43 := by rw [g43]; exact K30.1
      have O43 := O30.ext E43
      have K43 := K30.ext E43
      refine own_by st43 ?_
      have V43 : Arv Z h43 b43 k43 .int (2 : Int32) [(.int (0 : Int32)), (.int (0 : Int32))] (.int (0 : Int32)) := (Arv.new A43 (by decide)).pad (pad_rep [] (.int (0 : Int32)) 2)
      show own_Go p e below s _ _ (T43.setTop (mkF m 58 #[.val (.ref a), .val (.long x), .second, .val (.int (((x.toUInt64 >>> ((32 : Int32) &&& 0x3f).toInt64.toUInt64).toInt64).toInt32))] [(.ref b43), (.ref a)]))
      have f45 := ((F_m.other W30 (Or.inr (slot_ne (Or.inr (hw _ (List.mem_of_getElem? (i := 48) rfl))) (Or.inr (hw _ (List.mem_of_getElem? (i := 45) rfl))) (by decide) (t := (.array .int)) (t' := .int) (by decide) (by decide)))).ext E43)
      have f46 := (f44.ext E43)
      obtain ⟨T47, h47, X47, e47, W47, st47⟩ := putF X43 hx hZ hown (host := "") (Or.inl (hw _ (List.mem_of_getElem? (i := 47) rfl))) Via.refl e43 f45 f46 (Or.inr ⟨(hw _ (List.mem_of_getElem? (i := 48) rfl)), rfl, hnm⟩) (hw _ (List.mem_of_getElem? (i := 32) rfl)) (ty := (.array .int)) (by decide) rfl rfl (g := (mkF m 58 #[.val (.ref a), .val (.long x), .second, .val (.int (((x.toUInt64 >>> ((32 : Int32) &&& 0x3f).toInt64.toUInt64).toInt64).toInt32))] [(.ref b43), (.ref a)])) rfl rfl (hb hby d7_58)
      have Fw47 := f45.same W47
      have O47 := O43.wr W47 g_a
      have N47 := Fr.snoc X47 N30 g_a
      have K47 := K43.wr W47 (Or.inl (List.mem_of_getElem? (i := 0) rfl))
      refine own_by st47 ?_
      show own_Go p e below s _ _ (T47.setTop (mkF m 61 #[.val (.ref a), .val (.long x), .second, .val (.int (((x.toUInt64 >>> ((32 : Int32) &&& 0x3f).toInt64.toUInt64).toInt64).toInt32))] []))
      refine own_by (fun tz kz => XS.aloadN X47.here hx rfl (hb hby d7_61) rfl rfl kz) ?_
      show own_Go p e below s _ _ (T47.setTop (mkF m 62 #[.val (.ref a), .val (.long x), .second, .val (.int (((x.toUInt64 >>> ((32 : Int32) &&& 0x3f).toInt64.toUInt64).toInt64).toInt32))] [(.ref a)]))
      obtain ⟨T48, X48, e48, st48⟩ := getF X47 hx hZ hown (host := "") (Or.inl (hw _ (List.mem_of_getElem? (i := 47) rfl))) Via.refl e47 Fw47 (g := (mkF m 62 #[.val (.ref a), .val (.long x), .second, .val (.int (((x.toUInt64 >>> ((32 : Int32) &&& 0x3f).toInt64.toUInt64).toInt64).toInt32))] [(.ref a)])) rfl rfl (hb hby d7_62)
      refine own_by st48 ?_
      show own_Go p e below s _ _ (T48.setTop (mkF m 65 #[.val (.ref a), .val (.long x), .second, .val (.int (((x.toUInt64 >>> ((32 : Int32) &&& 0x3f).toInt64.toUInt64).toInt64).toInt32))] [(.ref b43)]))
      refine own_by (fun tz kz => XS.iconst X48.here hx rfl (hb hby d7_65) kz) ?_
      show own_Go p e below s _ _ (T48.setTop (mkF m 66 #[.val (.ref a), .val (.long x), .second, .val (.int (((x.toUInt64 >>> ((32 : Int32) &&& 0x3f).toInt64.toUInt64).toInt64).toInt32))] [(.int (0 : Int32)), (.ref b43)]))
      refine own_by (fun tz kz => XS.iloadN X48.here hx rfl (hb hby d7_66) rfl  kz) ?_
      show own_Go p e below s _ _ (T48.setTop (mkF m 67 #[.val (.ref a), .val (.long x), .second, .val (.int (((x.toUInt64 >>> ((32 : Int32) &&& 0x3f).toInt64.toUInt64).toInt64).toInt32))] [(.int (((x.toUInt64 >>> ((32 : Int32) &&& 0x3f).toInt64.toUInt64).toInt64).toInt32)), (.int (0 : Int32)), (.ref b43)]))
      have f50 := (V43.other W47 (Ne.symm ne_a_b43))
      obtain ⟨c49, Ar49, q49, S49, M49, Hh49, G49⟩ := id f50
      have hin49 : ¬ ((0 : Int32) < 0 ∨ c49.slots.size ≤ ((0 : Int32)).toNatClampNeg) := inb_of S49 ⟨by decide, by decide⟩
      obtain ⟨T49, h49, X49, e49, W49, st49⟩ := stI X48 hx hZ e48 Ar49 (j := (0 : Int32)) hin49 (g := (mkF m 67 #[.val (.ref a), .val (.long x), .second, .val (.int (((x.toUInt64 >>> ((32 : Int32) &&& 0x3f).toInt64.toUInt64).toInt64).toInt32))] [(.int (((x.toUInt64 >>> ((32 : Int32) &&& 0x3f).toInt64.toUInt64).toInt64).toInt32)), (.int (0 : Int32)), (.ref b43)])) rfl rfl (hb hby d7_67)
      have V49 : Arv Z h49 b43 k43 .int (2 : Int32) [(.int (((x.toUInt64 >>> ((32 : Int32) &&& 0x3f).toInt64.toUInt64).toInt64).toInt32)), (.int (0 : Int32))] (.int (0 : Int32)) := Arv.set Ar49 q49 S49 M49 Hh49 G49 rfl W49 0 (by decide) (Nat.le_of_ble_eq_true rfl)
      have O49 := O47.wr W49 g_b43
      have N49 := Fr.snoc X49 N47 g_b43
      have K49 := K47.wr W49 (Or.inr sz_b43)
      refine own_by st49 ?_
      show own_Go p e below s _ _ (T49.setTop (mkF m 68 #[.val (.ref a), .val (.long x), .second, .val (.int (((x.toUInt64 >>> ((32 : Int32) &&& 0x3f).toInt64.toUInt64).toInt64).toInt32))] []))
      refine own_by (fun tz kz => XS.aloadN X49.here hx rfl (hb hby d7_68) rfl rfl kz) ?_
      show own_Go p e below s _ _ (T49.setTop (mkF m 69 #[.val (.ref a), .val (.long x), .second, .val (.int (((x.toUInt64 >>> ((32 : Int32) &&& 0x3f).toInt64.toUInt64).toInt64).toInt32))] [(.ref a)]))
      have f51 := (Fw47.other W49 (Or.inl ne_a_b43))
      obtain ⟨T52, X52, e52, st52⟩ := getF X49 hx hZ hown (host := "") (Or.inl (hw _ (List.mem_of_getElem? (i := 47) rfl))) Via.refl e49 f51 (g := (mkF m 69 #[.val (.ref a), .val (.long x), .second, .val (.int (((x.toUInt64 >>> ((32 : Int32) &&& 0x3f).toInt64.toUInt64).toInt64).toInt32))] [(.ref a)])) rfl rfl (hb hby d7_69)
      refine own_by st52 ?_
      show own_Go p e below s _ _ (T52.setTop (mkF m 72 #[.val (.ref a), .val (.long x), .second, .val (.int (((x.toUInt64 >>> ((32 : Int32) &&& 0x3f).toInt64.toUInt64).toInt64).toInt32))] [(.ref b43)]))
      refine own_by (fun tz kz => XS.iconst X52.here hx rfl (hb hby d7_72) kz) ?_
      show own_Go p e below s _ _ (T52.setTop (mkF m 73 #[.val (.ref a), .val (.long x), .second, .val (.int (((x.toUInt64 >>> ((32 : Int32) &&& 0x3f).toInt64.toUInt64).toInt64).toInt32))] [(.int (1 : Int32)), (.ref b43)]))
      refine own_by (fun tz kz => XS.lloadN X52.here hx rfl (hb hby d7_73) rfl kz) ?_
      show own_Go p e below s _ _ (T52.setTop (mkF m 74 #[.val (.ref a), .val (.long x), .second, .val (.int (((x.toUInt64 >>> ((32 : Int32) &&& 0x3f).toInt64.toUInt64).toInt64).toInt32))] [(.long x), (.int (1 : Int32)), (.ref b43)]))
      refine own_by (fun tz kz => XS.l2i X52.here hx rfl (hb hby d7_74) rfl kz) ?_
      show own_Go p e below s _ _ (T52.setTop (mkF m 75 #[.val (.ref a), .val (.long x), .second, .val (.int (((x.toUInt64 >>> ((32 : Int32) &&& 0x3f).toInt64.toUInt64).toInt64).toInt32))] [(.int (x.toInt32)), (.int (1 : Int32)), (.ref b43)]))
      obtain ⟨c53, Ar53, q53, S53, M53, Hh53, G53⟩ := id V49
      have hin53 : ¬ ((1 : Int32) < 0 ∨ c53.slots.size ≤ ((1 : Int32)).toNatClampNeg) := inb_of S53 ⟨by decide, by decide⟩
      obtain ⟨T53, h53, X53, e53, W53, st53⟩ := stI X52 hx hZ e52 Ar53 (j := (1 : Int32)) hin53 (g := (mkF m 75 #[.val (.ref a), .val (.long x), .second, .val (.int (((x.toUInt64 >>> ((32 : Int32) &&& 0x3f).toInt64.toUInt64).toInt64).toInt32))] [(.int (x.toInt32)), (.int (1 : Int32)), (.ref b43)])) rfl rfl (hb hby d7_75)
      have V53 : Arv Z h53 b43 k43 .int (2 : Int32) [(.int (((x.toUInt64 >>> ((32 : Int32) &&& 0x3f).toInt64.toUInt64).toInt64).toInt32)), (.int (x.toInt32))] (.int (0 : Int32)) := Arv.set Ar53 q53 S53 M53 Hh53 G53 rfl W53 1 (by decide) (Nat.le_of_ble_eq_true rfl)
      have O53 := O49.wr W53 g_b43
      have N53 := Fr.snoc X53 N49 g_b43
      have K53 := K49.wr W53 (Or.inr sz_b43)
      refine own_by st53 ?_
      show own_Go p e below s _ _ (T53.setTop (mkF m 76 #[.val (.ref a), .val (.long x), .second, .val (.int (((x.toUInt64 >>> ((32 : Int32) &&& 0x3f).toInt64.toUInt64).toInt64).toInt32))] []))
      have f54 := (((f46.wr W47).wr W49).wr W53)
      have f55 := ((((Fw30.ext E43).other W47 (Or.inr (slot_ne (Or.inr (hw _ (List.mem_of_getElem? (i := 45) rfl))) (Or.inr (hw _ (List.mem_of_getElem? (i := 48) rfl))) (by decide) (t := .int) (t' := (.array .int)) (by decide) (by decide)))).other W49 (Or.inl ne_a_b43)).other W53 (Or.inl ne_a_b43))
      have f56 := (f51.other W53 (Or.inl ne_a_b43))
      have hs : own_sg x = (1 : Int32) := if_pos (hbig.elim (fun g => (own_big_pos g).2.2.1) (fun g => absurd (own_big_neg g).2.2.2.2 hc7_2))
      refine own_retV X53 hx hlk hret (hb hby d7_76) ?_ (by decide) (by decide)
      exact ⟨rfl, N53, by rw [e53]; exact K53, by rw [hs, e53]; exact ⟨b43, _, _, _, f54, f55, f56, V53, Or.inr ⟨rfl, _, _, rfl, rfl⟩⟩⟩
def Q_rm_Binit2 (Z : State) (a mg : Addr) (k : ClassId) (n sg u : Int32) (vs : List Value) (h0 : Heap) (n0 : Nat) (v : Option Value) (h : Heap) (L : List Loc) : Prop := v = none ∧ Fr n0 L ∧ Keep h0 h [a] ∧ own_Big Z h a sg u
set_option maxRecDepth 65536 in
set_option maxHeartbeats 40000000 in
theorem rm_Binit2 (l : Launch) (Z : State) (a0 : Array Value) (hw : ∀ d ∈ tables_1, d.before a0 Z = true) (ws : List Jvm.Cond) (a mg : Addr) (k : ClassId) (n sg u : Int32) (vs : List Value) (h0 : Heap) (n0 : Nat) (O0 : Old Z n0 h0) (E_a : Exa Z h0 a "java/math/BigInteger") (F_s : Fld Z h0 a "java/math/BigInteger" "signum" "I" (.int (0 : Int32))) (F_m : Fld Z h0 a "java/math/BigInteger" "mag" "[I" .null) (g_a : n0 ≤ a) (V_m : Arv Z h0 mg k .int n vs (.int (0 : Int32))) (M : own_Mag n vs u) (hma : mg ≠ a) :
    MetFree l (⟨"java/math/BigInteger", "<init>", "([II)V"⟩ : MethodName) (head1 (Jvm.Cond.code (⟨"java/math/BigInteger", "<init>", "([II)V"⟩ : MethodName) jdk_2097_method_25_code 3 none :: ws) ({ frames := 2, cells := 0, slots := 0, locals := 26 } : Room)) (fun ar U => ar = #[(.ref a), (.ref mg), (.int sg)] ∧ Z.Warmed39 U.vm ∧ U.heap = h0) (fun _ _ _ _ _ => True) (fun _ U o U' => ∃ v L, o = .returned v ∧ Q_rm_Binit2 Z a mg k n sg u vs h0 n0 v U'.heap L ∧ FrameEnd U o U' L ({ frames := 2, cells := 0, slots := 0, locals := 26 } : Room).cells ({ frames := 2, cells := 0, slots := 0, locals := 26 } : Room).slots) := by
  refine own_enter (Q := (Q_rm_Binit2 Z a mg k n sg u vs h0 n0)) pl_14 ?_
  intro p e s m below meth c s₁ X0 hx hZ hby hml hown hnm hret hlk e0
  have N0 := Fr.nil n0
  refine own_by (fun tz kz => castTop (g' := (mkF m 0 #[.val (.ref a), .val (.ref mg), .val (.int sg)] [])) (by first | (simp [entryFrame, mkF, argsToLocals, Value.category]; done) | rfl) kz) ?_
  have K0 := Keep.refl h0 [a]
  rcases M with ⟨rfl, m0, rfl, hu⟩ | ⟨rfl, m0, m1, rfl, hu⟩
  · show own_Go p e below s _ _ (s₁.setTop (mkF m 0 #[.val (.ref a), .val (.ref mg), .val (.int sg)] []))
    refine own_by (fun tz kz => XS.aloadN X0.here hx rfl (hb hby d14_0) rfl rfl kz) ?_
    show own_Go p e below s _ _ (s₁.setTop (mkF m 1 #[.val (.ref a), .val (.ref mg), .val (.int sg)] [(.ref a)]))
    obtain ⟨_, _, ⟨T1, L1, k1, n1⟩, -, X1, ⟨Lc1, hQ1, l1, y1, z1⟩, st1⟩ := X0.specialBack hx (y := (⟨"java/lang/Number", "<init>", "()V"⟩ : MethodName)) rfl hown (mvT hZ (hw _ (List.mem_of_getElem? (i := 37) rfl))) (mvT hZ (hw _ (List.mem_of_getElem? (i := 38) rfl))) (mvT hZ (hw _ (List.mem_of_getElem? (i := 42) rfl))) (by decide) (backOf (W := 0) (rm_Number l Z a0 hw [] a h0 n0) hZ (hw _ (List.mem_of_getElem? (i := 42) rfl)) (hw _ (List.mem_of_getElem? (i := 41) rfl)) (by decide) (by decide)) (g := (mkF m 1 #[.val (.ref a), .val (.ref mg), .val (.int sg)] [(.ref a)])) rfl (by rw [hml]; rfl) (Steps.refl _) (a := a) (argsL := []) (rest := []) (lenOf pd_0 rfl) rfl (by show 2 * 0 + _ ≤ _; exact Nat.le_of_eq rfl) (hb hby d14_1) (fun _ _ => ⟨rfl, e0, (by decide : 0 + 0 ≤ _), (by decide : 0 + 0 ≤ _)⟩)
    dsimp only [Pt.U, Pt.locs, Pt.cells, Pt.slots] at X1 l1 y1 z1 st1 hQ1
    rw [l1, y1, z1] at X1
    obtain ⟨rfl, Nq1, e1⟩ := hQ1
    have N1 := Fr.app N0 Nq1
    refine own_via st1 ?_
    show own_Go p e below s _ _ (T1.setTop (mkF m 4 #[.val (.ref a), .val (.ref mg), .val (.int sg)] []))
    refine own_by (fun tz kz => XS.aloadN X1.here hx rfl (hb hby d14_4) rfl rfl kz) ?_
    show own_Go p e below s _ _ (T1.setTop (mkF m 5 #[.val (.ref a), .val (.ref mg), .val (.int sg)] [(.ref a)]))
    refine own_by (fun tz kz => XS.aloadN X1.here hx rfl (hb hby d14_5) rfl rfl kz) ?_
    show own_Go p e below s _ _ (T1.setTop (mkF m 6 #[.val (.ref a), .val (.ref mg), .val (.int sg)] [(.ref mg), (.ref a)]))
    obtain ⟨c2, Ar2, q2, S2, M2, Hh2, G2⟩ := id V_m
    refine own_by (fun tz kz => X1.arraylength hx (by rw [e1]; exact Ar2.1) (State.isArrayOf_alike hZ.alike Ar2.2.1) (g := (mkF m 6 #[.val (.ref a), .val (.ref mg), .val (.int sg)] [(.ref mg), (.ref a)])) rfl rfl (hb hby d14_6) _ kz) ?_
    rw [len_of S2 M2]
    show own_Go p e below s _ _ (T1.setTop (mkF m 7 #[.val (.ref a), .val (.ref mg), .val (.int sg)] [(.int (1 : Int32)), (.ref a)]))
    refine own_by (fun tz kz => XS.ifYes X1.here hx rfl (pc0 := 7) (pc' := 14) rfl (hb hby d14_7) rfl ((if0 _ _).trans (feq (by decide : ¬ (1 : Int32) = (0 : Int32))).2) (by decide) (by decide) kz) ?_
    show own_Go p e below s _ _ (T1.setTop (mkF m 14 #[.val (.ref a), .val (.ref mg), .val (.int sg)] [(.ref a)]))
    refine own_by (fun tz kz => XS.iloadN X1.here hx rfl (hb hby d14_14) rfl  kz) ?_
    show own_Go p e below s _ _ (T1.setTop (mkF m 15 #[.val (.ref a), .val (.ref mg), .val (.int sg)] [(.int sg), (.ref a)]))
    obtain ⟨T3, h3, X3, e3, W3, st3⟩ := putF X1 hx hZ hown (host := "") (Or.inl (hw _ (List.mem_of_getElem? (i := 44) rfl))) Via.refl e1 F_s E_a (Or.inr ⟨(hw _ (List.mem_of_getElem? (i := 45) rfl)), rfl, hnm⟩) (hw _ (List.mem_of_getElem? (i := 32) rfl)) (ty := .int) (by decide) rfl rfl (g := (mkF m 15 #[.val (.ref a), .val (.ref mg), .val (.int sg)] [(.int sg), (.ref a)])) rfl rfl (hb hby d14_15)
    have Fw3 := F_s.same W3
    have O3 := O0.wr W3 g_a
    have N3 := Fr.snoc X3 N1 g_a
    have K3 := K0.wr W3 (Or.inl (List.mem_of_getElem? (i := 0) rfl))
    refine own_by st3 ?_
    show own_Go p e below s _ _ (T3.setTop (mkF m 18 #[.val (.ref a), .val (.ref mg), .val (.int sg)] []))
    refine own_by (fun tz kz => XS.aloadN X3.here hx rfl (hb hby d14_18) rfl rfl kz) ?_
    show own_Go p e below s _ _ (T3.setTop (mkF m 19 #[.val (.ref a), .val (.ref mg), .val (.int sg)] [(.ref a)]))
    refine own_by (fun tz kz => XS.aloadN X3.here hx rfl (hb hby d14_19) rfl rfl kz) ?_
    show own_Go p e below s _ _ (T3.setTop (mkF m 20 #[.val (.ref a), .val (.ref mg), .val (.int sg)] [(.ref mg), (.ref a)]))
    have f4 := (F_m.other W3 (Or.inr (slot_ne (Or.inr (hw _ (List.mem_of_getElem? (i := 48) rfl))) (Or.inr (hw _ (List.mem_of_getElem? (i := 45) rfl))) (by decide) (t := (.array .int)) (t' := .int) (by decide) (by decide))))
    have f5 := (E_a.wr W3)
    obtain ⟨T6, h6, X6, e6, W6, st6⟩ := putF X3 hx hZ hown (host := "") (Or.inl (hw _ (List.mem_of_getElem? (i := 47) rfl))) Via.refl e3 f4 f5 (Or.inr ⟨(hw _ (List.mem_of_getElem? (i := 48) rfl)), rfl, hnm⟩) (hw _ (List.mem_of_getElem? (i := 32) rfl)) (ty := (.array .int)) (by decide) rfl rfl (g := (mkF m 20 #[.val (.ref a), .val (.ref mg), .val (.int sg)] [(.ref mg), (.ref a)])) rfl rfl (hb hby d14_20)
    have Fw6 := f4.same W6
    have O6 := O3.wr W6 g_a
    have N6 := Fr.snoc X6 N3 g_a
    have K6 := K3.wr W6 (Or.inl (List.mem_of_getElem? (i := 0) rfl))
    refine own_by st6 ?_
    show own_Go p e below s _ _ (T6.setTop (mkF m 23 #[.val (.ref a), .val (.ref mg), .val (.int sg)] []))
    refine own_by (fun tz kz => XS.aloadN X6.here hx rfl (hb hby d14_23) rfl rfl kz) ?_
    show own_Go p e below s _ _ (T6.setTop (mkF m 24 #[.val (.ref a), .val (.ref mg), .val (.int sg)] [(.ref a)]))
    obtain ⟨T7, X7, e7, st7⟩ := getF X6 hx hZ hown (host := "") (Or.inl (hw _ (List.mem_of_getElem? (i := 47) rfl))) Via.refl e6 Fw6 (g := (mkF m 24 #[.val (.ref a), .val (.ref mg), .val (.int sg)] [(.ref a)])) rfl rfl (hb hby d14_24)
    refine own_by st7 ?_
    show own_Go p e below s _ _ (T7.setTop (mkF m 27 #[.val (.ref a), .val (.ref mg), .val (.int sg)] [(.ref mg)]))
    have f9 := ((V_m.other W3 hma).other W6 hma)
    obtain ⟨c8, Ar8, q8, S8, M8, Hh8, G8⟩ := id f9
    refine own_by (fun tz kz => X7.arraylength hx (by rw [e7]; exact Ar8.1) (State.isArrayOf_alike hZ.alike Ar8.2.1) (g := (mkF m 27 #[.val (.ref a), .val (.ref mg), .val (.int sg)] [(.ref mg)])) rfl rfl (hb hby d14_27) _ kz) ?_
    rw [len_of S8 M8]
    show own_Go p e below s _ _ (T7.setTop (mkF m 28 #[.val (.ref a), .val (.ref mg), .val (.int sg)] [(.int (1 : Int32))]))
    refine own_by (fun tz kz => X7.ldcInt hx hown (mvT hZ (hw _ (List.mem_of_getElem? (i := 81) rfl))) (g := (mkF m 28 #[.val (.ref a), .val (.ref mg), .val (.int sg)] [(.int (1 : Int32))])) rfl (hb hby d14_28) _ kz) ?_
    show own_Go p e below s _ _ (T7.setTop (mkF m 30 #[.val (.ref a), .val (.ref mg), .val (.int sg)] [(.int (67108864 : Int32)), (.int (1 : Int32))]))
    refine own_by (fun tz kz => XS.icmpYes X7.here hx rfl (pc0 := 30) (pc' := 37) rfl (hb hby d14_30) rfl (tlt (by decide : (1 : Int32) < (67108864 : Int32))).1 (by decide) (by decide) kz) ?_
    show own_Go p e below s _ _ (T7.setTop (mkF m 37 #[.val (.ref a), .val (.ref mg), .val (.int sg)] []))
    have f10 := (f5.wr W6)
    have f11 := (Fw3.other W6 (Or.inr (slot_ne (Or.inr (hw _ (List.mem_of_getElem? (i := 45) rfl))) (Or.inr (hw _ (List.mem_of_getElem? (i := 48) rfl))) (by decide) (t := .int) (t' := (.array .int)) (by decide) (by decide))))
    refine own_retV X7 hx hlk hret (hb hby d14_37) ?_ (by decide) (by decide)
    exact ⟨rfl, N6, by rw [e7]; exact K6, by rw [e7]; exact ⟨mg, _, _, _, f10, f11, Fw6, f9, Or.inl ⟨rfl, _, rfl, hu⟩⟩⟩
  · show own_Go p e below s _ _ (s₁.setTop (mkF m 0 #[.val (.ref a), .val (.ref mg), .val (.int sg)] []))
    refine own_by (fun tz kz => XS.aloadN X0.here hx rfl (hb hby d14_0) rfl rfl kz) ?_
    show own_Go p e below s _ _ (s₁.setTop (mkF m 1 #[.val (.ref a), .val (.ref mg), .val (.int sg)] [(.ref a)]))
    obtain ⟨_, _, ⟨T12, L12, k12, n12⟩, -, X12, ⟨Lc12, hQ12, l12, y12, z12⟩, st12⟩ := X0.specialBack hx (y := (⟨"java/lang/Number", "<init>", "()V"⟩ : MethodName)) rfl hown (mvT hZ (hw _ (List.mem_of_getElem? (i := 37) rfl))) (mvT hZ (hw _ (List.mem_of_getElem? (i := 38) rfl))) (mvT hZ (hw _ (List.mem_of_getElem? (i := 42) rfl))) (by decide) (backOf (W := 0) (rm_Number l Z a0 hw [] a h0 n0) hZ (hw _ (List.mem_of_getElem? (i := 42) rfl)) (hw _ (List.mem_of_getElem? (i := 41) rfl)) (by decide) (by decide)) (g := (mkF m 1 #[.val (.ref a), .val (.ref mg), .val (.int sg)] [(.ref a)])) rfl (by rw [hml]; rfl) (Steps.refl _) (a := a) (argsL := []) (rest := []) (lenOf pd_0 rfl) rfl (by show 2 * 0 + _ ≤ _; exact Nat.le_of_eq rfl) (hb hby d14_1) (fun _ _ => ⟨rfl, e0, (by decide : 0 + 0 ≤ _), (by decide : 0 + 0 ≤ _)⟩)
    dsimp only [Pt.U, Pt.locs, Pt.cells, Pt.slots] at X12 l12 y12 z12 st12 hQ12
    rw [l12, y12, z12] at X12
    obtain ⟨rfl, Nq12, e12⟩ := hQ12
    have N12 := Fr.app N0 Nq12
    refine own_via st12 ?_
    show own_Go p e below s _ _ (T12.setTop (mkF m 4 #[.val (.ref a), .val (.ref mg), .val (.int sg)] []))
    refine own_by (fun tz kz => XS.aloadN X12.here hx rfl (hb hby d14_4) rfl rfl kz) ?_
    show own_Go p e below s _ _ (T12.setTop (mkF m 5 #[.val (.ref a), .val (.ref mg), .val (.int sg)] [(.ref a)]))
    refine own_by (fun tz kz => XS.aloadN X12.here hx rfl (hb hby d14_5) rfl rfl kz) ?_
    show own_Go p e below s _ _ (T12.setTop (mkF m 6 #[.val (.ref a), .val (.ref mg), .val (.int sg)] [(.ref mg), (.ref a)]))
    obtain ⟨c13, Ar13, q13, S13, M13, Hh13, G13⟩ := id V_m
    refine own_by (fun tz kz => X12.arraylength hx (by rw [e12]; exact Ar13.1) (State.isArrayOf_alike hZ.alike Ar13.2.1) (g := (mkF m 6 #[.val (.ref a), .val (.ref mg), .val (.int sg)] [(.ref mg), (.ref a)])) rfl rfl (hb hby d14_6) _ kz) ?_
    rw [len_of S13 M13]
    show own_Go p e below s _ _ (T12.setTop (mkF m 7 #[.val (.ref a), .val (.ref mg), .val (.int sg)] [(.int (2 : Int32)), (.ref a)]))
    refine own_by (fun tz kz => XS.ifYes X12.here hx rfl (pc0 := 7) (pc' := 14) rfl (hb hby d14_7) rfl ((if0 _ _).trans (feq (by decide : ¬ (2 : Int32) = (0 : Int32))).2) (by decide) (by decide) kz) ?_
    show own_Go p e below s _ _ (T12.setTop (mkF m 14 #[.val (.ref a), .val (.ref mg), .val (.int sg)] [(.ref a)]))
    refine own_by (fun tz kz => XS.iloadN X12.here hx rfl (hb hby d14_14) rfl  kz) ?_
    show own_Go p e below s _ _ (T12.setTop (mkF m 15 #[.val (.ref a), .val (.ref mg), .val (.int sg)] [(.int sg), (.ref a)]))
    obtain ⟨T14, h14, X14, e14, W14, st14⟩ := putF X12 hx hZ hown (host := "") (Or.inl (hw _ (List.mem_of_getElem? (i := 44) rfl))) Via.refl e12 F_s E_a (Or.inr ⟨(hw _ (List.mem_of_getElem? (i := 45) rfl)), rfl, hnm⟩) (hw _ (List.mem_of_getElem? (i := 32) rfl)) (ty := .int) (by decide) rfl rfl (g := (mkF m 15 #[.val (.ref a), .val (.ref mg), .val (.int sg)] [(.int sg), (.ref a)])) rfl rfl (hb hby d14_15)
    have Fw14 := F_s.same W14
    have O14 := O0.wr W14 g_a
    have N14 := Fr.snoc X14 N12 g_a
    have K14 := K0.wr W14 (Or.inl (List.mem_of_getElem? (i := 0) rfl))
    refine own_by st14 ?_
    show own_Go p e below s _ _ (T14.setTop (mkF m 18 #[.val (.ref a), .val (.ref mg), .val (.int sg)] []))
    refine own_by (fun tz kz => XS.aloadN X14.here hx rfl (hb hby d14_18) rfl rfl kz) ?_
    show own_Go p e below s _ _ (T14.setTop (mkF m 19 #[.val (.ref a), .val (.ref mg), .val (.int sg)] [(.ref a)]))
    refine own_by (fun tz kz => XS.aloadN X14.here hx rfl (hb hby d14_19) rfl rfl kz) ?_
    show own_Go p e below s _ _ (T14.setTop (mkF m 20 #[.val (.ref a), .val (.ref mg), .val (.int sg)] [(.ref mg), (.ref a)]))
    have f15 := (F_m.other W14 (Or.inr (slot_ne (Or.inr (hw _ (List.mem_of_getElem? (i := 48) rfl))) (Or.inr (hw _ (List.mem_of_getElem? (i := 45) rfl))) (by decide) (t := (.array .int)) (t' := .int) (by decide) (by decide))))
    have f16 := (E_a.wr W14)
    obtain ⟨T17, h17, X17, e17, W17, st17⟩ := putF X14 hx hZ hown (host := "") (Or.inl (hw _ (List.mem_of_getElem? (i := 47) rfl))) Via.refl e14 f15 f16 (Or.inr ⟨(hw _ (List.mem_of_getElem? (i := 48) rfl)), rfl, hnm⟩) (hw _ (List.mem_of_getElem? (i := 32) rfl)) (ty := (.array .int)) (by decide) rfl rfl (g := (mkF m 20 #[.val (.ref a), .val (.ref mg), .val (.int sg)] [(.ref mg), (.ref a)])) rfl rfl (hb hby d14_20)
    have Fw17 := f15.same W17
    have O17 := O14.wr W17 g_a
    have N17 := Fr.snoc X17 N14 g_a
    have K17 := K14.wr W17 (Or.inl (List.mem_of_getElem? (i := 0) rfl))
    refine own_by st17 ?_
    show own_Go p e below s _ _ (T17.setTop (mkF m 23 #[.val (.ref a), .val (.ref mg), .val (.int sg)] []))
    refine own_by (fun tz kz => XS.aloadN X17.here hx rfl (hb hby d14_23) rfl rfl kz) ?_
    show own_Go p e below s _ _ (T17.setTop (mkF m 24 #[.val (.ref a), .val (.ref mg), .val (.int sg)] [(.ref a)]))
    obtain ⟨T18, X18, e18, st18⟩ := getF X17 hx hZ hown (host := "") (Or.inl (hw _ (List.mem_of_getElem? (i := 47) rfl))) Via.refl e17 Fw17 (g := (mkF m 24 #[.val (.ref a), .val (.ref mg), .val (.int sg)] [(.ref a)])) rfl rfl (hb hby d14_24)
    refine own_by st18 ?_
    show own_Go p e below s _ _ (T18.setTop (mkF m 27 #[.val (.ref a), .val (.ref mg), .val (.int sg)] [(.ref mg)]))
    have f20 := ((V_m.other W14 hma).other W17 hma)
    obtain ⟨c19, Ar19, q19, S19, M19, Hh19, G19⟩ := id f20
    refine own_by (fun tz kz => X18.arraylength hx (by rw [e18]; exact Ar19.1) (State.isArrayOf_alike hZ.alike Ar19.2.1) (g := (mkF m 27 #[.val (.ref a), .val (.ref mg), .val (.int sg)] [(.ref mg)])) rfl rfl (hb hby d14_27) _ kz) ?_
    rw [len_of S19 M19]
    show own_Go p e below s _ _ (T18.setTop (mkF m 28 #[.val (.ref a), .val (.ref mg), .val (.int sg)] [(.int (2 : Int32))]))
    refine own_by (fun tz kz => X18.ldcInt hx hown (mvT hZ (hw _ (List.mem_of_getElem? (i := 81) rfl))) (g := (mkF m 28 #[.val (.ref a), .val (.ref mg), .val (.int sg)] [(.int (2 : Int32))])) rfl (hb hby d14_28) _ kz) ?_
    show own_Go p e below s _ _ (T18.setTop (mkF m 30 #[.val (.ref a), .val (.ref mg), .val (.int sg)] [(.int (67108864 : Int32)), (.int (2 : Int32))]))
    refine own_by (fun tz kz => XS.icmpYes X18.here hx rfl (pc0 := 30) (pc' := 37) rfl (hb hby d14_30) rfl (tlt (by decide : (2 : Int32) < (67108864 : Int32))).1 (by decide) (by decide) kz) ?_
    show own_Go p e below s _ _ (T18.setTop (mkF m 37 #[.val (.ref a), .val (.ref mg), .val (.int sg)] []))
    have f21 := (f16.wr W17)
    have f22 := (Fw14.other W17 (Or.inr (slot_ne (Or.inr (hw _ (List.mem_of_getElem? (i := 45) rfl))) (Or.inr (hw _ (List.mem_of_getElem? (i := 48) rfl))) (by decide) (t := .int) (t' := (.array .int)) (by decide) (by decide))))
    refine own_retV X18 hx hlk hret (hb hby d14_37) ?_ (by decide) (by decide)
    exact ⟨rfl, N17, by rw [e18]; exact K17, by rw [e18]; exact ⟨mg, _, _, _, f21, f22, Fw17, f20, Or.inr ⟨rfl, _, _, rfl, hu⟩⟩⟩
def Q_rm_valueOf (Z : State) (x : Int64) (pa na : Addr) (pc nc : Cell) (h0 : Heap) (n0 : Nat) (v : Option Value) (h : Heap) (L : List Loc) : Prop := ∃ b, v = some (.ref b) ∧ Fr n0 L ∧ Keep h0 h [] ∧ own_Big Z h b (own_sg x) (own_un x)
set_option maxRecDepth 65536 in
set_option maxHeartbeats 40000000 in
theorem rm_valueOf (l : Launch) (Z : State) (a0 : Array Value) (hw : ∀ d ∈ tables_1, d.before a0 Z = true) (ws : List Jvm.Cond) (x : Int64) (pa na : Addr) (pc nc : Cell) (h0 : Heap) (n0 : Nat) (O0 : Old Z n0 h0) (S_pos : Sta Z Z.heap "java/math/BigInteger" "posConst" "[Ljava/math/BigInteger;" (.ref pa)) (S_neg : Sta Z Z.heap "java/math/BigInteger" "negConst" "[Ljava/math/BigInteger;" (.ref na)) (T_pos : own_Tab Z pa pc (1 : Int32)) (T_neg : own_Tab Z na nc (-1 : Int32)) (hx0 : ¬ x = (0 : Int64)) :
    MetFree l (⟨"java/math/BigInteger", "valueOf", "(J)Ljava/math/BigInteger;"⟩ : MethodName) (head1 (Jvm.Cond.code (⟨"java/math/BigInteger", "valueOf", "(J)Ljava/math/BigInteger;"⟩ : MethodName) jdk_2097_method_29_code 2 (some (.object "java/math/BigInteger")) :: ws) ({ frames := 3, cells := 2, slots := 8, locals := 44 } : Room)) (fun ar U => ar = #[(.long x)] ∧ Z.Warmed39 U.vm ∧ U.heap = h0) (fun _ _ _ _ _ => True) (fun _ U o U' => ∃ v L, o = .returned v ∧ Q_rm_valueOf Z x pa na pc nc h0 n0 v U'.heap L ∧ FrameEnd U o U' L ({ frames := 3, cells := 2, slots := 8, locals := 44 } : Room).cells ({ frames := 3, cells := 2, slots := 8, locals := 44 } : Room).slots) := by
  refine own_enter (Q := (Q_rm_valueOf Z x pa na pc nc h0 n0)) pl_6 ?_
  intro p e s m below meth c s₁ X0 hx hZ hby hml hown hnm hret hlk e0
  have N0 := Fr.nil n0
  refine own_by (fun tz kz => castTop (g' := (mkF m 0 #[.val (.long x), .second] [])) (by first | (simp [entryFrame, mkF, argsToLocals, Value.category]; done) | rfl) kz) ?_
  have K0 := Keep.refl h0 []
  show own_Go p e below s _ _ (s₁.setTop (mkF m 0 #[.val (.long x), .second] []))
  refine own_by (fun tz kz => XS.lloadN X0.here hx rfl (hb hby d6_0) rfl kz) ?_
  show own_Go p e below s _ _ (s₁.setTop (mkF m 1 #[.val (.long x), .second] [(.long x)]))
  refine own_by (fun tz kz => XS.lconst X0.here hx rfl (hb hby d6_1) kz) ?_
  show own_Go p e below s _ _ (s₁.setTop (mkF m 2 #[.val (.long x), .second] [(.long (0 : Int64)), (.long x)]))
  refine own_by (fun tz kz => XS.lcmp X0.here hx rfl (hb hby d6_2) rfl kz) ?_
  show own_Go p e below s _ _ (s₁.setTop (mkF m 3 #[.val (.long x), .second] [(.int (lcmpW x (0 : Int64)))]))
  refine own_by (fun tz kz => XS.ifYes X0.here hx rfl (pc0 := 3) (pc' := 10) rfl (hb hby d6_3) rfl ((if0 _ _).trans (feq (fun q => hx0 ((lw_eq x (0 : Int64)).mp q))).2) (by decide) (by decide) kz) ?_
  show own_Go p e below s _ _ (s₁.setTop (mkF m 10 #[.val (.long x), .second] []))
  refine own_by (fun tz kz => XS.lloadN X0.here hx rfl (hb hby d6_10) rfl kz) ?_
  show own_Go p e below s _ _ (s₁.setTop (mkF m 11 #[.val (.long x), .second] [(.long x)]))
  refine own_by (fun tz kz => XS.lconst X0.here hx rfl (hb hby d6_11) kz) ?_
  show own_Go p e below s _ _ (s₁.setTop (mkF m 12 #[.val (.long x), .second] [(.long (0 : Int64)), (.long x)]))
  refine own_by (fun tz kz => XS.lcmp X0.here hx rfl (hb hby d6_12) rfl kz) ?_
  show own_Go p e below s _ _ (s₁.setTop (mkF m 13 #[.val (.long x), .second] [(.int (lcmpW x (0 : Int64)))]))
  by_cases hc13_1 : (0 : Int64) < x
  · refine own_by (fun tz kz => XS.ifNo X0.here hx rfl (hb hby d6_13) rfl ((if0 _ _).trans (tlt ((lw_gt x (0 : Int64)).mpr hc13_1)).2.2.2) kz) ?_
    show own_Go p e below s _ _ (s₁.setTop (mkF m 16 #[.val (.long x), .second] []))
    refine own_by (fun tz kz => XS.lloadN X0.here hx rfl (hb hby d6_16) rfl kz) ?_
    show own_Go p e below s _ _ (s₁.setTop (mkF m 17 #[.val (.long x), .second] [(.long x)]))
    refine own_by (fun tz kz => X0.ldc2Long hx hown (mvT hZ (hw _ (List.mem_of_getElem? (i := 30) rfl))) (g := (mkF m 17 #[.val (.long x), .second] [(.long x)])) rfl (hb hby d6_17) _ kz) ?_
    show own_Go p e below s _ _ (s₁.setTop (mkF m 20 #[.val (.long x), .second] [(.long (16 : Int64)), (.long x)]))
    refine own_by (fun tz kz => XS.lcmp X0.here hx rfl (hb hby d6_20) rfl kz) ?_
    show own_Go p e below s _ _ (s₁.setTop (mkF m 21 #[.val (.long x), .second] [(.int (lcmpW x (16 : Int64)))]))
    by_cases hc21_2 : (16 : Int64) < x
    · refine own_by (fun tz kz => XS.ifYes X0.here hx rfl (pc0 := 21) (pc' := 31) rfl (hb hby d6_21) rfl ((if0 _ _).trans (tlt ((lw_gt x (16 : Int64)).mpr hc21_2)).2.2.1) (by decide) (by decide) kz) ?_
      show own_Go p e below s _ _ (s₁.setTop (mkF m 31 #[.val (.long x), .second] []))
      refine own_by (fun tz kz => XS.lloadN X0.here hx rfl (hb hby d6_31) rfl kz) ?_
      show own_Go p e below s _ _ (s₁.setTop (mkF m 32 #[.val (.long x), .second] [(.long x)]))
      refine own_by (fun tz kz => XS.lconst X0.here hx rfl (hb hby d6_32) kz) ?_
      show own_Go p e below s _ _ (s₁.setTop (mkF m 33 #[.val (.long x), .second] [(.long (0 : Int64)), (.long x)]))
      refine own_by (fun tz kz => XS.lcmp X0.here hx rfl (hb hby d6_33) rfl kz) ?_
      show own_Go p e below s _ _ (s₁.setTop (mkF m 34 #[.val (.long x), .second] [(.int (lcmpW x (0 : Int64)))]))
      refine own_by (fun tz kz => XS.ifYes X0.here hx rfl (pc0 := 34) (pc' := 53) rfl (hb hby d6_34) rfl ((if0 _ _).trans (flt (fun q => (own_big_pos hc21_2).2.2.2 ((lw_lt x (0 : Int64)).mp q))).2.1) (by decide) (by decide) kz) ?_
      show own_Go p e below s _ _ (s₁.setTop (mkF m 53 #[.val (.long x), .second] []))
      obtain ⟨T3, h3, X3, e3, E3, A3, D3, -, st3⟩ := newO X0 hx hZ hown (hw _ (List.mem_of_getElem? (i := 31) rfl)) (hw _ (List.mem_of_getElem? (i := 32) rfl)) (hw _ (List.mem_of_getElem? (i := 28) rfl)) e0 (g := (mkF m 53 #[.val (.long x), .second] [])) rfl (hb hby d6_53) (by decide) (by decide)
      obtain ⟨b3, g3⟩ : ∃ z, z = h0.size := ⟨_, rfl⟩
      rw [← g3] at A3 D3 st3
      have g_b3 : n0 ≤ b3 := by rw [g3]; exact O0.1 ▸ O0.2.1
      have sz_b3 : h0.size ≤ b3 := by rw [g3]; exact K0.1
      have O3 := O0.ext E3
      have K3 := K0.ext E3
      refine own_by st3 ?_
      have F3_signum : Fld Z h3 b3 "java/math/BigInteger" "signum" "I" (.int (0 : Int32)) := D3 (Or.inr (hw _ (List.mem_of_getElem? (i := 45) rfl))) (ty := .int) (by decide)
      have F3_mag : Fld Z h3 b3 "java/math/BigInteger" "mag" "[I" .null := D3 (Or.inr (hw _ (List.mem_of_getElem? (i := 48) rfl))) (ty := (.array .int)) (by decide)
      show own_Go p e below s _ _ (T3.setTop (mkF m 56 #[.val (.long x), .second] [(.ref b3)]))
      refine own_by (fun tz kz => XS.dup X3.here hx rfl (hb hby d6_56) rfl rfl kz) ?_
      show own_Go p e below s _ _ (T3.setTop (mkF m 57 #[.val (.long x), .second] [(.ref b3), (.ref b3)]))
      refine own_by (fun tz kz => XS.lloadN X3.here hx rfl (hb hby d6_57) rfl kz) ?_
      show own_Go p e below s _ _ (T3.setTop (mkF m 58 #[.val (.long x), .second] [(.long x), (.ref b3), (.ref b3)]))
      obtain ⟨_, _, ⟨T4, L4, k4, n4⟩, -, X4, ⟨Lc4, hQ4, l4, y4, z4⟩, st4⟩ := X3.specialBack hx (y := (⟨"java/math/BigInteger", "<init>", "(J)V"⟩ : MethodName)) rfl hown (mvT hZ (hw _ (List.mem_of_getElem? (i := 33) rfl))) (mvT hZ (hw _ (List.mem_of_getElem? (i := 34) rfl))) (mvT hZ (hw _ (List.mem_of_getElem? (i := 36) rfl))) (by decide) (backOf (W := 1) (rm_Binit l Z a0 hw [] b3 x h3 n0 O3 A3 F3_signum F3_mag g_b3 (Or.inl hc21_2)) hZ (hw _ (List.mem_of_getElem? (i := 36) rfl)) (hw _ (List.mem_of_getElem? (i := 28) rfl)) (by decide) (by decide)) (g := (mkF m 58 #[.val (.long x), .second] [(.long x), (.ref b3), (.ref b3)])) rfl (by rw [hml]; rfl) (Steps.refl _) (a := b3) (argsL := [(.long x)]) (rest := [(.ref b3)]) (lenOf pd_4 rfl) rfl (by show 2 * 0 + _ ≤ _; exact Nat.le_of_eq rfl) (hb hby d6_58) (fun _ _ => ⟨rfl, e3, (by decide : 1 + 1 ≤ _), (by decide : 6 + 2 ≤ _)⟩)
      dsimp only [Pt.U, Pt.locs, Pt.cells, Pt.slots] at X4 l4 y4 z4 st4 hQ4
      rw [l4, y4, z4] at X4
      obtain ⟨rfl, Nq4, Kq4, Bq4⟩ := hQ4
      have N4 := Fr.app N0 Nq4
      have e4 : T4.heap = T4.heap := rfl
      refine own_via st4 ?_
      have O4 := O3.keep Kq4 (allS g_b3 all0)
      have K4 := K3.trans Kq4 (allS (Or.inr sz_b3) all0)
      show own_Go p e below s _ _ (T4.setTop (mkF m 61 #[.val (.long x), .second] [(.ref b3)]))
      have hun : own_un x = (0 : Int32) := if_neg (fun q => ((Or.inl hc21_2) : (16 : Int64) < x ∨ x < (-16 : Int64)).elim (fun g => q.elim (own_big_pos g).1 (own_big_pos g).2.1) (fun g => q.elim (own_big_neg g).1 (own_big_neg g).2.2.1))
      refine own_retA X4 hx hlk (t := (.object "java/math/BigInteger")) hret rfl rfl (hb hby d6_61) ?_ (by decide) (by decide)
      exact ⟨b3, rfl, N4, by rw [e4]; exact K4, by rw [e4, hun]; exact Bq4⟩
    · refine own_by (fun tz kz => XS.ifNo X0.here hx rfl (hb hby d6_21) rfl ((if0 _ _).trans (flt (fun q => hc21_2 ((lw_gt x (16 : Int64)).mp q))).2.2.1) kz) ?_
      show own_Go p e below s _ _ (s₁.setTop (mkF m 24 #[.val (.long x), .second] []))
      obtain ⟨T5, X5, e5, st5⟩ := getS2 X0 hx hZ hown (host := "") (Or.inl (hw _ (List.mem_of_getElem? (i := 84) rfl))) Via.refl e0 (S_pos.ext O0.2) (g := (mkF m 24 #[.val (.long x), .second] [])) rfl (hb hby d6_24)
      refine own_by st5 ?_
      show own_Go p e below s _ _ (T5.setTop (mkF m 27 #[.val (.long x), .second] [(.ref pa)]))
      refine own_by (fun tz kz => XS.lloadN X5.here hx rfl (hb hby d6_27) rfl kz) ?_
      show own_Go p e below s _ _ (T5.setTop (mkF m 28 #[.val (.long x), .second] [(.long x), (.ref pa)]))
      refine own_by (fun tz kz => XS.l2i X5.here hx rfl (hb hby d6_28) rfl kz) ?_
      show own_Go p e below s _ _ (T5.setTop (mkF m 29 #[.val (.long x), .second] [(.int (x.toInt32)), (.ref pa)]))
      have sm := (own_small_pos hc13_1 hc21_2)
      have hin := inb_of (j := (x.toInt32)) T_pos.2.1 (own_inb17 sm.1 sm.2.1)
      obtain ⟨bx, hbx, hB⟩ := T_pos.2.2 _ sm.1 sm.2.1
      refine own_by (fun tz kz => X5.aaload hx (j := (x.toInt32)) (v := (.ref bx)) (by rw [e5]; exact (T_pos.1.ext O0.2).1) (State.isArrayOf_alike hZ.alike T_pos.1.2.1) rfl T_pos.1.2.2 hin hbx (g := (mkF m 29 #[.val (.long x), .second] [(.int (x.toInt32)), (.ref pa)])) rfl rfl (hb hby d6_29) _ kz) ?_
      show own_Go p e below s _ _ (T5.setTop (mkF m 30 #[.val (.long x), .second] [(.ref bx)]))
      have hun : own_un x = if x.toInt32 = (1 : Int32) then (1 : Int32) else (0 : Int32) := (own_ifc (sm.2.2.1.trans ⟨Or.inl, fun q => q.elim id (fun q => absurd q sm.2.2.2)⟩) _ _).symm
      have hsg : own_sg x = (1 : Int32) := if_pos hc13_1
      refine own_retA X5 hx hlk (t := (.object "java/math/BigInteger")) hret rfl rfl (hb hby d6_30) ?_ (by decide) (by decide)
      exact ⟨bx, rfl, N0, by rw [e5]; exact K0, by rw [e5, hun, hsg]; exact own_Big.ext hB O0.2⟩
  · refine own_by (fun tz kz => XS.ifYes X0.here hx rfl (pc0 := 13) (pc' := 31) rfl (hb hby d6_13) rfl ((if0 _ _).trans (flt (fun q => hc13_1 ((lw_gt x (0 : Int64)).mp q))).2.2.2) (by decide) (by decide) kz) ?_
    show own_Go p e below s _ _ (s₁.setTop (mkF m 31 #[.val (.long x), .second] []))
    refine own_by (fun tz kz => XS.lloadN X0.here hx rfl (hb hby d6_31) rfl kz) ?_
    show own_Go p e below s _ _ (s₁.setTop (mkF m 32 #[.val (.long x), .second] [(.long x)]))
    refine own_by (fun tz kz => XS.lconst X0.here hx rfl (hb hby d6_32) kz) ?_
    show own_Go p e below s _ _ (s₁.setTop (mkF m 33 #[.val (.long x), .second] [(.long (0 : Int64)), (.long x)]))
    refine own_by (fun tz kz => XS.lcmp X0.here hx rfl (hb hby d6_33) rfl kz) ?_
    show own_Go p e below s _ _ (s₁.setTop (mkF m 34 #[.val (.long x), .second] [(.int (lcmpW x (0 : Int64)))]))
    refine own_by (fun tz kz => XS.ifNo X0.here hx rfl (hb hby d6_34) rfl ((if0 _ _).trans (tlt ((lw_lt x (0 : Int64)).mpr (own_neg hx0 hc13_1))).2.1) kz) ?_
    show own_Go p e below s _ _ (s₁.setTop (mkF m 37 #[.val (.long x), .second] []))
    refine own_by (fun tz kz => XS.lloadN X0.here hx rfl (hb hby d6_37) rfl kz) ?_
    show own_Go p e below s _ _ (s₁.setTop (mkF m 38 #[.val (.long x), .second] [(.long x)]))
    refine own_by (fun tz kz => X0.ldc2Long hx hown (mvT hZ (hw _ (List.mem_of_getElem? (i := 72) rfl))) (g := (mkF m 38 #[.val (.long x), .second] [(.long x)])) rfl (hb hby d6_38) _ kz) ?_
    show own_Go p e below s _ _ (s₁.setTop (mkF m 41 #[.val (.long x), .second] [(.long (-16 : Int64)), (.long x)]))
    refine own_by (fun tz kz => XS.lcmp X0.here hx rfl (hb hby d6_41) rfl kz) ?_
    show own_Go p e below s _ _ (s₁.setTop (mkF m 42 #[.val (.long x), .second] [(.int (lcmpW x (-16 : Int64)))]))
    by_cases hc42_6 : x < (-16 : Int64)
    · refine own_by (fun tz kz => XS.ifYes X0.here hx rfl (pc0 := 42) (pc' := 53) rfl (hb hby d6_42) rfl ((if0 _ _).trans (tlt ((lw_lt x (-16 : Int64)).mpr hc42_6)).1) (by decide) (by decide) kz) ?_
      show own_Go p e below s _ _ (s₁.setTop (mkF m 53 #[.val (.long x), .second] []))
      obtain ⟨T7, h7, X7, e7, E7, A7, D7, -, st7⟩ := newO X0 hx hZ hown (hw _ (List.mem_of_getElem? (i := 31) rfl)) (hw _ (List.mem_of_getElem? (i := 32) rfl)) (hw _ (List.mem_of_getElem? (i := 28) rfl)) e0 (g := (mkF m 53 #[.val (.long x), .second] [])) rfl (hb hby d6_53) (by decide) (by decide)
      obtain ⟨b7, g7⟩ : ∃ z, z = h0.size := ⟨_, rfl⟩
      rw [← g7] at A7 D7 st7
      have g_b7 : n0 ≤ b7 := by rw [g7]; exact O0.1 ▸ O0.2.1
      have sz_b7 : h0.size ≤ b7 := by rw [g7]; exact K0.1
      have O7 := O0.ext E7
      have K7 := K0.ext E7
      refine own_by st7 ?_
      have F7_signum : Fld Z h7 b7 "java/math/BigInteger" "signum" "I" (.int (0 : Int32)) := D7 (Or.inr (hw _ (List.mem_of_getElem? (i := 45) rfl))) (ty := .int) (by decide)
      have F7_mag : Fld Z h7 b7 "java/math/BigInteger" "mag" "[I" .null := D7 (Or.inr (hw _ (List.mem_of_getElem? (i := 48) rfl))) (ty := (.array .int)) (by decide)
      show own_Go p e below s _ _ (T7.setTop (mkF m 56 #[.val (.long x), .second] [(.ref b7)]))
      refine own_by (fun tz kz => XS.dup X7.here hx rfl (hb hby d6_56) rfl rfl kz) ?_
      show own_Go p e below s _ _ (T7.setTop (mkF m 57 #[.val (.long x), .second] [(.ref b7), (.ref b7)]))
      refine own_by (fun tz kz => XS.lloadN X7.here hx rfl (hb hby d6_57) rfl kz) ?_
      show own_Go p e below s _ _ (T7.setTop (mkF m 58 #[.val (.long x), .second] [(.long x), (.ref b7), (.ref b7)]))
      obtain ⟨_, _, ⟨T8, L8, k8, n8⟩, -, X8, ⟨Lc8, hQ8, l8, y8, z8⟩, st8⟩ := X7.specialBack hx (y := (⟨"java/math/BigInteger", "<init>", "(J)V"⟩ : MethodName)) rfl hown (mvT hZ (hw _ (List.mem_of_getElem? (i := 33) rfl))) (mvT hZ (hw _ (List.mem_of_getElem? (i := 34) rfl))) (mvT hZ (hw _ (List.mem_of_getElem? (i := 36) rfl))) (by decide) (backOf (W := 1) (rm_Binit l Z a0 hw [] b7 x h7 n0 O7 A7 F7_signum F7_mag g_b7 (Or.inr hc42_6)) hZ (hw _ (List.mem_of_getElem? (i := 36) rfl)) (hw _ (List.mem_of_getElem? (i := 28) rfl)) (by decide) (by decide)) (g := (mkF m 58 #[.val (.long x), .second] [(.long x), (.ref b7), (.ref b7)])) rfl (by rw [hml]; rfl) (Steps.refl _) (a := b7) (argsL := [(.long x)]) (rest := [(.ref b7)]) (lenOf pd_4 rfl) rfl (by show 2 * 0 + _ ≤ _; exact Nat.le_of_eq rfl) (hb hby d6_58) (fun _ _ => ⟨rfl, e7, (by decide : 1 + 1 ≤ _), (by decide : 6 + 2 ≤ _)⟩)
      dsimp only [Pt.U, Pt.locs, Pt.cells, Pt.slots] at X8 l8 y8 z8 st8 hQ8
      rw [l8, y8, z8] at X8
      obtain ⟨rfl, Nq8, Kq8, Bq8⟩ := hQ8
      have N8 := Fr.app N0 Nq8
      have e8 : T8.heap = T8.heap := rfl
      refine own_via st8 ?_
      have O8 := O7.keep Kq8 (allS g_b7 all0)
      have K8 := K7.trans Kq8 (allS (Or.inr sz_b7) all0)
      show own_Go p e below s _ _ (T8.setTop (mkF m 61 #[.val (.long x), .second] [(.ref b7)]))
      have hun : own_un x = (0 : Int32) := if_neg (fun q => ((Or.inr hc42_6) : (16 : Int64) < x ∨ x < (-16 : Int64)).elim (fun g => q.elim (own_big_pos g).1 (own_big_pos g).2.1) (fun g => q.elim (own_big_neg g).1 (own_big_neg g).2.2.1))
      refine own_retA X8 hx hlk (t := (.object "java/math/BigInteger")) hret rfl rfl (hb hby d6_61) ?_ (by decide) (by decide)
      exact ⟨b7, rfl, N8, by rw [e8]; exact K8, by rw [e8, hun]; exact Bq8⟩
    · refine own_by (fun tz kz => XS.ifNo X0.here hx rfl (hb hby d6_42) rfl ((if0 _ _).trans (flt (fun q => hc42_6 ((lw_lt x (-16 : Int64)).mp q))).1) kz) ?_
      show own_Go p e below s _ _ (s₁.setTop (mkF m 45 #[.val (.long x), .second] []))
      obtain ⟨T9, X9, e9, st9⟩ := getS2 X0 hx hZ hown (host := "") (Or.inl (hw _ (List.mem_of_getElem? (i := 86) rfl))) Via.refl e0 (S_neg.ext O0.2) (g := (mkF m 45 #[.val (.long x), .second] [])) rfl (hb hby d6_45)
      refine own_by st9 ?_
      show own_Go p e below s _ _ (T9.setTop (mkF m 48 #[.val (.long x), .second] [(.ref na)]))
      refine own_by (fun tz kz => XS.lloadN X9.here hx rfl (hb hby d6_48) rfl kz) ?_
      show own_Go p e below s _ _ (T9.setTop (mkF m 49 #[.val (.long x), .second] [(.long x), (.ref na)]))
      refine own_by (fun tz kz => XS.lneg X9.here hx rfl (hb hby d6_49) rfl kz) ?_
      show own_Go p e below s _ _ (T9.setTop (mkF m 50 #[.val (.long x), .second] [(.long (-x)), (.ref na)]))
      refine own_by (fun tz kz => XS.l2i X9.here hx rfl (hb hby d6_50) rfl kz) ?_
      show own_Go p e below s _ _ (T9.setTop (mkF m 51 #[.val (.long x), .second] [(.int ((-x).toInt32)), (.ref na)]))
      have sm := (own_small_neg (own_neg hx0 hc13_1) hc42_6)
      have hin := inb_of (j := ((-x).toInt32)) T_neg.2.1 (own_inb17 sm.1 sm.2.1)
      obtain ⟨bx, hbx, hB⟩ := T_neg.2.2 _ sm.1 sm.2.1
      refine own_by (fun tz kz => X9.aaload hx (j := ((-x).toInt32)) (v := (.ref bx)) (by rw [e9]; exact (T_neg.1.ext O0.2).1) (State.isArrayOf_alike hZ.alike T_neg.1.2.1) rfl T_neg.1.2.2 hin hbx (g := (mkF m 51 #[.val (.long x), .second] [(.int ((-x).toInt32)), (.ref na)])) rfl rfl (hb hby d6_51) _ kz) ?_
      show own_Go p e below s _ _ (T9.setTop (mkF m 52 #[.val (.long x), .second] [(.ref bx)]))
      have hun : own_un x = if (-x).toInt32 = (1 : Int32) then (1 : Int32) else (0 : Int32) := (own_ifc (sm.2.2.1.trans ⟨Or.inr, fun q => q.elim (fun q => absurd q sm.2.2.2.1) id⟩) _ _).symm
      have hsg : own_sg x = (-1 : Int32) := if_neg hc13_1
      refine own_retA X9 hx hlk (t := (.object "java/math/BigInteger")) hret rfl rfl (hb hby d6_52) ?_ (by decide) (by decide)
      exact ⟨bx, rfl, N0, by rw [e9]; exact K0, by rw [e9, hun, hsg]; exact own_Big.ext hB O0.2⟩
def Q_rm_signum (Z : State) (a : Addr) (r : Int32) (h0 : Heap) (n0 : Nat) (v : Option Value) (h : Heap) (L : List Loc) : Prop := v = some (.int r) ∧ Fr n0 L ∧ h = h0
set_option maxRecDepth 65536 in
set_option maxHeartbeats 40000000 in
theorem rm_signum (l : Launch) (Z : State) (a0 : Array Value) (hw : ∀ d ∈ tables_1, d.before a0 Z = true) (ws : List Jvm.Cond) (a : Addr) (r : Int32) (h0 : Heap) (n0 : Nat) (F : Fld Z h0 a "java/math/BigInteger" "signum" "I" (.int r)) :
    MetFree l (⟨"java/math/BigInteger", "signum", "()I"⟩ : MethodName) (head1 (Jvm.Cond.code (⟨"java/math/BigInteger", "signum", "()I"⟩ : MethodName) jdk_2097_method_81_code 1 (some .int) :: ws) ({ frames := 0, cells := 0, slots := 0, locals := 0 } : Room)) (fun ar U => ar = #[(.ref a)] ∧ Z.Warmed39 U.vm ∧ U.heap = h0) (fun _ _ _ _ _ => True) (fun _ U o U' => ∃ v L, o = .returned v ∧ Q_rm_signum Z a r h0 n0 v U'.heap L ∧ FrameEnd U o U' L ({ frames := 0, cells := 0, slots := 0, locals := 0 } : Room).cells ({ frames := 0, cells := 0, slots := 0, locals := 0 } : Room).slots) := by
  refine own_enter (Q := (Q_rm_signum Z a r h0 n0)) pl_12 ?_
  intro p e s m below meth c s₁ X0 hx hZ hby hml hown hnm hret hlk e0
  have N0 := Fr.nil n0
  refine own_by (fun tz kz => castTop (g' := (mkF m 0 #[.val (.ref a)] [])) (by first | (simp [entryFrame, mkF, argsToLocals, Value.category]; done) | rfl) kz) ?_
  show own_Go p e below s _ _ (s₁.setTop (mkF m 0 #[.val (.ref a)] []))
  refine own_by (fun tz kz => XS.aloadN X0.here hx rfl (hb hby d12_0) rfl rfl kz) ?_
  show own_Go p e below s _ _ (s₁.setTop (mkF m 1 #[.val (.ref a)] [(.ref a)]))
  obtain ⟨T1, X1, e1, st1⟩ := getF X0 hx hZ hown (host := "") (Or.inl (hw _ (List.mem_of_getElem? (i := 44) rfl))) Via.refl e0 F (g := (mkF m 1 #[.val (.ref a)] [(.ref a)])) rfl rfl (hb hby d12_1)
  refine own_by st1 ?_
  show own_Go p e below s _ _ (T1.setTop (mkF m 4 #[.val (.ref a)] [(.int r)]))
  refine own_retI X1 hx hlk (t := .int) hret (by simp) rfl (hb hby d12_4) ?_ (by decide) (by decide)
  exact ⟨rfl, N0, e1⟩
def Q_rm_negate (Z : State) (b mg : Addr) (k : ClassId) (n sg u : Int32) (vs : List Value) (h0 : Heap) (n0 : Nat) (v : Option Value) (h : Heap) (L : List Loc) : Prop := ∃ c, v = some (.ref c) ∧ Fr n0 L ∧ Keep h0 h [] ∧ own_Big Z h c (-sg) u
set_option maxRecDepth 65536 in
set_option maxHeartbeats 40000000 in
theorem rm_negate (l : Launch) (Z : State) (a0 : Array Value) (hw : ∀ d ∈ tables_1, d.before a0 Z = true) (ws : List Jvm.Cond) (b mg : Addr) (k : ClassId) (n sg u : Int32) (vs : List Value) (h0 : Heap) (n0 : Nat) (O0 : Old Z n0 h0) (E_b : Exa Z h0 b "java/math/BigInteger") (Fs_b : Fld Z h0 b "java/math/BigInteger" "signum" "I" (.int sg)) (Fm_b : Fld Z h0 b "java/math/BigInteger" "mag" "[I" (.ref mg)) (V_b : Arv Z h0 mg k .int n vs (.int (0 : Int32))) (M : own_Mag n vs u) :
    MetFree l (⟨"java/math/BigInteger", "negate", "()Ljava/math/BigInteger;"⟩ : MethodName) (head1 (Jvm.Cond.code (⟨"java/math/BigInteger", "negate", "()Ljava/math/BigInteger;"⟩ : MethodName) jdk_2097_method_80_code 1 (some (.object "java/math/BigInteger")) :: ws) ({ frames := 3, cells := 1, slots := 6, locals := 44 } : Room)) (fun ar U => ar = #[(.ref b)] ∧ Z.Warmed39 U.vm ∧ U.heap = h0) (fun _ _ _ _ _ => True) (fun _ U o U' => ∃ v L, o = .returned v ∧ Q_rm_negate Z b mg k n sg u vs h0 n0 v U'.heap L ∧ FrameEnd U o U' L ({ frames := 3, cells := 1, slots := 6, locals := 44 } : Room).cells ({ frames := 3, cells := 1, slots := 6, locals := 44 } : Room).slots) := by
  refine own_enter (Q := (Q_rm_negate Z b mg k n sg u vs h0 n0)) pl_13 ?_
  intro p e s m below meth c s₁ X0 hx hZ hby hml hown hnm hret hlk e0
  have N0 := Fr.nil n0
  refine own_by (fun tz kz => castTop (g' := (mkF m 0 #[.val (.ref b)] [])) (by first | (simp [entryFrame, mkF, argsToLocals, Value.category]; done) | rfl) kz) ?_
  have K0 := Keep.refl h0 []
  show own_Go p e below s _ _ (s₁.setTop (mkF m 0 #[.val (.ref b)] []))
  obtain ⟨T1, h1, X1, e1, E1, A1, D1, -, st1⟩ := newO X0 hx hZ hown (hw _ (List.mem_of_getElem? (i := 31) rfl)) (hw _ (List.mem_of_getElem? (i := 32) rfl)) (hw _ (List.mem_of_getElem? (i := 28) rfl)) e0 (g := (mkF m 0 #[.val (.ref b)] [])) rfl (hb hby d13_0) (by decide) (by decide)
  obtain ⟨b1, g1⟩ : ∃ z, z = h0.size := ⟨_, rfl⟩
  have ne_b_b1 : b ≠ b1 := by rw [g1]; exact Nat.ne_of_lt E_b.lt
  have ne_mg_b1 : mg ≠ b1 := by rw [g1]; exact Nat.ne_of_lt (Arv.lt V_b)
  rw [← g1] at A1 D1 st1
  have g_b1 : n0 ≤ b1 := by rw [g1]; exact O0.1 ▸ O0.2.1
  have sz_b1 : h0.size ≤ b1 := by rw [g1]; exact K0.1
  have O1 := O0.ext E1
  have K1 := K0.ext E1
  refine own_by st1 ?_
  have F1_signum : Fld Z h1 b1 "java/math/BigInteger" "signum" "I" (.int (0 : Int32)) := D1 (Or.inr (hw _ (List.mem_of_getElem? (i := 45) rfl))) (ty := .int) (by decide)
  have F1_mag : Fld Z h1 b1 "java/math/BigInteger" "mag" "[I" .null := D1 (Or.inr (hw _ (List.mem_of_getElem? (i := 48) rfl))) (ty := (.array .int)) (by decide)
  show own_Go p e below s _ _ (T1.setTop (mkF m 3 #[.val (.ref b)] [(.ref b1)]))
  refine own_by (fun tz kz => XS.dup X1.here hx rfl (hb hby d13_3) rfl rfl kz) ?_
  show own_Go p e below s _ _ (T1.setTop (mkF m 4 #[.val (.ref b)] [(.ref b1), (.ref b1)]))
  refine own_by (fun tz kz => XS.aloadN X1.here hx rfl (hb hby d13_4) rfl rfl kz) ?_
  show own_Go p e below s _ _ (T1.setTop (mkF m 5 #[.val (.ref b)] [(.ref b), (.ref b1), (.ref b1)]))
  have f2 := (Fm_b.ext E1)
  obtain ⟨T3, X3, e3, st3⟩ := getF X1 hx hZ hown (host := "") (Or.inl (hw _ (List.mem_of_getElem? (i := 47) rfl))) Via.refl e1 f2 (g := (mkF m 5 #[.val (.ref b)] [(.ref b), (.ref b1), (.ref b1)])) rfl rfl (hb hby d13_5)
  refine own_by st3 ?_
  show own_Go p e below s _ _ (T3.setTop (mkF m 8 #[.val (.ref b)] [(.ref mg), (.ref b1), (.ref b1)]))
  refine own_by (fun tz kz => XS.aloadN X3.here hx rfl (hb hby d13_8) rfl rfl kz) ?_
  show own_Go p e below s _ _ (T3.setTop (mkF m 9 #[.val (.ref b)] [(.ref b), (.ref mg), (.ref b1), (.ref b1)]))
  have f4 := (Fs_b.ext E1)
  obtain ⟨T5, X5, e5, st5⟩ := getF X3 hx hZ hown (host := "") (Or.inl (hw _ (List.mem_of_getElem? (i := 44) rfl))) Via.refl e3 f4 (g := (mkF m 9 #[.val (.ref b)] [(.ref b), (.ref mg), (.ref b1), (.ref b1)])) rfl rfl (hb hby d13_9)
  refine own_by st5 ?_
  show own_Go p e below s _ _ (T5.setTop (mkF m 12 #[.val (.ref b)] [(.int sg), (.ref mg), (.ref b1), (.ref b1)]))
  refine own_by (fun tz kz => XS.ineg X5.here hx rfl (hb hby d13_12) rfl kz) ?_
  show own_Go p e below s _ _ (T5.setTop (mkF m 13 #[.val (.ref b)] [(.int (-sg)), (.ref mg), (.ref b1), (.ref b1)]))
  have f6 := (Arv.ext V_b E1)
  obtain ⟨_, _, ⟨T7, L7, k7, n7⟩, -, X7, ⟨Lc7, hQ7, l7, y7, z7⟩, st7⟩ := X5.specialBack hx (y := (⟨"java/math/BigInteger", "<init>", "([II)V"⟩ : MethodName)) rfl hown (mvT hZ (hw _ (List.mem_of_getElem? (i := 78) rfl))) (mvT hZ (hw _ (List.mem_of_getElem? (i := 79) rfl))) (mvT hZ (hw _ (List.mem_of_getElem? (i := 80) rfl))) (by decide) (backOf (W := 1) (rm_Binit2 l Z a0 hw [] b1 mg k n (-sg) u vs h1 n0 O1 A1 F1_signum F1_mag g_b1 f6 M ne_mg_b1) hZ (hw _ (List.mem_of_getElem? (i := 80) rfl)) (hw _ (List.mem_of_getElem? (i := 28) rfl)) (by decide) (by decide)) (g := (mkF m 13 #[.val (.ref b)] [(.int (-sg)), (.ref mg), (.ref b1), (.ref b1)])) rfl (by rw [hml]; rfl) (Steps.refl _) (a := b1) (argsL := [(.ref mg), (.int (-sg))]) (rest := [(.ref b1)]) (lenOf pd_9 rfl) rfl (by show 2 * 0 + _ ≤ _; exact Nat.le_of_eq rfl) (hb hby d13_13) (fun _ _ => ⟨rfl, e5, (by decide : 1 + 0 ≤ _), (by decide : 6 + 0 ≤ _)⟩)
  dsimp only [Pt.U, Pt.locs, Pt.cells, Pt.slots] at X7 l7 y7 z7 st7 hQ7
  rw [l7, y7, z7] at X7
  obtain ⟨rfl, Nq7, Kq7, Bq7⟩ := hQ7
  have N7 := Fr.app N0 Nq7
  have e7 : T7.heap = T7.heap := rfl
  refine own_via st7 ?_
  have O7 := O1.keep Kq7 (allS g_b1 all0)
  have K7 := K1.trans Kq7 (allS (Or.inr sz_b1) all0)
  show own_Go p e below s _ _ (T7.setTop (mkF m 16 #[.val (.ref b)] [(.ref b1)]))
  refine own_retA X7 hx hlk (t := (.object "java/math/BigInteger")) hret rfl rfl (hb hby d13_16) ?_ (by decide) (by decide)
  exact ⟨b1, rfl, N7, by rw [e7]; exact K7, by rw [e7]; exact Bq7⟩
def Q_rm_abs (Z : State) (b : Addr) (sg u : Int32) (h0 : Heap) (n0 : Nat) (v : Option Value) (h : Heap) (L : List Loc) : Prop := ∃ c, v = some (.ref c) ∧ Fr n0 L ∧ Keep h0 h [] ∧ own_Big Z h c (1 : Int32) u
set_option maxRecDepth 65536 in
set_option maxHeartbeats 40000000 in
theorem rm_abs (l : Launch) (Z : State) (a0 : Array Value) (hw : ∀ d ∈ tables_1, d.before a0 Z = true) (ws : List Jvm.Cond) (b : Addr) (sg u : Int32) (h0 : Heap) (n0 : Nat) (O0 : Old Z n0 h0) (B_b : own_Big Z h0 b sg u) (hsg : sg = (1 : Int32) ∨ sg = (-1 : Int32)) :
    MetFree l (⟨"java/math/BigInteger", "abs", "()Ljava/math/BigInteger;"⟩ : MethodName) (head1 (Jvm.Cond.code (⟨"java/math/BigInteger", "abs", "()Ljava/math/BigInteger;"⟩ : MethodName) jdk_2097_method_79_code 1 (some (.object "java/math/BigInteger")) :: ws) ({ frames := 4, cells := 1, slots := 6, locals := 56 } : Room)) (fun ar U => ar = #[(.ref b)] ∧ Z.Warmed39 U.vm ∧ U.heap = h0) (fun _ _ _ _ _ => True) (fun _ U o U' => ∃ v L, o = .returned v ∧ Q_rm_abs Z b sg u h0 n0 v U'.heap L ∧ FrameEnd U o U' L ({ frames := 4, cells := 1, slots := 6, locals := 56 } : Room).cells ({ frames := 4, cells := 1, slots := 6, locals := 56 } : Room).slots) := by
  refine own_enter (Q := (Q_rm_abs Z b sg u h0 n0)) pl_10 ?_
  intro p e s m below meth c s₁ X0 hx hZ hby hml hown hnm hret hlk e0
  have N0 := Fr.nil n0
  refine own_by (fun tz kz => castTop (g' := (mkF m 0 #[.val (.ref b)] [])) (by first | (simp [entryFrame, mkF, argsToLocals, Value.category]; done) | rfl) kz) ?_
  have K0 := Keep.refl h0 []
  obtain ⟨mg, k, n, vs, E_b, Fs_b, Fm_b, V_b, M⟩ := B_b
  rcases hsg with rfl | rfl
  · show own_Go p e below s _ _ (s₁.setTop (mkF m 0 #[.val (.ref b)] []))
    refine own_by (fun tz kz => XS.aloadN X0.here hx rfl (hb hby d10_0) rfl rfl kz) ?_
    show own_Go p e below s _ _ (s₁.setTop (mkF m 1 #[.val (.ref b)] [(.ref b)]))
    obtain ⟨T1, X1, e1, st1⟩ := getF X0 hx hZ hown (host := "") (Or.inl (hw _ (List.mem_of_getElem? (i := 44) rfl))) Via.refl e0 Fs_b (g := (mkF m 1 #[.val (.ref b)] [(.ref b)])) rfl rfl (hb hby d10_1)
    refine own_by st1 ?_
    show own_Go p e below s _ _ (T1.setTop (mkF m 4 #[.val (.ref b)] [(.int (1 : Int32))]))
    refine own_by (fun tz kz => XS.ifNo X1.here hx rfl (hb hby d10_4) rfl ((if0 _ _).trans (flt (by decide : ¬ (1 : Int32) < (0 : Int32))).1) kz) ?_
    show own_Go p e below s _ _ (T1.setTop (mkF m 7 #[.val (.ref b)] []))
    refine own_by (fun tz kz => XS.aloadN X1.here hx rfl (hb hby d10_7) rfl rfl kz) ?_
    show own_Go p e below s _ _ (T1.setTop (mkF m 8 #[.val (.ref b)] [(.ref b)]))
    refine own_by (fun tz kz => XS.goto X1.here hx rfl (pc0 := 8) (pc' := 15) rfl (hb hby d10_8) (by decide) (by decide) kz) ?_
    show own_Go p e below s _ _ (T1.setTop (mkF m 15 #[.val (.ref b)] [(.ref b)]))
    refine own_retA X1 hx hlk (t := (.object "java/math/BigInteger")) hret rfl rfl (hb hby d10_15) ?_ (by decide) (by decide)
    exact ⟨b, rfl, N0, by rw [e1]; exact K0, by rw [e1]; exact ⟨mg, k, n, vs, E_b, Fs_b, Fm_b, V_b, M⟩⟩
  · show own_Go p e below s _ _ (s₁.setTop (mkF m 0 #[.val (.ref b)] []))
    refine own_by (fun tz kz => XS.aloadN X0.here hx rfl (hb hby d10_0) rfl rfl kz) ?_
    show own_Go p e below s _ _ (s₁.setTop (mkF m 1 #[.val (.ref b)] [(.ref b)]))
    obtain ⟨T2, X2, e2, st2⟩ := getF X0 hx hZ hown (host := "") (Or.inl (hw _ (List.mem_of_getElem? (i := 44) rfl))) Via.refl e0 Fs_b (g := (mkF m 1 #[.val (.ref b)] [(.ref b)])) rfl rfl (hb hby d10_1)
    refine own_by st2 ?_
    show own_Go p e below s _ _ (T2.setTop (mkF m 4 #[.val (.ref b)] [(.int (-1 : Int32))]))
    refine own_by (fun tz kz => XS.ifYes X2.here hx rfl (pc0 := 4) (pc' := 11) rfl (hb hby d10_4) rfl ((if0 _ _).trans (tlt (by decide : (-1 : Int32) < (0 : Int32))).1) (by decide) (by decide) kz) ?_
    show own_Go p e below s _ _ (T2.setTop (mkF m 11 #[.val (.ref b)] []))
    refine own_by (fun tz kz => XS.aloadN X2.here hx rfl (hb hby d10_11) rfl rfl kz) ?_
    show own_Go p e below s _ _ (T2.setTop (mkF m 12 #[.val (.ref b)] [(.ref b)]))
    obtain ⟨cq3, kq3, q3a, q3b, q3c⟩ := isOf hZ e2 E_b
    obtain ⟨_, _, ⟨T3, L3, k3, n3⟩, -, X3, ⟨Lc3, hQ3, l3, y3, z3⟩, st3⟩ := X2.virtualBack hx (y := (⟨"java/math/BigInteger", "negate", "()Ljava/math/BigInteger;"⟩ : MethodName)) (z := (⟨"java/math/BigInteger", "negate", "()Ljava/math/BigInteger;"⟩ : MethodName)) hown (mvT hZ (hw _ (List.mem_of_getElem? (i := 73) rfl))) (mvT hZ (hw _ (List.mem_of_getElem? (i := 74) rfl))) (notFace_of_selects (args := #[]) (mvT hZ (hw _ (List.mem_of_getElem? (i := 76) rfl)))) (mvT hZ (hw _ (List.mem_of_getElem? (i := 76) rfl))) (mvT hZ (hw _ (List.mem_of_getElem? (i := 75) rfl))) (by decide) (backOf (W := 0) (rm_negate l Z a0 hw [] b mg k n (-1 : Int32) u vs h0 n0 O0 E_b Fs_b Fm_b V_b M) hZ (hw _ (List.mem_of_getElem? (i := 77) rfl)) (hw _ (List.mem_of_getElem? (i := 28) rfl)) (by decide) (by decide)) q3a q3c (g := (mkF m 12 #[.val (.ref b)] [(.ref b)])) rfl (by rw [hml]; rfl) (Steps.refl _) (argsL := []) (rest := []) (lenOf pd_6 rfl) rfl (by show 2 * 0 + _ ≤ _; exact Nat.le_of_eq rfl) (hb hby d10_12) (fun _ _ => ⟨rfl, e2, (by decide : 0 + 1 ≤ _), (by decide : 0 + 6 ≤ _)⟩)
    dsimp only [Pt.U, Pt.locs, Pt.cells, Pt.slots] at X3 l3 y3 z3 st3 hQ3
    rw [l3, y3, z3] at X3
    obtain ⟨c3, rfl, Nq3, Kq3, Bq3⟩ := hQ3
    have N3 := Fr.app N0 Nq3
    have e3 : T3.heap = T3.heap := rfl
    refine own_via st3 ?_
    have O3 := O0.keep Kq3 all0
    have K3 := K0.trans Kq3 all0
    show own_Go p e below s _ _ (T3.setTop (mkF m 15 #[.val (.ref b)] [(.ref c3)]))
    refine own_retA X3 hx hlk (t := (.object "java/math/BigInteger")) hret rfl rfl (hb hby d10_15) ?_ (by decide) (by decide)
    exact ⟨c3, rfl, N3, by rw [e3]; exact K3, by rw [e3]; exact Bq3⟩
def Q_rm_eqOne (Z : State) (a one om : Addr) (ko : ClassId) (u : Int32) (h0 : Heap) (n0 : Nat) (v : Option Value) (h : Heap) (L : List Loc) : Prop := v = some (.int u) ∧ Fr n0 L ∧ h = h0
set_option maxRecDepth 65536 in
set_option maxHeartbeats 40000000 in
theorem rm_eqOne (l : Launch) (Z : State) (a0 : Array Value) (hw : ∀ d ∈ tables_1, d.before a0 Z = true) (ws : List Jvm.Cond) (a one om : Addr) (ko : ClassId) (u : Int32) (h0 : Heap) (n0 : Nat) (O0 : Old Z n0 h0) (S_ONE : Sta Z Z.heap "java/math/BigInteger" "ONE" "Ljava/math/BigInteger;" (.ref one)) (E_one : Exa Z Z.heap one "java/math/BigInteger") (Fs_one : Fld Z Z.heap one "java/math/BigInteger" "signum" "I" (.int (1 : Int32))) (Fm_one : Fld Z Z.heap one "java/math/BigInteger" "mag" "[I" (.ref om)) (V_one : Arv Z Z.heap om ko .int (1 : Int32) [.int (1 : Int32)] (.int (0 : Int32))) (B_a : own_Big Z h0 a (1 : Int32) u) :
    MetFree l (⟨"java/math/BigInteger", "equals", "(Ljava/lang/Object;)Z"⟩ : MethodName) (head1 (Jvm.Cond.code (⟨"java/math/BigInteger", "equals", "(Ljava/lang/Object;)Z"⟩ : MethodName) jdk_2097_method_124_code 7 (some .boolean) :: ws) ({ frames := 0, cells := 0, slots := 0, locals := 0 } : Room)) (fun ar U => ar = #[(.ref a), (.ref one)] ∧ Z.Warmed39 U.vm ∧ U.heap = h0) (fun _ _ _ _ _ => True) (fun _ U o U' => ∃ v L, o = .returned v ∧ Q_rm_eqOne Z a one om ko u h0 n0 v U'.heap L ∧ FrameEnd U o U' L ({ frames := 0, cells := 0, slots := 0, locals := 0 } : Room).cells ({ frames := 0, cells := 0, slots := 0, locals := 0 } : Room).slots) := by
  refine own_enter (Q := (Q_rm_eqOne Z a one om ko u h0 n0)) pl_11 ?_
  intro p e s m below meth c s₁ X0 hx hZ hby hml hown hnm hret hlk e0
  have N0 := Fr.nil n0
  refine own_by (fun tz kz => castTop (g' := (mkF m 0 #[.val (.ref a), .val (.ref one), .unset, .unset, .unset, .unset, .unset] [])) (by first | (simp [entryFrame, mkF, argsToLocals, Value.category]; done) | rfl) kz) ?_
  obtain ⟨mg, k, n, vs, E_a, Fs_a, Fm_a, V_a, M⟩ := B_a
  have M' := M
  rcases M with ⟨rfl, m0, rfl, hu⟩ | ⟨rfl, m0, m1, rfl, hu⟩
  · show own_Go p e below s _ _ (s₁.setTop (mkF m 0 #[.val (.ref a), .val (.ref one), .unset, .unset, .unset, .unset, .unset] []))
    refine own_by (fun tz kz => XS.aloadN X0.here hx rfl (hb hby d11_0) rfl rfl kz) ?_
    show own_Go p e below s _ _ (s₁.setTop (mkF m 1 #[.val (.ref a), .val (.ref one), .unset, .unset, .unset, .unset, .unset] [(.ref one)]))
    refine own_by (fun tz kz => XS.aloadN X0.here hx rfl (hb hby d11_1) rfl rfl kz) ?_
    show own_Go p e below s _ _ (s₁.setTop (mkF m 2 #[.val (.ref a), .val (.ref one), .unset, .unset, .unset, .unset, .unset] [(.ref a), (.ref one)]))
    by_cases hc2_1 : one = a
    · refine own_by (fun tz kz => Jvm.RoadKit.acmp (g := (mkF m 2 #[.val (.ref a), .val (.ref one), .unset, .unset, .unset, .unset, .unset] [(.ref a), (.ref one)])) X0 hx rfl rfl rfl (pc0 := 2) (pc' := 5) (same := true) rfl (hb hby d11_2) rfl (decide_eq_true (congrArg Value.ref hc2_1)) (by decide) (by decide) kz) ?_
      show own_Go p e below s _ _ (s₁.setTop (mkF m 5 #[.val (.ref a), .val (.ref one), .unset, .unset, .unset, .unset, .unset] []))
      refine own_by (fun tz kz => XS.iconst X0.here hx rfl (hb hby d11_5) kz) ?_
      show own_Go p e below s _ _ (s₁.setTop (mkF m 6 #[.val (.ref a), .val (.ref one), .unset, .unset, .unset, .unset, .unset] [(.int (1 : Int32))]))
      refine own_retI X0 hx hlk (t := .boolean) hret (by simp) rfl (hb hby d11_6) ?_ (by decide) (by decide)
      exact ⟨congrArg (fun z => some (Value.int z)) (own_one Fm_a (hc2_1 ▸ (Fm_one.ext O0.2)) V_a (Arv.ext V_one O0.2) M').symm, N0, e0⟩
    · refine own_by (fun tz kz => Jvm.RoadKit.acmp (g := (mkF m 2 #[.val (.ref a), .val (.ref one), .unset, .unset, .unset, .unset, .unset] [(.ref a), (.ref one)])) X0 hx rfl rfl rfl (pc0 := 2) (pc' := 7) (same := false) rfl (hb hby d11_2) rfl (decide_eq_false fun q => hc2_1 (Value.ref.inj q)) (by decide) (by decide) kz) ?_
      show own_Go p e below s _ _ (s₁.setTop (mkF m 7 #[.val (.ref a), .val (.ref one), .unset, .unset, .unset, .unset, .unset] []))
      refine own_by (fun tz kz => XS.aloadN X0.here hx rfl (hb hby d11_7) rfl rfl kz) ?_
      show own_Go p e below s _ _ (s₁.setTop (mkF m 8 #[.val (.ref a), .val (.ref one), .unset, .unset, .unset, .unset, .unset] [(.ref one)]))
      obtain ⟨T2, X2, e2, st2⟩ := instY X0 hx hZ hown (hw _ (List.mem_of_getElem? (i := 31) rfl)) e0 (Ins.self (E_one.ext O0.2)) (g := (mkF m 8 #[.val (.ref a), .val (.ref one), .unset, .unset, .unset, .unset, .unset] [(.ref one)])) rfl rfl (hb hby d11_8)
      refine own_by st2 ?_
      show own_Go p e below s _ _ (T2.setTop (mkF m 11 #[.val (.ref a), .val (.ref one), .unset, .unset, .unset, .unset, .unset] [(.int (1 : Int32))]))
      refine own_by (fun tz kz => XS.ifNo X2.here hx rfl (hb hby d11_11) rfl ((if0 _ _).trans (feq (by decide : ¬ (1 : Int32) = (0 : Int32))).1) kz) ?_
      show own_Go p e below s _ _ (T2.setTop (mkF m 14 #[.val (.ref a), .val (.ref one), .unset, .unset, .unset, .unset, .unset] []))
      refine own_by (fun tz kz => XS.aloadN X2.here hx rfl (hb hby d11_14) rfl rfl kz) ?_
      show own_Go p e below s _ _ (T2.setTop (mkF m 15 #[.val (.ref a), .val (.ref one), .unset, .unset, .unset, .unset, .unset] [(.ref one)]))
      obtain ⟨T3, X3, e3, st3⟩ := castY X2 hx hZ hown (hw _ (List.mem_of_getElem? (i := 31) rfl)) e2 (Ins.self (E_one.ext O0.2)) (g := (mkF m 15 #[.val (.ref a), .val (.ref one), .unset, .unset, .unset, .unset, .unset] [(.ref one)])) rfl rfl (hb hby d11_15)
      refine own_by st3 ?_
      show own_Go p e below s _ _ (T3.setTop (mkF m 18 #[.val (.ref a), .val (.ref one), .unset, .unset, .unset, .unset, .unset] [(.ref one)]))
      refine own_by (fun tz kz => XS.astoreN X3.here hx rfl (hb hby d11_18) rfl rfl (l' := #[.val (.ref a), .val (.ref one), .val (.ref one), .unset, .unset, .unset, .unset]) rfl kz) ?_
      show own_Go p e below s _ _ (T3.setTop (mkF m 19 #[.val (.ref a), .val (.ref one), .val (.ref one), .unset, .unset, .unset, .unset] []))
      refine own_by (fun tz kz => XS.goto X3.here hx rfl (pc0 := 19) (pc' := 24) rfl (hb hby d11_19) (by decide) (by decide) kz) ?_
      show own_Go p e below s _ _ (T3.setTop (mkF m 24 #[.val (.ref a), .val (.ref one), .val (.ref one), .unset, .unset, .unset, .unset] []))
      refine own_by (fun tz kz => XS.aloadN X3.here hx rfl (hb hby d11_24) rfl rfl kz) ?_
      show own_Go p e below s _ _ (T3.setTop (mkF m 25 #[.val (.ref a), .val (.ref one), .val (.ref one), .unset, .unset, .unset, .unset] [(.ref one)]))
      obtain ⟨T4, X4, e4, st4⟩ := getF X3 hx hZ hown (host := "") (Or.inl (hw _ (List.mem_of_getElem? (i := 44) rfl))) Via.refl e3 (Fs_one.ext O0.2) (g := (mkF m 25 #[.val (.ref a), .val (.ref one), .val (.ref one), .unset, .unset, .unset, .unset] [(.ref one)])) rfl rfl (hb hby d11_25)
      refine own_by st4 ?_
      show own_Go p e below s _ _ (T4.setTop (mkF m 28 #[.val (.ref a), .val (.ref one), .val (.ref one), .unset, .unset, .unset, .unset] [(.int (1 : Int32))]))
      refine own_by (fun tz kz => XS.aloadN X4.here hx rfl (hb hby d11_28) rfl rfl kz) ?_
      show own_Go p e below s _ _ (T4.setTop (mkF m 29 #[.val (.ref a), .val (.ref one), .val (.ref one), .unset, .unset, .unset, .unset] [(.ref a), (.int (1 : Int32))]))
      obtain ⟨T5, X5, e5, st5⟩ := getF X4 hx hZ hown (host := "") (Or.inl (hw _ (List.mem_of_getElem? (i := 44) rfl))) Via.refl e4 Fs_a (g := (mkF m 29 #[.val (.ref a), .val (.ref one), .val (.ref one), .unset, .unset, .unset, .unset] [(.ref a), (.int (1 : Int32))])) rfl rfl (hb hby d11_29)
      refine own_by st5 ?_
      show own_Go p e below s _ _ (T5.setTop (mkF m 32 #[.val (.ref a), .val (.ref one), .val (.ref one), .unset, .unset, .unset, .unset] [(.int (1 : Int32)), (.int (1 : Int32))]))
      refine own_by (fun tz kz => XS.icmpYes X5.here hx rfl (pc0 := 32) (pc' := 37) rfl (hb hby d11_32) rfl (teq (by decide : (1 : Int32) = (1 : Int32))).1 (by decide) (by decide) kz) ?_
      show own_Go p e below s _ _ (T5.setTop (mkF m 37 #[.val (.ref a), .val (.ref one), .val (.ref one), .unset, .unset, .unset, .unset] []))
      refine own_by (fun tz kz => XS.aloadN X5.here hx rfl (hb hby d11_37) rfl rfl kz) ?_
      show own_Go p e below s _ _ (T5.setTop (mkF m 38 #[.val (.ref a), .val (.ref one), .val (.ref one), .unset, .unset, .unset, .unset] [(.ref a)]))
      obtain ⟨T6, X6, e6, st6⟩ := getF X5 hx hZ hown (host := "") (Or.inl (hw _ (List.mem_of_getElem? (i := 47) rfl))) Via.refl e5 Fm_a (g := (mkF m 38 #[.val (.ref a), .val (.ref one), .val (.ref one), .unset, .unset, .unset, .unset] [(.ref a)])) rfl rfl (hb hby d11_38)
      refine own_by st6 ?_
      show own_Go p e below s _ _ (T6.setTop (mkF m 41 #[.val (.ref a), .val (.ref one), .val (.ref one), .unset, .unset, .unset, .unset] [(.ref mg)]))
      refine own_by (fun tz kz => XS.astoreN X6.here hx rfl (hb hby d11_41) rfl rfl (l' := #[.val (.ref a), .val (.ref one), .val (.ref one), .val (.ref mg), .unset, .unset, .unset]) rfl kz) ?_
      show own_Go p e below s _ _ (T6.setTop (mkF m 42 #[.val (.ref a), .val (.ref one), .val (.ref one), .val (.ref mg), .unset, .unset, .unset] []))
      refine own_by (fun tz kz => XS.aloadN X6.here hx rfl (hb hby d11_42) rfl rfl kz) ?_
      show own_Go p e below s _ _ (T6.setTop (mkF m 43 #[.val (.ref a), .val (.ref one), .val (.ref one), .val (.ref mg), .unset, .unset, .unset] [(.ref mg)]))
      obtain ⟨c7, Ar7, q7, S7, M7, Hh7, G7⟩ := id V_a
      refine own_by (fun tz kz => X6.arraylength hx (by rw [e6]; exact Ar7.1) (State.isArrayOf_alike hZ.alike Ar7.2.1) (g := (mkF m 43 #[.val (.ref a), .val (.ref one), .val (.ref one), .val (.ref mg), .unset, .unset, .unset] [(.ref mg)])) rfl rfl (hb hby d11_43) _ kz) ?_
      rw [len_of S7 M7]
      show own_Go p e below s _ _ (T6.setTop (mkF m 44 #[.val (.ref a), .val (.ref one), .val (.ref one), .val (.ref mg), .unset, .unset, .unset] [(.int (1 : Int32))]))
      refine own_by (fun tz kz => XS.istore X6.here hx rfl (hb hby d11_44) rfl (l' := #[.val (.ref a), .val (.ref one), .val (.ref one), .val (.ref mg), .val (.int (1 : Int32)), .unset, .unset]) rfl kz) ?_
      show own_Go p e below s _ _ (T6.setTop (mkF m 46 #[.val (.ref a), .val (.ref one), .val (.ref one), .val (.ref mg), .val (.int (1 : Int32)), .unset, .unset] []))
      refine own_by (fun tz kz => XS.aloadN X6.here hx rfl (hb hby d11_46) rfl rfl kz) ?_
      show own_Go p e below s _ _ (T6.setTop (mkF m 47 #[.val (.ref a), .val (.ref one), .val (.ref one), .val (.ref mg), .val (.int (1 : Int32)), .unset, .unset] [(.ref one)]))
      obtain ⟨T8, X8, e8, st8⟩ := getF X6 hx hZ hown (host := "") (Or.inl (hw _ (List.mem_of_getElem? (i := 47) rfl))) Via.refl e6 (Fm_one.ext O0.2) (g := (mkF m 47 #[.val (.ref a), .val (.ref one), .val (.ref one), .val (.ref mg), .val (.int (1 : Int32)), .unset, .unset] [(.ref one)])) rfl rfl (hb hby d11_47)
      refine own_by st8 ?_
      show own_Go p e below s _ _ (T8.setTop (mkF m 50 #[.val (.ref a), .val (.ref one), .val (.ref one), .val (.ref mg), .val (.int (1 : Int32)), .unset, .unset] [(.ref om)]))
      refine own_by (fun tz kz => XS.astore X8.here hx rfl (hb hby d11_50) rfl rfl (l' := #[.val (.ref a), .val (.ref one), .val (.ref one), .val (.ref mg), .val (.int (1 : Int32)), .val (.ref om), .unset]) rfl kz) ?_
      show own_Go p e below s _ _ (T8.setTop (mkF m 52 #[.val (.ref a), .val (.ref one), .val (.ref one), .val (.ref mg), .val (.int (1 : Int32)), .val (.ref om), .unset] []))
      refine own_by (fun tz kz => XS.iload X8.here hx rfl (hb hby d11_52) rfl  kz) ?_
      show own_Go p e below s _ _ (T8.setTop (mkF m 54 #[.val (.ref a), .val (.ref one), .val (.ref one), .val (.ref mg), .val (.int (1 : Int32)), .val (.ref om), .unset] [(.int (1 : Int32))]))
      refine own_by (fun tz kz => XS.aload X8.here hx rfl (hb hby d11_54) rfl rfl kz) ?_
      show own_Go p e below s _ _ (T8.setTop (mkF m 56 #[.val (.ref a), .val (.ref one), .val (.ref one), .val (.ref mg), .val (.int (1 : Int32)), .val (.ref om), .unset] [(.ref om), (.int (1 : Int32))]))
      obtain ⟨c9, Ar9, q9, S9, M9, Hh9, G9⟩ := id (Arv.ext V_one O0.2)
      refine own_by (fun tz kz => X8.arraylength hx (by rw [e8]; exact Ar9.1) (State.isArrayOf_alike hZ.alike Ar9.2.1) (g := (mkF m 56 #[.val (.ref a), .val (.ref one), .val (.ref one), .val (.ref mg), .val (.int (1 : Int32)), .val (.ref om), .unset] [(.ref om), (.int (1 : Int32))])) rfl rfl (hb hby d11_56) _ kz) ?_
      rw [len_of S9 M9]
      show own_Go p e below s _ _ (T8.setTop (mkF m 57 #[.val (.ref a), .val (.ref one), .val (.ref one), .val (.ref mg), .val (.int (1 : Int32)), .val (.ref om), .unset] [(.int (1 : Int32)), (.int (1 : Int32))]))
      refine own_by (fun tz kz => XS.icmpYes X8.here hx rfl (pc0 := 57) (pc' := 62) rfl (hb hby d11_57) rfl (teq (by decide : (1 : Int32) = (1 : Int32))).1 (by decide) (by decide) kz) ?_
      show own_Go p e below s _ _ (T8.setTop (mkF m 62 #[.val (.ref a), .val (.ref one), .val (.ref one), .val (.ref mg), .val (.int (1 : Int32)), .val (.ref om), .unset] []))
      refine own_by (fun tz kz => XS.iconst X8.here hx rfl (hb hby d11_62) kz) ?_
      show own_Go p e below s _ _ (T8.setTop (mkF m 63 #[.val (.ref a), .val (.ref one), .val (.ref one), .val (.ref mg), .val (.int (1 : Int32)), .val (.ref om), .unset] [(.int (0 : Int32))]))
      refine own_by (fun tz kz => XS.istore X8.here hx rfl (hb hby d11_63) rfl (l' := #[.val (.ref a), .val (.ref one), .val (.ref one), .val (.ref mg), .val (.int (1 : Int32)), .val (.ref om), .val (.int (0 : Int32))]) rfl kz) ?_
      show own_Go p e below s _ _ (T8.setTop (mkF m 65 #[.val (.ref a), .val (.ref one), .val (.ref one), .val (.ref mg), .val (.int (1 : Int32)), .val (.ref om), .val (.int (0 : Int32))] []))
      refine own_by (fun tz kz => XS.iload X8.here hx rfl (hb hby d11_65) rfl  kz) ?_
      show own_Go p e below s _ _ (T8.setTop (mkF m 67 #[.val (.ref a), .val (.ref one), .val (.ref one), .val (.ref mg), .val (.int (1 : Int32)), .val (.ref om), .val (.int (0 : Int32))] [(.int (0 : Int32))]))
      refine own_by (fun tz kz => XS.iload X8.here hx rfl (hb hby d11_67) rfl  kz) ?_
      show own_Go p e below s _ _ (T8.setTop (mkF m 69 #[.val (.ref a), .val (.ref one), .val (.ref one), .val (.ref mg), .val (.int (1 : Int32)), .val (.ref om), .val (.int (0 : Int32))] [(.int (1 : Int32)), (.int (0 : Int32))]))
      refine own_by (fun tz kz => XS.icmpNo X8.here hx rfl (hb hby d11_69) rfl (tlt (by decide : (0 : Int32) < (1 : Int32))).2.1 kz) ?_
      show own_Go p e below s _ _ (T8.setTop (mkF m 72 #[.val (.ref a), .val (.ref one), .val (.ref one), .val (.ref mg), .val (.int (1 : Int32)), .val (.ref om), .val (.int (0 : Int32))] []))
      refine own_by (fun tz kz => XS.aload X8.here hx rfl (hb hby d11_72) rfl rfl kz) ?_
      show own_Go p e below s _ _ (T8.setTop (mkF m 74 #[.val (.ref a), .val (.ref one), .val (.ref one), .val (.ref mg), .val (.int (1 : Int32)), .val (.ref om), .val (.int (0 : Int32))] [(.ref om)]))
      refine own_by (fun tz kz => XS.iload X8.here hx rfl (hb hby d11_74) rfl  kz) ?_
      show own_Go p e below s _ _ (T8.setTop (mkF m 76 #[.val (.ref a), .val (.ref one), .val (.ref one), .val (.ref mg), .val (.int (1 : Int32)), .val (.ref om), .val (.int (0 : Int32))] [(.int (0 : Int32)), (.ref om)]))
      obtain ⟨c10, Ar10, q10, S10, M10, Hh10, G10⟩ := id (Arv.ext V_one O0.2)
      have hin10 : ¬ ((0 : Int32) < 0 ∨ c10.slots.size ≤ ((0 : Int32)).toNatClampNeg) := inb_of S10 ⟨by decide, by decide⟩
      have hat10 := Has.at Hh10 hin10 (v := (.int (1 : Int32))) rfl
      refine own_by (fun tz kz => X8.iaload hx (j := (0 : Int32)) (v := (.int (1 : Int32))) (by rw [e8]; exact Ar10.1) (State.isArrayOf_alike hZ.alike Ar10.2.1) Ar10.2.2 hin10 hat10 (g := (mkF m 76 #[.val (.ref a), .val (.ref one), .val (.ref one), .val (.ref mg), .val (.int (1 : Int32)), .val (.ref om), .val (.int (0 : Int32))] [(.int (0 : Int32)), (.ref om)])) rfl rfl (hb hby d11_76) _ kz) ?_
      show own_Go p e below s _ _ (T8.setTop (mkF m 77 #[.val (.ref a), .val (.ref one), .val (.ref one), .val (.ref mg), .val (.int (1 : Int32)), .val (.ref om), .val (.int (0 : Int32))] [(.int (1 : Int32))]))
      refine own_by (fun tz kz => XS.aloadN X8.here hx rfl (hb hby d11_77) rfl rfl kz) ?_
      show own_Go p e below s _ _ (T8.setTop (mkF m 78 #[.val (.ref a), .val (.ref one), .val (.ref one), .val (.ref mg), .val (.int (1 : Int32)), .val (.ref om), .val (.int (0 : Int32))] [(.ref mg), (.int (1 : Int32))]))
      refine own_by (fun tz kz => XS.iload X8.here hx rfl (hb hby d11_78) rfl  kz) ?_
      show own_Go p e below s _ _ (T8.setTop (mkF m 80 #[.val (.ref a), .val (.ref one), .val (.ref one), .val (.ref mg), .val (.int (1 : Int32)), .val (.ref om), .val (.int (0 : Int32))] [(.int (0 : Int32)), (.ref mg), (.int (1 : Int32))]))
      obtain ⟨c11, Ar11, q11, S11, M11, Hh11, G11⟩ := id V_a
      have hin11 : ¬ ((0 : Int32) < 0 ∨ c11.slots.size ≤ ((0 : Int32)).toNatClampNeg) := inb_of S11 ⟨by decide, by decide⟩
      have hat11 := Has.at Hh11 hin11 (v := (.int m0)) rfl
      refine own_by (fun tz kz => X8.iaload hx (j := (0 : Int32)) (v := (.int m0)) (by rw [e8]; exact Ar11.1) (State.isArrayOf_alike hZ.alike Ar11.2.1) Ar11.2.2 hin11 hat11 (g := (mkF m 80 #[.val (.ref a), .val (.ref one), .val (.ref one), .val (.ref mg), .val (.int (1 : Int32)), .val (.ref om), .val (.int (0 : Int32))] [(.int (0 : Int32)), (.ref mg), (.int (1 : Int32))])) rfl rfl (hb hby d11_80) _ kz) ?_
      show own_Go p e below s _ _ (T8.setTop (mkF m 81 #[.val (.ref a), .val (.ref one), .val (.ref one), .val (.ref mg), .val (.int (1 : Int32)), .val (.ref om), .val (.int (0 : Int32))] [(.int m0), (.int (1 : Int32))]))
      by_cases hc81_12 : (1 : Int32) = m0
      · refine own_by (fun tz kz => XS.icmpYes X8.here hx rfl (pc0 := 81) (pc' := 86) rfl (hb hby d11_81) rfl (teq hc81_12).1 (by decide) (by decide) kz) ?_
        show own_Go p e below s _ _ (T8.setTop (mkF m 86 #[.val (.ref a), .val (.ref one), .val (.ref one), .val (.ref mg), .val (.int (1 : Int32)), .val (.ref om), .val (.int (0 : Int32))] []))
        refine own_by (fun tz kz => XS.iinc X8.here hx rfl (hb hby d11_86) rfl (l' := #[.val (.ref a), .val (.ref one), .val (.ref one), .val (.ref mg), .val (.int (1 : Int32)), .val (.ref om), .val (.int ((0 : Int32) + (1 : Int32)))]) rfl kz) ?_
        show own_Go p e below s _ _ (T8.setTop (mkF m 89 #[.val (.ref a), .val (.ref one), .val (.ref one), .val (.ref mg), .val (.int (1 : Int32)), .val (.ref om), .val (.int ((0 : Int32) + (1 : Int32)))] []))
        refine own_by (fun tz kz => XS.goto X8.here hx rfl (pc0 := 89) (pc' := 65) rfl (hb hby d11_89) (by decide) (by decide) kz) ?_
        show own_Go p e below s _ _ (T8.setTop (mkF m 65 #[.val (.ref a), .val (.ref one), .val (.ref one), .val (.ref mg), .val (.int (1 : Int32)), .val (.ref om), .val (.int ((0 : Int32) + (1 : Int32)))] []))
        refine own_by (fun tz kz => XS.iload X8.here hx rfl (hb hby d11_65) rfl  kz) ?_
        show own_Go p e below s _ _ (T8.setTop (mkF m 67 #[.val (.ref a), .val (.ref one), .val (.ref one), .val (.ref mg), .val (.int (1 : Int32)), .val (.ref om), .val (.int ((0 : Int32) + (1 : Int32)))] [(.int ((0 : Int32) + (1 : Int32)))]))
        refine own_by (fun tz kz => XS.iload X8.here hx rfl (hb hby d11_67) rfl  kz) ?_
        show own_Go p e below s _ _ (T8.setTop (mkF m 69 #[.val (.ref a), .val (.ref one), .val (.ref one), .val (.ref mg), .val (.int (1 : Int32)), .val (.ref om), .val (.int ((0 : Int32) + (1 : Int32)))] [(.int (1 : Int32)), (.int ((0 : Int32) + (1 : Int32)))]))
        refine own_by (fun tz kz => XS.icmpYes X8.here hx rfl (pc0 := 69) (pc' := 92) rfl (hb hby d11_69) rfl (flt (by decide : ¬ ((0 : Int32) + (1 : Int32)) < (1 : Int32))).2.1 (by decide) (by decide) kz) ?_
        show own_Go p e below s _ _ (T8.setTop (mkF m 92 #[.val (.ref a), .val (.ref one), .val (.ref one), .val (.ref mg), .val (.int (1 : Int32)), .val (.ref om), .val (.int ((0 : Int32) + (1 : Int32)))] []))
        refine own_by (fun tz kz => XS.iconst X8.here hx rfl (hb hby d11_92) kz) ?_
        show own_Go p e below s _ _ (T8.setTop (mkF m 93 #[.val (.ref a), .val (.ref one), .val (.ref one), .val (.ref mg), .val (.int (1 : Int32)), .val (.ref om), .val (.int ((0 : Int32) + (1 : Int32)))] [(.int (1 : Int32))]))
        refine own_retI X8 hx hlk (t := .boolean) hret (by simp) rfl (hb hby d11_93) ?_ (by decide) (by decide)
        exact ⟨congrArg (fun z => some (Value.int z)) (hu.trans (if_pos hc81_12.symm)).symm, N0, e8⟩
      · refine own_by (fun tz kz => XS.icmpNo X8.here hx rfl (hb hby d11_81) rfl (feq hc81_12).1 kz) ?_
        show own_Go p e below s _ _ (T8.setTop (mkF m 84 #[.val (.ref a), .val (.ref one), .val (.ref one), .val (.ref mg), .val (.int (1 : Int32)), .val (.ref om), .val (.int (0 : Int32))] []))
        refine own_by (fun tz kz => XS.iconst X8.here hx rfl (hb hby d11_84) kz) ?_
        show own_Go p e below s _ _ (T8.setTop (mkF m 85 #[.val (.ref a), .val (.ref one), .val (.ref one), .val (.ref mg), .val (.int (1 : Int32)), .val (.ref om), .val (.int (0 : Int32))] [(.int (0 : Int32))]))
        refine own_retI X8 hx hlk (t := .boolean) hret (by simp) rfl (hb hby d11_85) ?_ (by decide) (by decide)
        exact ⟨congrArg (fun z => some (Value.int z)) (hu.trans (if_neg (fun q => hc81_12 q.symm))).symm, N0, e8⟩
  · show own_Go p e below s _ _ (s₁.setTop (mkF m 0 #[.val (.ref a), .val (.ref one), .unset, .unset, .unset, .unset, .unset] []))
    refine own_by (fun tz kz => XS.aloadN X0.here hx rfl (hb hby d11_0) rfl rfl kz) ?_
    show own_Go p e below s _ _ (s₁.setTop (mkF m 1 #[.val (.ref a), .val (.ref one), .unset, .unset, .unset, .unset, .unset] [(.ref one)]))
    refine own_by (fun tz kz => XS.aloadN X0.here hx rfl (hb hby d11_1) rfl rfl kz) ?_
    show own_Go p e below s _ _ (s₁.setTop (mkF m 2 #[.val (.ref a), .val (.ref one), .unset, .unset, .unset, .unset, .unset] [(.ref a), (.ref one)]))
    by_cases hc2_13 : one = a
    · refine own_by (fun tz kz => Jvm.RoadKit.acmp (g := (mkF m 2 #[.val (.ref a), .val (.ref one), .unset, .unset, .unset, .unset, .unset] [(.ref a), (.ref one)])) X0 hx rfl rfl rfl (pc0 := 2) (pc' := 5) (same := true) rfl (hb hby d11_2) rfl (decide_eq_true (congrArg Value.ref hc2_13)) (by decide) (by decide) kz) ?_
      show own_Go p e below s _ _ (s₁.setTop (mkF m 5 #[.val (.ref a), .val (.ref one), .unset, .unset, .unset, .unset, .unset] []))
      refine own_by (fun tz kz => XS.iconst X0.here hx rfl (hb hby d11_5) kz) ?_
      show own_Go p e below s _ _ (s₁.setTop (mkF m 6 #[.val (.ref a), .val (.ref one), .unset, .unset, .unset, .unset, .unset] [(.int (1 : Int32))]))
      refine own_retI X0 hx hlk (t := .boolean) hret (by simp) rfl (hb hby d11_6) ?_ (by decide) (by decide)
      exact ⟨congrArg (fun z => some (Value.int z)) (own_one Fm_a (hc2_13 ▸ (Fm_one.ext O0.2)) V_a (Arv.ext V_one O0.2) M').symm, N0, e0⟩
    · refine own_by (fun tz kz => Jvm.RoadKit.acmp (g := (mkF m 2 #[.val (.ref a), .val (.ref one), .unset, .unset, .unset, .unset, .unset] [(.ref a), (.ref one)])) X0 hx rfl rfl rfl (pc0 := 2) (pc' := 7) (same := false) rfl (hb hby d11_2) rfl (decide_eq_false fun q => hc2_13 (Value.ref.inj q)) (by decide) (by decide) kz) ?_
      show own_Go p e below s _ _ (s₁.setTop (mkF m 7 #[.val (.ref a), .val (.ref one), .unset, .unset, .unset, .unset, .unset] []))
      refine own_by (fun tz kz => XS.aloadN X0.here hx rfl (hb hby d11_7) rfl rfl kz) ?_
      show own_Go p e below s _ _ (s₁.setTop (mkF m 8 #[.val (.ref a), .val (.ref one), .unset, .unset, .unset, .unset, .unset] [(.ref one)]))
      obtain ⟨T14, X14, e14, st14⟩ := instY X0 hx hZ hown (hw _ (List.mem_of_getElem? (i := 31) rfl)) e0 (Ins.self (E_one.ext O0.2)) (g := (mkF m 8 #[.val (.ref a), .val (.ref one), .unset, .unset, .unset, .unset, .unset] [(.ref one)])) rfl rfl (hb hby d11_8)
      refine own_by st14 ?_
      show own_Go p e below s _ _ (T14.setTop (mkF m 11 #[.val (.ref a), .val (.ref one), .unset, .unset, .unset, .unset, .unset] [(.int (1 : Int32))]))
      refine own_by (fun tz kz => XS.ifNo X14.here hx rfl (hb hby d11_11) rfl ((if0 _ _).trans (feq (by decide : ¬ (1 : Int32) = (0 : Int32))).1) kz) ?_
      show own_Go p e below s _ _ (T14.setTop (mkF m 14 #[.val (.ref a), .val (.ref one), .unset, .unset, .unset, .unset, .unset] []))
      refine own_by (fun tz kz => XS.aloadN X14.here hx rfl (hb hby d11_14) rfl rfl kz) ?_
      show own_Go p e below s _ _ (T14.setTop (mkF m 15 #[.val (.ref a), .val (.ref one), .unset, .unset, .unset, .unset, .unset] [(.ref one)]))
      obtain ⟨T15, X15, e15, st15⟩ := castY X14 hx hZ hown (hw _ (List.mem_of_getElem? (i := 31) rfl)) e14 (Ins.self (E_one.ext O0.2)) (g := (mkF m 15 #[.val (.ref a), .val (.ref one), .unset, .unset, .unset, .unset, .unset] [(.ref one)])) rfl rfl (hb hby d11_15)
      refine own_by st15 ?_
      show own_Go p e below s _ _ (T15.setTop (mkF m 18 #[.val (.ref a), .val (.ref one), .unset, .unset, .unset, .unset, .unset] [(.ref one)]))
      refine own_by (fun tz kz => XS.astoreN X15.here hx rfl (hb hby d11_18) rfl rfl (l' := #[.val (.ref a), .val (.ref one), .val (.ref one), .unset, .unset, .unset, .unset]) rfl kz) ?_
      show own_Go p e below s _ _ (T15.setTop (mkF m 19 #[.val (.ref a), .val (.ref one), .val (.ref one), .unset, .unset, .unset, .unset] []))
      refine own_by (fun tz kz => XS.goto X15.here hx rfl (pc0 := 19) (pc' := 24) rfl (hb hby d11_19) (by decide) (by decide) kz) ?_
      show own_Go p e below s _ _ (T15.setTop (mkF m 24 #[.val (.ref a), .val (.ref one), .val (.ref one), .unset, .unset, .unset, .unset] []))
      refine own_by (fun tz kz => XS.aloadN X15.here hx rfl (hb hby d11_24) rfl rfl kz) ?_
      show own_Go p e below s _ _ (T15.setTop (mkF m 25 #[.val (.ref a), .val (.ref one), .val (.ref one), .unset, .unset, .unset, .unset] [(.ref one)]))
      obtain ⟨T16, X16, e16, st16⟩ := getF X15 hx hZ hown (host := "") (Or.inl (hw _ (List.mem_of_getElem? (i := 44) rfl))) Via.refl e15 (Fs_one.ext O0.2) (g := (mkF m 25 #[.val (.ref a), .val (.ref one), .val (.ref one), .unset, .unset, .unset, .unset] [(.ref one)])) rfl rfl (hb hby d11_25)
      refine own_by st16 ?_
      show own_Go p e below s _ _ (T16.setTop (mkF m 28 #[.val (.ref a), .val (.ref one), .val (.ref one), .unset, .unset, .unset, .unset] [(.int (1 : Int32))]))
      refine own_by (fun tz kz => XS.aloadN X16.here hx rfl (hb hby d11_28) rfl rfl kz) ?_
      show own_Go p e below s _ _ (T16.setTop (mkF m 29 #[.val (.ref a), .val (.ref one), .val (.ref one), .unset, .unset, .unset, .unset] [(.ref a), (.int (1 : Int32))]))
      obtain ⟨T17, X17, e17, st17⟩ := getF X16 hx hZ hown (host := "") (Or.inl (hw _ (List.mem_of_getElem? (i := 44) rfl))) Via.refl e16 Fs_a (g := (mkF m 29 #[.val (.ref a), .val (.ref one), .val (.ref one), .unset, .unset, .unset, .unset] [(.ref a), (.int (1 : Int32))])) rfl rfl (hb hby d11_29)
      refine own_by st17 ?_
      show own_Go p e below s _ _ (T17.setTop (mkF m 32 #[.val (.ref a), .val (.ref one), .val (.ref one), .unset, .unset, .unset, .unset] [(.int (1 : Int32)), (.int (1 : Int32))]))
      refine own_by (fun tz kz => XS.icmpYes X17.here hx rfl (pc0 := 32) (pc' := 37) rfl (hb hby d11_32) rfl (teq (by decide : (1 : Int32) = (1 : Int32))).1 (by decide) (by decide) kz) ?_
      show own_Go p e below s _ _ (T17.setTop (mkF m 37 #[.val (.ref a), .val (.ref one), .val (.ref one), .unset, .unset, .unset, .unset] []))
      refine own_by (fun tz kz => XS.aloadN X17.here hx rfl (hb hby d11_37) rfl rfl kz) ?_
      show own_Go p e below s _ _ (T17.setTop (mkF m 38 #[.val (.ref a), .val (.ref one), .val (.ref one), .unset, .unset, .unset, .unset] [(.ref a)]))
      obtain ⟨T18, X18, e18, st18⟩ := getF X17 hx hZ hown (host := "") (Or.inl (hw _ (List.mem_of_getElem? (i := 47) rfl))) Via.refl e17 Fm_a (g := (mkF m 38 #[.val (.ref a), .val (.ref one), .val (.ref one), .unset, .unset, .unset, .unset] [(.ref a)])) rfl rfl (hb hby d11_38)
      refine own_by st18 ?_
      show own_Go p e below s _ _ (T18.setTop (mkF m 41 #[.val (.ref a), .val (.ref one), .val (.ref one), .unset, .unset, .unset, .unset] [(.ref mg)]))
      refine own_by (fun tz kz => XS.astoreN X18.here hx rfl (hb hby d11_41) rfl rfl (l' := #[.val (.ref a), .val (.ref one), .val (.ref one), .val (.ref mg), .unset, .unset, .unset]) rfl kz) ?_
      show own_Go p e below s _ _ (T18.setTop (mkF m 42 #[.val (.ref a), .val (.ref one), .val (.ref one), .val (.ref mg), .unset, .unset, .unset] []))
      refine own_by (fun tz kz => XS.aloadN X18.here hx rfl (hb hby d11_42) rfl rfl kz) ?_
      show own_Go p e below s _ _ (T18.setTop (mkF m 43 #[.val (.ref a), .val (.ref one), .val (.ref one), .val (.ref mg), .unset, .unset, .unset] [(.ref mg)]))
      obtain ⟨c19, Ar19, q19, S19, M19, Hh19, G19⟩ := id V_a
      refine own_by (fun tz kz => X18.arraylength hx (by rw [e18]; exact Ar19.1) (State.isArrayOf_alike hZ.alike Ar19.2.1) (g := (mkF m 43 #[.val (.ref a), .val (.ref one), .val (.ref one), .val (.ref mg), .unset, .unset, .unset] [(.ref mg)])) rfl rfl (hb hby d11_43) _ kz) ?_
      rw [len_of S19 M19]
      show own_Go p e below s _ _ (T18.setTop (mkF m 44 #[.val (.ref a), .val (.ref one), .val (.ref one), .val (.ref mg), .unset, .unset, .unset] [(.int (2 : Int32))]))
      refine own_by (fun tz kz => XS.istore X18.here hx rfl (hb hby d11_44) rfl (l' := #[.val (.ref a), .val (.ref one), .val (.ref one), .val (.ref mg), .val (.int (2 : Int32)), .unset, .unset]) rfl kz) ?_
      show own_Go p e below s _ _ (T18.setTop (mkF m 46 #[.val (.ref a), .val (.ref one), .val (.ref one), .val (.ref mg), .val (.int (2 : Int32)), .unset, .unset] []))
      refine own_by (fun tz kz => XS.aloadN X18.here hx rfl (hb hby d11_46) rfl rfl kz) ?_
      show own_Go p e below s _ _ (T18.setTop (mkF m 47 #[.val (.ref a), .val (.ref one), .val (.ref one), .val (.ref mg), .val (.int (2 : Int32)), .unset, .unset] [(.ref one)]))
      obtain ⟨T20, X20, e20, st20⟩ := getF X18 hx hZ hown (host := "") (Or.inl (hw _ (List.mem_of_getElem? (i := 47) rfl))) Via.refl e18 (Fm_one.ext O0.2) (g := (mkF m 47 #[.val (.ref a), .val (.ref one), .val (.ref one), .val (.ref mg), .val (.int (2 : Int32)), .unset, .unset] [(.ref one)])) rfl rfl (hb hby d11_47)
      refine own_by st20 ?_
      show own_Go p e below s _ _ (T20.setTop (mkF m 50 #[.val (.ref a), .val (.ref one), .val (.ref one), .val (.ref mg), .val (.int (2 : Int32)), .unset, .unset] [(.ref om)]))
      refine own_by (fun tz kz => XS.astore X20.here hx rfl (hb hby d11_50) rfl rfl (l' := #[.val (.ref a), .val (.ref one), .val (.ref one), .val (.ref mg), .val (.int (2 : Int32)), .val (.ref om), .unset]) rfl kz) ?_
      show own_Go p e below s _ _ (T20.setTop (mkF m 52 #[.val (.ref a), .val (.ref one), .val (.ref one), .val (.ref mg), .val (.int (2 : Int32)), .val (.ref om), .unset] []))
      refine own_by (fun tz kz => XS.iload X20.here hx rfl (hb hby d11_52) rfl  kz) ?_
      show own_Go p e below s _ _ (T20.setTop (mkF m 54 #[.val (.ref a), .val (.ref one), .val (.ref one), .val (.ref mg), .val (.int (2 : Int32)), .val (.ref om), .unset] [(.int (2 : Int32))]))
      refine own_by (fun tz kz => XS.aload X20.here hx rfl (hb hby d11_54) rfl rfl kz) ?_
      show own_Go p e below s _ _ (T20.setTop (mkF m 56 #[.val (.ref a), .val (.ref one), .val (.ref one), .val (.ref mg), .val (.int (2 : Int32)), .val (.ref om), .unset] [(.ref om), (.int (2 : Int32))]))
      obtain ⟨c21, Ar21, q21, S21, M21, Hh21, G21⟩ := id (Arv.ext V_one O0.2)
      refine own_by (fun tz kz => X20.arraylength hx (by rw [e20]; exact Ar21.1) (State.isArrayOf_alike hZ.alike Ar21.2.1) (g := (mkF m 56 #[.val (.ref a), .val (.ref one), .val (.ref one), .val (.ref mg), .val (.int (2 : Int32)), .val (.ref om), .unset] [(.ref om), (.int (2 : Int32))])) rfl rfl (hb hby d11_56) _ kz) ?_
      rw [len_of S21 M21]
      show own_Go p e below s _ _ (T20.setTop (mkF m 57 #[.val (.ref a), .val (.ref one), .val (.ref one), .val (.ref mg), .val (.int (2 : Int32)), .val (.ref om), .unset] [(.int (1 : Int32)), (.int (2 : Int32))]))
      refine own_by (fun tz kz => XS.icmpNo X20.here hx rfl (hb hby d11_57) rfl (feq (by decide : ¬ (2 : Int32) = (1 : Int32))).1 kz) ?_
      show own_Go p e below s _ _ (T20.setTop (mkF m 60 #[.val (.ref a), .val (.ref one), .val (.ref one), .val (.ref mg), .val (.int (2 : Int32)), .val (.ref om), .unset] []))
      refine own_by (fun tz kz => XS.iconst X20.here hx rfl (hb hby d11_60) kz) ?_
      show own_Go p e below s _ _ (T20.setTop (mkF m 61 #[.val (.ref a), .val (.ref one), .val (.ref one), .val (.ref mg), .val (.int (2 : Int32)), .val (.ref om), .unset] [(.int (0 : Int32))]))
      refine own_retI X20 hx hlk (t := .boolean) hret (by simp) rfl (hb hby d11_61) ?_ (by decide) (by decide)
      exact ⟨congrArg (fun z => some (Value.int z)) hu.symm, N0, e20⟩
def Q_rm_Sinit (Z : State) (a : Addr) (h0 : Heap) (n0 : Nat) (v : Option Value) (h : Heap) (L : List Loc) : Prop := v = none ∧ Fr n0 L ∧ Keep h0 h [a] ∧ Fld Z h a "com/example/liftwise/liftwise/eval/arithmetic/Solver$Sides" "lower" "I" (.int (0 : Int32)) ∧ Fld Z h a "com/example/liftwise/liftwise/eval/arithmetic/Solver$Sides" "upper" "I" (.int (0 : Int32)) ∧ Fld Z h a "com/example/liftwise/liftwise/eval/arithmetic/Solver$Sides" "lowerUnit" "Z" (.int (1 : Int32)) ∧ Fld Z h a "com/example/liftwise/liftwise/eval/arithmetic/Solver$Sides" "upperUnit" "Z" (.int (1 : Int32))
set_option maxRecDepth 65536 in
set_option maxHeartbeats 40000000 in
theorem rm_Sinit (l : Launch) (Z : State) (a0 : Array Value) (hw : ∀ d ∈ tables_1, d.before a0 Z = true) (ws : List Jvm.Cond) (a : Addr) (h0 : Heap) (n0 : Nat) (O0 : Old Z n0 h0) (E_a : Exa Z h0 a "com/example/liftwise/liftwise/eval/arithmetic/Solver$Sides") (F_lower : Fld Z h0 a "com/example/liftwise/liftwise/eval/arithmetic/Solver$Sides" "lower" "I" (.int (0 : Int32))) (F_upper : Fld Z h0 a "com/example/liftwise/liftwise/eval/arithmetic/Solver$Sides" "upper" "I" (.int (0 : Int32))) (F_lowerUnit : Fld Z h0 a "com/example/liftwise/liftwise/eval/arithmetic/Solver$Sides" "lowerUnit" "Z" (.int (0 : Int32))) (F_upperUnit : Fld Z h0 a "com/example/liftwise/liftwise/eval/arithmetic/Solver$Sides" "upperUnit" "Z" (.int (0 : Int32))) (g_a : n0 ≤ a) :
    MetFree l (⟨"com/example/liftwise/liftwise/eval/arithmetic/Solver$Sides", "<init>", "()V"⟩ : MethodName) (head1 (Jvm.Cond.code (⟨"com/example/liftwise/liftwise/eval/arithmetic/Solver$Sides", "<init>", "()V"⟩ : MethodName) prog_74_method_1_code 1 none :: ws) ({ frames := 1, cells := 0, slots := 0, locals := 12 } : Room)) (fun ar U => ar = #[(.ref a)] ∧ Z.Warmed39 U.vm ∧ U.heap = h0) (fun _ _ _ _ _ => True) (fun _ U o U' => ∃ v L, o = .returned v ∧ Q_rm_Sinit Z a h0 n0 v U'.heap L ∧ FrameEnd U o U' L ({ frames := 1, cells := 0, slots := 0, locals := 12 } : Room).cells ({ frames := 1, cells := 0, slots := 0, locals := 12 } : Room).slots) := by
  refine own_enter (Q := (Q_rm_Sinit Z a h0 n0)) pl_1 ?_
  intro p e s m below meth c s₁ X0 hx hZ hby hml hown hnm hret hlk e0
  have N0 := Fr.nil n0
  refine own_by (fun tz kz => castTop (g' := (mkF m 0 #[.val (.ref a)] [])) (by first | (simp [entryFrame, mkF, argsToLocals, Value.category]; done) | rfl) kz) ?_
  have K0 := Keep.refl h0 [a]
  show own_Go p e below s _ _ (s₁.setTop (mkF m 0 #[.val (.ref a)] []))
  refine own_by (fun tz kz => XS.aloadN X0.here hx rfl (hb hby d1_0) rfl rfl kz) ?_
  show own_Go p e below s _ _ (s₁.setTop (mkF m 1 #[.val (.ref a)] [(.ref a)]))
  obtain ⟨T1, X1, e1, st1⟩ := initO X0 hx hZ hown (hw _ (List.mem_of_getElem? (i := 7) rfl)) (hw _ (List.mem_of_getElem? (i := 8) rfl)) (hw _ (List.mem_of_getElem? (i := 9) rfl)) e0 (g := (mkF m 1 #[.val (.ref a)] [(.ref a)])) rfl (by rw [hml]; rfl) rfl (hb hby d1_1) (by decide) (W := 0) (by show 2 * 0 + _ ≤ _; exact Nat.le_of_eq rfl) (by decide)
  refine own_by st1 ?_
  show own_Go p e below s _ _ (T1.setTop (mkF m 4 #[.val (.ref a)] []))
  refine own_by (fun tz kz => XS.aloadN X1.here hx rfl (hb hby d1_4) rfl rfl kz) ?_
  show own_Go p e below s _ _ (T1.setTop (mkF m 5 #[.val (.ref a)] [(.ref a)]))
  refine own_by (fun tz kz => XS.iconst X1.here hx rfl (hb hby d1_5) kz) ?_
  show own_Go p e below s _ _ (T1.setTop (mkF m 6 #[.val (.ref a)] [(.int (1 : Int32)), (.ref a)]))
  obtain ⟨T2, h2, X2, e2, W2, st2⟩ := putFN X1 hx hZ hown (hw _ (List.mem_of_getElem? (i := 10) rfl)) Via.refl e1 F_lowerUnit E_a (Or.inl (hw _ (List.mem_of_getElem? (i := 11) rfl))) (hw _ (List.mem_of_getElem? (i := 2) rfl)) (ty := .boolean) (v' := (.int (1 : Int32))) (by decide) rfl rfl (g := (mkF m 6 #[.val (.ref a)] [(.int (1 : Int32)), (.ref a)])) rfl rfl (hb hby d1_6)
  have Fw2 := F_lowerUnit.same W2
  have O2 := O0.wr W2 g_a
  have N2 := Fr.snoc X2 N0 g_a
  have K2 := K0.wr W2 (Or.inl (List.mem_of_getElem? (i := 0) rfl))
  refine own_by st2 ?_
  show own_Go p e below s _ _ (T2.setTop (mkF m 9 #[.val (.ref a)] []))
  refine own_by (fun tz kz => XS.aloadN X2.here hx rfl (hb hby d1_9) rfl rfl kz) ?_
  show own_Go p e below s _ _ (T2.setTop (mkF m 10 #[.val (.ref a)] [(.ref a)]))
  refine own_by (fun tz kz => XS.iconst X2.here hx rfl (hb hby d1_10) kz) ?_
  show own_Go p e below s _ _ (T2.setTop (mkF m 11 #[.val (.ref a)] [(.int (1 : Int32)), (.ref a)]))
  have f3 := (F_upperUnit.other W2 (Or.inr (slot_ne (Or.inl (hw _ (List.mem_of_getElem? (i := 13) rfl))) (Or.inl (hw _ (List.mem_of_getElem? (i := 11) rfl))) (by decide) (t := .boolean) (t' := .boolean) (by decide) (by decide))))
  have f4 := (E_a.wr W2)
  obtain ⟨T5, h5, X5, e5, W5, st5⟩ := putFN X2 hx hZ hown (hw _ (List.mem_of_getElem? (i := 12) rfl)) Via.refl e2 f3 f4 (Or.inl (hw _ (List.mem_of_getElem? (i := 13) rfl))) (hw _ (List.mem_of_getElem? (i := 2) rfl)) (ty := .boolean) (v' := (.int (1 : Int32))) (by decide) rfl rfl (g := (mkF m 11 #[.val (.ref a)] [(.int (1 : Int32)), (.ref a)])) rfl rfl (hb hby d1_11)
  have Fw5 := f3.same W5
  have O5 := O2.wr W5 g_a
  have N5 := Fr.snoc X5 N2 g_a
  have K5 := K2.wr W5 (Or.inl (List.mem_of_getElem? (i := 0) rfl))
  refine own_by st5 ?_
  show own_Go p e below s _ _ (T5.setTop (mkF m 14 #[.val (.ref a)] []))
  have f6 := ((F_lower.other W2 (Or.inr (slot_ne (Or.inl (hw _ (List.mem_of_getElem? (i := 71) rfl))) (Or.inl (hw _ (List.mem_of_getElem? (i := 11) rfl))) (by decide) (t := .int) (t' := .boolean) (by decide) (by decide)))).other W5 (Or.inr (slot_ne (Or.inl (hw _ (List.mem_of_getElem? (i := 71) rfl))) (Or.inl (hw _ (List.mem_of_getElem? (i := 13) rfl))) (by decide) (t := .int) (t' := .boolean) (by decide) (by decide))))
  have f7 := ((F_upper.other W2 (Or.inr (slot_ne (Or.inl (hw _ (List.mem_of_getElem? (i := 83) rfl))) (Or.inl (hw _ (List.mem_of_getElem? (i := 11) rfl))) (by decide) (t := .int) (t' := .boolean) (by decide) (by decide)))).other W5 (Or.inr (slot_ne (Or.inl (hw _ (List.mem_of_getElem? (i := 83) rfl))) (Or.inl (hw _ (List.mem_of_getElem? (i := 13) rfl))) (by decide) (t := .int) (t' := .boolean) (by decide) (by decide))))
  have f8 := (Fw2.other W5 (Or.inr (slot_ne (Or.inl (hw _ (List.mem_of_getElem? (i := 11) rfl))) (Or.inl (hw _ (List.mem_of_getElem? (i := 13) rfl))) (by decide) (t := .boolean) (t' := .boolean) (by decide) (by decide))))
  refine own_retV X5 hx hlk hret (hb hby d1_14) ?_ (by decide) (by decide)
  exact ⟨rfl, N5, by rw [e5]; exact K5, by rw [e5]; exact f6, by rw [e5]; exact f7, by rw [e5]; exact f8, by rw [e5]; exact Fw5⟩
def Q_rm_add (Z : State) (a b one om : Addr) (ko : ClassId) (sg un l0 u0 lu uu l1 u1 lu1 uu1 : Int32) (h0 : Heap) (n0 : Nat) (v : Option Value) (h : Heap) (L : List Loc) : Prop := v = none ∧ Fr n0 L ∧ Keep h0 h [a] ∧ Fld Z h a "com/example/liftwise/liftwise/eval/arithmetic/Solver$Sides" "lower" "I" (.int l1) ∧ Fld Z h a "com/example/liftwise/liftwise/eval/arithmetic/Solver$Sides" "upper" "I" (.int u1) ∧ Fld Z h a "com/example/liftwise/liftwise/eval/arithmetic/Solver$Sides" "lowerUnit" "Z" (.int lu1) ∧ Fld Z h a "com/example/liftwise/liftwise/eval/arithmetic/Solver$Sides" "upperUnit" "Z" (.int uu1)
set_option maxRecDepth 65536 in
set_option maxHeartbeats 40000000 in
theorem rm_add (l : Launch) (Z : State) (a0 : Array Value) (hw : ∀ d ∈ tables_1, d.before a0 Z = true) (ws : List Jvm.Cond) (a b one om : Addr) (ko : ClassId) (sg un l0 u0 lu uu l1 u1 lu1 uu1 : Int32) (h0 : Heap) (n0 : Nat) (O0 : Old Z n0 h0) (S_ONE : Sta Z Z.heap "java/math/BigInteger" "ONE" "Ljava/math/BigInteger;" (.ref one)) (E_one : Exa Z Z.heap one "java/math/BigInteger") (Fs_one : Fld Z Z.heap one "java/math/BigInteger" "signum" "I" (.int (1 : Int32))) (Fm_one : Fld Z Z.heap one "java/math/BigInteger" "mag" "[I" (.ref om)) (V_one : Arv Z Z.heap om ko .int (1 : Int32) [.int (1 : Int32)] (.int (0 : Int32))) (E_a : Exa Z h0 a "com/example/liftwise/liftwise/eval/arithmetic/Solver$Sides") (F_lower : Fld Z h0 a "com/example/liftwise/liftwise/eval/arithmetic/Solver$Sides" "lower" "I" (.int l0)) (F_upper : Fld Z h0 a "com/example/liftwise/liftwise/eval/arithmetic/Solver$Sides" "upper" "I" (.int u0)) (F_lowerUnit : Fld Z h0 a "com/example/liftwise/liftwise/eval/arithmetic/Solver$Sides" "lowerUnit" "Z" (.int lu)) (F_upperUnit : Fld Z h0 a "com/example/liftwise/liftwise/eval/arithmetic/Solver$Sides" "upperUnit" "Z" (.int uu)) (g_a : n0 ≤ a) (B_b : own_Big Z h0 b sg un) (hsg : sg = (1 : Int32) ∨ sg = (-1 : Int32)) (hun : un = (0 : Int32) ∨ un = (1 : Int32)) (hlu : lu = (0 : Int32) ∨ lu = (1 : Int32)) (huu : uu = (0 : Int32) ∨ uu = (1 : Int32)) (hl1 : l1 = if (0 : Int32) < sg then l0 + (1 : Int32) else l0) (hu1 : u1 = if (0 : Int32) < sg then u0 else u0 + (1 : Int32)) (hl2 : lu1 = if (0 : Int32) < sg then (lu &&& un) else lu) (hu2 : uu1 = if (0 : Int32) < sg then uu else (uu &&& un)) :
    MetFree l (⟨"com/example/liftwise/liftwise/eval/arithmetic/Solver$Sides", "add", "(Ljava/math/BigInteger;)V"⟩ : MethodName) (head1 (Jvm.Cond.code (⟨"com/example/liftwise/liftwise/eval/arithmetic/Solver$Sides", "add", "(Ljava/math/BigInteger;)V"⟩ : MethodName) prog_74_method_2_code 3 none :: ws) ({ frames := 5, cells := 1, slots := 6, locals := 70 } : Room)) (fun ar U => ar = #[(.ref a), (.ref b)] ∧ Z.Warmed39 U.vm ∧ U.heap = h0) (fun _ _ _ _ _ => True) (fun _ U o U' => ∃ v L, o = .returned v ∧ Q_rm_add Z a b one om ko sg un l0 u0 lu uu l1 u1 lu1 uu1 h0 n0 v U'.heap L ∧ FrameEnd U o U' L ({ frames := 5, cells := 1, slots := 6, locals := 70 } : Room).cells ({ frames := 5, cells := 1, slots := 6, locals := 70 } : Room).slots) := by
  refine own_enter (Q := (Q_rm_add Z a b one om ko sg un l0 u0 lu uu l1 u1 lu1 uu1 h0 n0)) pl_9 ?_
  intro p e s m below meth c s₁ X0 hx hZ hby hml hown hnm hret hlk e0
  have N0 := Fr.nil n0
  refine own_by (fun tz kz => castTop (g' := (mkF m 0 #[.val (.ref a), .val (.ref b), .unset] [])) (by first | (simp [entryFrame, mkF, argsToLocals, Value.category]; done) | rfl) kz) ?_
  have K0 := Keep.refl h0 [a]
  have B_b' := B_b
  obtain ⟨mb, kb, nb, vb, E_b, Fs_b, -, -, Mb⟩ := B_b'
  show own_Go p e below s _ _ (s₁.setTop (mkF m 0 #[.val (.ref a), .val (.ref b), .unset] []))
  refine own_by (fun tz kz => XS.aloadN X0.here hx rfl (hb hby d9_0) rfl rfl kz) ?_
  show own_Go p e below s _ _ (s₁.setTop (mkF m 1 #[.val (.ref a), .val (.ref b), .unset] [(.ref b)]))
  obtain ⟨cq1, kq1, q1a, q1b, q1c⟩ := isOf hZ e0 E_b
  obtain ⟨_, _, ⟨T1, L1, k1, n1⟩, -, X1, ⟨Lc1, hQ1, l1, y1, z1⟩, st1⟩ := X0.virtualBack hx (y := (⟨"java/math/BigInteger", "abs", "()Ljava/math/BigInteger;"⟩ : MethodName)) (z := (⟨"java/math/BigInteger", "abs", "()Ljava/math/BigInteger;"⟩ : MethodName)) hown (mvT hZ (hw _ (List.mem_of_getElem? (i := 54) rfl))) (mvT hZ (hw _ (List.mem_of_getElem? (i := 55) rfl))) (notFace_of_selects (args := #[]) (mvT hZ (hw _ (List.mem_of_getElem? (i := 57) rfl)))) (mvT hZ (hw _ (List.mem_of_getElem? (i := 57) rfl))) (mvT hZ (hw _ (List.mem_of_getElem? (i := 56) rfl))) (by decide) (backOf (W := 0) (rm_abs l Z a0 hw [] b sg un h0 n0 O0 B_b hsg) hZ (hw _ (List.mem_of_getElem? (i := 58) rfl)) (hw _ (List.mem_of_getElem? (i := 28) rfl)) (by decide) (by decide)) q1a q1c (g := (mkF m 1 #[.val (.ref a), .val (.ref b), .unset] [(.ref b)])) rfl (by rw [hml]; rfl) (Steps.refl _) (argsL := []) (rest := []) (lenOf pd_6 rfl) rfl (by show 2 * 0 + _ ≤ _; exact Nat.le_of_eq rfl) (hb hby d9_1) (fun _ _ => ⟨rfl, e0, (by decide : 0 + 1 ≤ _), (by decide : 0 + 6 ≤ _)⟩)
  dsimp only [Pt.U, Pt.locs, Pt.cells, Pt.slots] at X1 l1 y1 z1 st1 hQ1
  rw [l1, y1, z1] at X1
  obtain ⟨c1, rfl, Nq1, Kq1, Bq1⟩ := hQ1
  have N1 := Fr.app N0 Nq1
  have e1 : T1.heap = T1.heap := rfl
  refine own_via st1 ?_
  have O1 := O0.keep Kq1 all0
  have K1 := K0.trans Kq1 all0
  have Ec1 := (Bq1).elim fun _ h => h.elim fun _ h => h.elim fun _ h => h.elim fun _ h => h.1
  show own_Go p e below s _ _ (T1.setTop (mkF m 4 #[.val (.ref a), .val (.ref b), .unset] [(.ref c1)]))
  obtain ⟨T2, X2, e2, st2⟩ := getS2 X1 hx hZ hown (host := "") (Or.inl (hw _ (List.mem_of_getElem? (i := 59) rfl))) Via.refl e1 (S_ONE.ext O1.2) (g := (mkF m 4 #[.val (.ref a), .val (.ref b), .unset] [(.ref c1)])) rfl (hb hby d9_4)
  refine own_by st2 ?_
  show own_Go p e below s _ _ (T2.setTop (mkF m 7 #[.val (.ref a), .val (.ref b), .unset] [(.ref one), (.ref c1)]))
  obtain ⟨cq3, kq3, q3a, q3b, q3c⟩ := isOf hZ e2 Ec1
  obtain ⟨_, _, ⟨T3, L3, k3, n3⟩, -, X3, ⟨Lc3, hQ3, l3, y3, z3⟩, st3⟩ := X2.virtualBack hx (y := (⟨"java/math/BigInteger", "equals", "(Ljava/lang/Object;)Z"⟩ : MethodName)) (z := (⟨"java/math/BigInteger", "equals", "(Ljava/lang/Object;)Z"⟩ : MethodName)) hown (mvT hZ (hw _ (List.mem_of_getElem? (i := 60) rfl))) (mvT hZ (hw _ (List.mem_of_getElem? (i := 61) rfl))) (notFace_of_selects (args := #[]) (mvT hZ (hw _ (List.mem_of_getElem? (i := 63) rfl)))) (mvT hZ (hw _ (List.mem_of_getElem? (i := 63) rfl))) (mvT hZ (hw _ (List.mem_of_getElem? (i := 62) rfl))) (by decide) (backOf (W := 0) (rm_eqOne l Z a0 hw [] c1 one om ko un T1.heap n0 O1 S_ONE E_one Fs_one Fm_one V_one Bq1) hZ (hw _ (List.mem_of_getElem? (i := 64) rfl)) (hw _ (List.mem_of_getElem? (i := 28) rfl)) (by decide) (by decide)) q3a q3c (g := (mkF m 7 #[.val (.ref a), .val (.ref b), .unset] [(.ref one), (.ref c1)])) rfl (by rw [hml]; rfl) (Steps.refl _) (argsL := [(.ref one)]) (rest := []) (lenOf pd_7 rfl) rfl (by show 2 * 0 + _ ≤ _; exact Nat.le_of_eq rfl) (hb hby d9_7) (fun _ _ => ⟨rfl, e2, (by decide : (0 + 1) + 0 ≤ _), (by decide : (0 + 6) + 0 ≤ _)⟩)
  dsimp only [Pt.U, Pt.locs, Pt.cells, Pt.slots] at X3 l3 y3 z3 st3 hQ3
  rw [l3, y3, z3] at X3
  obtain ⟨rfl, Nq3, e3⟩ := hQ3
  have N3 := Fr.app N1 Nq3
  refine own_via st3 ?_
  show own_Go p e below s _ _ (T3.setTop (mkF m 10 #[.val (.ref a), .val (.ref b), .unset] [(.int un)]))
  refine own_by (fun tz kz => XS.istoreN X3.here hx rfl (hb hby d9_10) rfl (l' := #[.val (.ref a), .val (.ref b), .val (.int un)]) rfl kz) ?_
  show own_Go p e below s _ _ (T3.setTop (mkF m 11 #[.val (.ref a), .val (.ref b), .val (.int un)] []))
  refine own_by (fun tz kz => XS.aloadN X3.here hx rfl (hb hby d9_11) rfl rfl kz) ?_
  show own_Go p e below s _ _ (T3.setTop (mkF m 12 #[.val (.ref a), .val (.ref b), .val (.int un)] [(.ref b)]))
  have f4 := (Fs_b.keep Kq1 nin0)
  have f5 := (E_b.keep Kq1)
  obtain ⟨cq6, kq6, q6a, q6b, q6c⟩ := isOf hZ e3 f5
  obtain ⟨_, _, ⟨T6, L6, k6, n6⟩, -, X6, ⟨Lc6, hQ6, l6, y6, z6⟩, st6⟩ := X3.virtualBack hx (y := (⟨"java/math/BigInteger", "signum", "()I"⟩ : MethodName)) (z := (⟨"java/math/BigInteger", "signum", "()I"⟩ : MethodName)) hown (mvT hZ (hw _ (List.mem_of_getElem? (i := 65) rfl))) (mvT hZ (hw _ (List.mem_of_getElem? (i := 66) rfl))) (notFace_of_selects (args := #[]) (mvT hZ (hw _ (List.mem_of_getElem? (i := 68) rfl)))) (mvT hZ (hw _ (List.mem_of_getElem? (i := 68) rfl))) (mvT hZ (hw _ (List.mem_of_getElem? (i := 67) rfl))) (by decide) (backOf (W := 0) (rm_signum l Z a0 hw [] b sg T1.heap n0 f4) hZ (hw _ (List.mem_of_getElem? (i := 69) rfl)) (hw _ (List.mem_of_getElem? (i := 28) rfl)) (by decide) (by decide)) q6a q6c (g := (mkF m 12 #[.val (.ref a), .val (.ref b), .val (.int un)] [(.ref b)])) rfl (by rw [hml]; rfl) (Steps.refl _) (argsL := []) (rest := []) (lenOf pd_8 rfl) rfl (by show 2 * 0 + _ ≤ _; exact Nat.le_of_eq rfl) (hb hby d9_12) (fun _ _ => ⟨rfl, e3, (by decide : (0 + 1) + 0 ≤ _), (by decide : (0 + 6) + 0 ≤ _)⟩)
  dsimp only [Pt.U, Pt.locs, Pt.cells, Pt.slots] at X6 l6 y6 z6 st6 hQ6
  rw [l6, y6, z6] at X6
  obtain ⟨rfl, Nq6, e6⟩ := hQ6
  have N6 := Fr.app N3 Nq6
  refine own_via st6 ?_
  show own_Go p e below s _ _ (T6.setTop (mkF m 15 #[.val (.ref a), .val (.ref b), .val (.int un)] [(.int sg)]))
  by_cases hc15_7 : (0 : Int32) < sg
  · refine own_by (fun tz kz => XS.ifNo X6.here hx rfl (hb hby d9_15) rfl ((if0 _ _).trans (tlt hc15_7).2.2.2) kz) ?_
    show own_Go p e below s _ _ (T6.setTop (mkF m 18 #[.val (.ref a), .val (.ref b), .val (.int un)] []))
    refine own_by (fun tz kz => XS.aloadN X6.here hx rfl (hb hby d9_18) rfl rfl kz) ?_
    show own_Go p e below s _ _ (T6.setTop (mkF m 19 #[.val (.ref a), .val (.ref b), .val (.int un)] [(.ref a)]))
    refine own_by (fun tz kz => XS.dup X6.here hx rfl (hb hby d9_19) rfl rfl kz) ?_
    show own_Go p e below s _ _ (T6.setTop (mkF m 20 #[.val (.ref a), .val (.ref b), .val (.int un)] [(.ref a), (.ref a)]))
    have f8 := (F_lower.keep Kq1 nin0)
    obtain ⟨T9, X9, e9, st9⟩ := getF X6 hx hZ hown (host := "") (Or.inl (hw _ (List.mem_of_getElem? (i := 70) rfl))) Via.refl e6 f8 (g := (mkF m 20 #[.val (.ref a), .val (.ref b), .val (.int un)] [(.ref a), (.ref a)])) rfl rfl (hb hby d9_20)
    refine own_by st9 ?_
    show own_Go p e below s _ _ (T9.setTop (mkF m 23 #[.val (.ref a), .val (.ref b), .val (.int un)] [(.int l0), (.ref a)]))
    refine own_by (fun tz kz => XS.iconst X9.here hx rfl (hb hby d9_23) kz) ?_
    show own_Go p e below s _ _ (T9.setTop (mkF m 24 #[.val (.ref a), .val (.ref b), .val (.int un)] [(.int (1 : Int32)), (.int l0), (.ref a)]))
    refine own_by (fun tz kz => XS.iadd X9.here hx rfl (hb hby d9_24) rfl kz) ?_
    show own_Go p e below s _ _ (T9.setTop (mkF m 25 #[.val (.ref a), .val (.ref b), .val (.int un)] [(.int (l0 + (1 : Int32))), (.ref a)]))
    have f10 := (E_a.keep Kq1)
    obtain ⟨T11, h11, X11, e11, W11, st11⟩ := putF X9 hx hZ hown (host := "") (Or.inl (hw _ (List.mem_of_getElem? (i := 70) rfl))) Via.refl e9 f8 f10 (Or.inl (hw _ (List.mem_of_getElem? (i := 71) rfl))) (hw _ (List.mem_of_getElem? (i := 2) rfl)) (ty := .int) (by decide) rfl rfl (g := (mkF m 25 #[.val (.ref a), .val (.ref b), .val (.int un)] [(.int (l0 + (1 : Int32))), (.ref a)])) rfl rfl (hb hby d9_25)
    have Fw11 := f8.same W11
    have O11 := O1.wr W11 g_a
    have N11 := Fr.snoc X11 N6 g_a
    have K11 := K1.wr W11 (Or.inl (List.mem_of_getElem? (i := 0) rfl))
    refine own_by st11 ?_
    show own_Go p e below s _ _ (T11.setTop (mkF m 28 #[.val (.ref a), .val (.ref b), .val (.int un)] []))
    refine own_by (fun tz kz => XS.aloadN X11.here hx rfl (hb hby d9_28) rfl rfl kz) ?_
    show own_Go p e below s _ _ (T11.setTop (mkF m 29 #[.val (.ref a), .val (.ref b), .val (.int un)] [(.ref a)]))
    refine own_by (fun tz kz => XS.dup X11.here hx rfl (hb hby d9_29) rfl rfl kz) ?_
    show own_Go p e below s _ _ (T11.setTop (mkF m 30 #[.val (.ref a), .val (.ref b), .val (.int un)] [(.ref a), (.ref a)]))
    have f12 := ((F_lowerUnit.keep Kq1 nin0).other W11 (Or.inr (slot_ne (Or.inl (hw _ (List.mem_of_getElem? (i := 11) rfl))) (Or.inl (hw _ (List.mem_of_getElem? (i := 71) rfl))) (by decide) (t := .boolean) (t' := .int) (by decide) (by decide))))
    obtain ⟨T13, X13, e13, st13⟩ := getF X11 hx hZ hown (host := "") (Or.inl (hw _ (List.mem_of_getElem? (i := 10) rfl))) Via.refl e11 f12 (g := (mkF m 30 #[.val (.ref a), .val (.ref b), .val (.int un)] [(.ref a), (.ref a)])) rfl rfl (hb hby d9_30)
    refine own_by st13 ?_
    show own_Go p e below s _ _ (T13.setTop (mkF m 33 #[.val (.ref a), .val (.ref b), .val (.int un)] [(.int lu), (.ref a)]))
    refine own_by (fun tz kz => XS.iloadN X13.here hx rfl (hb hby d9_33) rfl  kz) ?_
    show own_Go p e below s _ _ (T13.setTop (mkF m 34 #[.val (.ref a), .val (.ref b), .val (.int un)] [(.int un), (.int lu), (.ref a)]))
    refine own_by (fun tz kz => XS.iand X13.here hx rfl (hb hby d9_34) rfl kz) ?_
    show own_Go p e below s _ _ (T13.setTop (mkF m 35 #[.val (.ref a), .val (.ref b), .val (.int un)] [(.int (lu &&& un)), (.ref a)]))
    have f14 := (f10.wr W11)
    obtain ⟨T15, h15, X15, e15, W15, st15⟩ := putFN X13 hx hZ hown (hw _ (List.mem_of_getElem? (i := 10) rfl)) Via.refl e13 f12 f14 (Or.inl (hw _ (List.mem_of_getElem? (i := 11) rfl))) (hw _ (List.mem_of_getElem? (i := 2) rfl)) (ty := .boolean) (v' := (.int (lu &&& un))) (by decide) (own_and01 hlu hun).1 (own_and01 hlu hun).2.1 (g := (mkF m 35 #[.val (.ref a), .val (.ref b), .val (.int un)] [(.int (lu &&& un)), (.ref a)])) rfl rfl (hb hby d9_35)
    have Fw15 := f12.same W15
    have O15 := O11.wr W15 g_a
    have N15 := Fr.snoc X15 N11 g_a
    have K15 := K11.wr W15 (Or.inl (List.mem_of_getElem? (i := 0) rfl))
    refine own_by st15 ?_
    show own_Go p e below s _ _ (T15.setTop (mkF m 38 #[.val (.ref a), .val (.ref b), .val (.int un)] []))
    refine own_by (fun tz kz => XS.goto X15.here hx rfl (pc0 := 38) (pc' := 61) rfl (hb hby d9_38) (by decide) (by decide) kz) ?_
    show own_Go p e below s _ _ (T15.setTop (mkF m 61 #[.val (.ref a), .val (.ref b), .val (.int un)] []))
    have f16 := (Fw11.other W15 (Or.inr (slot_ne (Or.inl (hw _ (List.mem_of_getElem? (i := 71) rfl))) (Or.inl (hw _ (List.mem_of_getElem? (i := 11) rfl))) (by decide) (t := .int) (t' := .boolean) (by decide) (by decide))))
    have f17 := (((F_upper.keep Kq1 nin0).other W11 (Or.inr (slot_ne (Or.inl (hw _ (List.mem_of_getElem? (i := 83) rfl))) (Or.inl (hw _ (List.mem_of_getElem? (i := 71) rfl))) (by decide) (t := .int) (t' := .int) (by decide) (by decide)))).other W15 (Or.inr (slot_ne (Or.inl (hw _ (List.mem_of_getElem? (i := 83) rfl))) (Or.inl (hw _ (List.mem_of_getElem? (i := 11) rfl))) (by decide) (t := .int) (t' := .boolean) (by decide) (by decide))))
    have f18 := (((F_upperUnit.keep Kq1 nin0).other W11 (Or.inr (slot_ne (Or.inl (hw _ (List.mem_of_getElem? (i := 13) rfl))) (Or.inl (hw _ (List.mem_of_getElem? (i := 71) rfl))) (by decide) (t := .boolean) (t' := .int) (by decide) (by decide)))).other W15 (Or.inr (slot_ne (Or.inl (hw _ (List.mem_of_getElem? (i := 13) rfl))) (Or.inl (hw _ (List.mem_of_getElem? (i := 11) rfl))) (by decide) (t := .boolean) (t' := .boolean) (by decide) (by decide))))
    refine own_retV X15 hx hlk hret (hb hby d9_61) ?_ (by decide) (by decide)
    exact ⟨rfl, N15, by rw [e15]; exact K15, by rw [e15, hl1.trans (if_pos hc15_7)]; exact f16, by rw [e15, hu1.trans (if_pos hc15_7)]; exact f17, by rw [e15, hl2.trans (if_pos hc15_7)]; exact Fw15, by rw [e15, hu2.trans (if_pos hc15_7)]; exact f18⟩
  · refine own_by (fun tz kz => XS.ifYes X6.here hx rfl (pc0 := 15) (pc' := 41) rfl (hb hby d9_15) rfl ((if0 _ _).trans (flt hc15_7).2.2.2) (by decide) (by decide) kz) ?_
    show own_Go p e below s _ _ (T6.setTop (mkF m 41 #[.val (.ref a), .val (.ref b), .val (.int un)] []))
    refine own_by (fun tz kz => XS.aloadN X6.here hx rfl (hb hby d9_41) rfl rfl kz) ?_
    show own_Go p e below s _ _ (T6.setTop (mkF m 42 #[.val (.ref a), .val (.ref b), .val (.int un)] [(.ref a)]))
    refine own_by (fun tz kz => XS.dup X6.here hx rfl (hb hby d9_42) rfl rfl kz) ?_
    show own_Go p e below s _ _ (T6.setTop (mkF m 43 #[.val (.ref a), .val (.ref b), .val (.int un)] [(.ref a), (.ref a)]))
    have f19 := (F_upper.keep Kq1 nin0)
    obtain ⟨T20, X20, e20, st20⟩ := getF X6 hx hZ hown (host := "") (Or.inl (hw _ (List.mem_of_getElem? (i := 82) rfl))) Via.refl e6 f19 (g := (mkF m 43 #[.val (.ref a), .val (.ref b), .val (.int un)] [(.ref a), (.ref a)])) rfl rfl (hb hby d9_43)
    refine own_by st20 ?_
    show own_Go p e below s _ _ (T20.setTop (mkF m 46 #[.val (.ref a), .val (.ref b), .val (.int un)] [(.int u0), (.ref a)]))
    refine own_by (fun tz kz => XS.iconst X20.here hx rfl (hb hby d9_46) kz) ?_
    show own_Go p e below s _ _ (T20.setTop (mkF m 47 #[.val (.ref a), .val (.ref b), .val (.int un)] [(.int (1 : Int32)), (.int u0), (.ref a)]))
    refine own_by (fun tz kz => XS.iadd X20.here hx rfl (hb hby d9_47) rfl kz) ?_
    show own_Go p e below s _ _ (T20.setTop (mkF m 48 #[.val (.ref a), .val (.ref b), .val (.int un)] [(.int (u0 + (1 : Int32))), (.ref a)]))
    have f21 := (E_a.keep Kq1)
    obtain ⟨T22, h22, X22, e22, W22, st22⟩ := putF X20 hx hZ hown (host := "") (Or.inl (hw _ (List.mem_of_getElem? (i := 82) rfl))) Via.refl e20 f19 f21 (Or.inl (hw _ (List.mem_of_getElem? (i := 83) rfl))) (hw _ (List.mem_of_getElem? (i := 2) rfl)) (ty := .int) (by decide) rfl rfl (g := (mkF m 48 #[.val (.ref a), .val (.ref b), .val (.int un)] [(.int (u0 + (1 : Int32))), (.ref a)])) rfl rfl (hb hby d9_48)
    have Fw22 := f19.same W22
    have O22 := O1.wr W22 g_a
    have N22 := Fr.snoc X22 N6 g_a
    have K22 := K1.wr W22 (Or.inl (List.mem_of_getElem? (i := 0) rfl))
    refine own_by st22 ?_
    show own_Go p e below s _ _ (T22.setTop (mkF m 51 #[.val (.ref a), .val (.ref b), .val (.int un)] []))
    refine own_by (fun tz kz => XS.aloadN X22.here hx rfl (hb hby d9_51) rfl rfl kz) ?_
    show own_Go p e below s _ _ (T22.setTop (mkF m 52 #[.val (.ref a), .val (.ref b), .val (.int un)] [(.ref a)]))
    refine own_by (fun tz kz => XS.dup X22.here hx rfl (hb hby d9_52) rfl rfl kz) ?_
    show own_Go p e below s _ _ (T22.setTop (mkF m 53 #[.val (.ref a), .val (.ref b), .val (.int un)] [(.ref a), (.ref a)]))
    have f23 := ((F_upperUnit.keep Kq1 nin0).other W22 (Or.inr (slot_ne (Or.inl (hw _ (List.mem_of_getElem? (i := 13) rfl))) (Or.inl (hw _ (List.mem_of_getElem? (i := 83) rfl))) (by decide) (t := .boolean) (t' := .int) (by decide) (by decide))))
    obtain ⟨T24, X24, e24, st24⟩ := getF X22 hx hZ hown (host := "") (Or.inl (hw _ (List.mem_of_getElem? (i := 12) rfl))) Via.refl e22 f23 (g := (mkF m 53 #[.val (.ref a), .val (.ref b), .val (.int un)] [(.ref a), (.ref a)])) rfl rfl (hb hby d9_53)
    refine own_by st24 ?_
    show own_Go p e below s _ _ (T24.setTop (mkF m 56 #[.val (.ref a), .val (.ref b), .val (.int un)] [(.int uu), (.ref a)]))
    refine own_by (fun tz kz => XS.iloadN X24.here hx rfl (hb hby d9_56) rfl  kz) ?_
    show own_Go p e below s _ _ (T24.setTop (mkF m 57 #[.val (.ref a), .val (.ref b), .val (.int un)] [(.int un), (.int uu), (.ref a)]))
    refine own_by (fun tz kz => XS.iand X24.here hx rfl (hb hby d9_57) rfl kz) ?_
    show own_Go p e below s _ _ (T24.setTop (mkF m 58 #[.val (.ref a), .val (.ref b), .val (.int un)] [(.int (uu &&& un)), (.ref a)]))
    have f25 := (f21.wr W22)
    obtain ⟨T26, h26, X26, e26, W26, st26⟩ := putFN X24 hx hZ hown (hw _ (List.mem_of_getElem? (i := 12) rfl)) Via.refl e24 f23 f25 (Or.inl (hw _ (List.mem_of_getElem? (i := 13) rfl))) (hw _ (List.mem_of_getElem? (i := 2) rfl)) (ty := .boolean) (v' := (.int (uu &&& un))) (by decide) (own_and01 huu hun).1 (own_and01 huu hun).2.1 (g := (mkF m 58 #[.val (.ref a), .val (.ref b), .val (.int un)] [(.int (uu &&& un)), (.ref a)])) rfl rfl (hb hby d9_58)
    have Fw26 := f23.same W26
    have O26 := O22.wr W26 g_a
    have N26 := Fr.snoc X26 N22 g_a
    have K26 := K22.wr W26 (Or.inl (List.mem_of_getElem? (i := 0) rfl))
    refine own_by st26 ?_
    show own_Go p e below s _ _ (T26.setTop (mkF m 61 #[.val (.ref a), .val (.ref b), .val (.int un)] []))
    have f27 := (((F_lower.keep Kq1 nin0).other W22 (Or.inr (slot_ne (Or.inl (hw _ (List.mem_of_getElem? (i := 71) rfl))) (Or.inl (hw _ (List.mem_of_getElem? (i := 83) rfl))) (by decide) (t := .int) (t' := .int) (by decide) (by decide)))).other W26 (Or.inr (slot_ne (Or.inl (hw _ (List.mem_of_getElem? (i := 71) rfl))) (Or.inl (hw _ (List.mem_of_getElem? (i := 13) rfl))) (by decide) (t := .int) (t' := .boolean) (by decide) (by decide))))
    have f28 := (Fw22.other W26 (Or.inr (slot_ne (Or.inl (hw _ (List.mem_of_getElem? (i := 83) rfl))) (Or.inl (hw _ (List.mem_of_getElem? (i := 13) rfl))) (by decide) (t := .int) (t' := .boolean) (by decide) (by decide))))
    have f29 := (((F_lowerUnit.keep Kq1 nin0).other W22 (Or.inr (slot_ne (Or.inl (hw _ (List.mem_of_getElem? (i := 11) rfl))) (Or.inl (hw _ (List.mem_of_getElem? (i := 83) rfl))) (by decide) (t := .boolean) (t' := .int) (by decide) (by decide)))).other W26 (Or.inr (slot_ne (Or.inl (hw _ (List.mem_of_getElem? (i := 11) rfl))) (Or.inl (hw _ (List.mem_of_getElem? (i := 13) rfl))) (by decide) (t := .boolean) (t' := .boolean) (by decide) (by decide))))
    refine own_retV X26 hx hlk hret (hb hby d9_61) ?_ (by decide) (by decide)
    exact ⟨rfl, N26, by rw [e26]; exact K26, by rw [e26, hl1.trans (if_neg hc15_7)]; exact f27, by rw [e26, hu1.trans (if_neg hc15_7)]; exact f28, by rw [e26, hl2.trans (if_neg hc15_7)]; exact f29, by rw [e26, hu2.trans (if_neg hc15_7)]; exact Fw26⟩
def own_up (x : Int64) (l : Int32) : Int32 := if (0 : Int32) < own_sg x then l + (1 : Int32) else l
def own_dn (x : Int64) (u : Int32) : Int32 := if (0 : Int32) < own_sg x then u else u + (1 : Int32)
def own_lu (x : Int64) (l : Int32) : Int32 := if (0 : Int32) < own_sg x then (l &&& own_un x) else l
def own_uu (x : Int64) (u : Int32) : Int32 := if (0 : Int32) < own_sg x then u else (u &&& own_un x)
theorem own_lu_or (x : Int64) {l : Int32} (h : l = (0 : Int32) ∨ l = (1 : Int32)) : own_lu x l = (0 : Int32) ∨ own_lu x l = (1 : Int32) := by
  unfold own_lu
  by_cases q : (0 : Int32) < own_sg x
  · rw [if_pos q]; exact (own_and01 h (own_un_or x)).2.2
  · rw [if_neg q]; exact h
theorem own_uu_or (x : Int64) {l : Int32} (h : l = (0 : Int32) ∨ l = (1 : Int32)) : own_uu x l = (0 : Int32) ∨ own_uu x l = (1 : Int32) := by
  unfold own_uu
  by_cases q : (0 : Int32) < own_sg x
  · rw [if_pos q]; exact h
  · rw [if_neg q]; exact (own_and01 h (own_un_or x)).2.2
def own_lf (z : Int32) (c : Int64) : Int32 := if z = (0 : Int32) ∨ c < (0 : Int64) ∨ c = (1 : Int64) then (1 : Int32) else (0 : Int32)
def own_uf (z : Int32) (c : Int64) : Int32 := if z = (0 : Int32) ∨ (0 : Int64) < c ∨ c = (-1 : Int64) then (1 : Int32) else (0 : Int32)
def own_all (a b c d : Int32) : Int32 := if a = (0 : Int32) ∨ b = (0 : Int32) ∨ c = (0 : Int32) ∨ d = (0 : Int32) then (0 : Int32) else (1 : Int32)
theorem own_ex {a b lo up : Int32} (h1 : a = lo) (h2 : b = up) : (if ¬ lo = (0 : Int32) ∨ ¬ up = (0 : Int32) then (1 : Int32) else (0 : Int32)) = if ¬ a = (0 : Int32) ∨ ¬ b = (0 : Int32) then (1 : Int32) else (0 : Int32) := by subst h1 h2; rfl
theorem own_lf0 (c : Int64) : (1 : Int32) = own_lf (0 : Int32) c := (if_pos (Or.inl rfl)).symm
theorem own_uf0 (c : Int64) : (1 : Int32) = own_uf (0 : Int32) c := (if_pos (Or.inl rfl)).symm
/-- what adding c does to the two flags -/
theorem own_flag (c : Int64) (h0 : ¬ c = (0 : Int64)) : ((∀ l, own_lu c l = l) ∧ own_lf (1 : Int32) c = (1 : Int32) ∨ (∀ l, own_lu c l = (l &&& (0 : Int32))) ∧ own_lf (1 : Int32) c = (0 : Int32) ∨ (∀ l, own_lu c l = (l &&& (1 : Int32))) ∧ own_lf (1 : Int32) c = (1 : Int32)) ∧ ((∀ l, own_uu c l = l) ∧ own_uf (1 : Int32) c = (1 : Int32) ∨ (∀ l, own_uu c l = (l &&& (0 : Int32))) ∧ own_uf (1 : Int32) c = (0 : Int32) ∨ (∀ l, own_uu c l = (l &&& (1 : Int32))) ∧ own_uf (1 : Int32) c = (1 : Int32)) := by
  have e0 : (0 : Int64).toInt = 0 := by decide
  have e1 : (1 : Int64).toInt = 1 := by decide
  have e2 : (-1 : Int64).toInt = -1 := by decide
  by_cases h : (0 : Int64) < c
  · have s : own_sg c = (1 : Int32) := if_pos h
    have hn : ¬ c < (0 : Int64) := by rw [Int64.lt_iff_toInt_lt] at h ⊢; omega
    have hm : ¬ c = (-1 : Int64) := fun q => by rw [q] at h; exact absurd h (by decide)
    refine ⟨?_, Or.inl ⟨fun l => by unfold own_uu; rw [s]; exact if_pos (by decide), if_pos (Or.inr (Or.inl h))⟩⟩
    by_cases g : c = (1 : Int64)
    · have u : own_un c = (1 : Int32) := if_pos (Or.inl g)
      exact Or.inr (Or.inr ⟨fun l => by unfold own_lu; rw [s, u]; exact if_pos (by decide), if_pos (Or.inr (Or.inr g))⟩)
    · have u : own_un c = (0 : Int32) := if_neg (fun q => q.elim g hm)
      exact Or.inr (Or.inl ⟨fun l => by unfold own_lu; rw [s, u]; exact if_pos (by decide), if_neg (fun q => q.elim (by decide) (fun q => q.elim hn g))⟩)
  · have s : own_sg c = (-1 : Int32) := if_neg h
    have hn : c < (0 : Int64) := own_neg h0 h
    have hm : ¬ c = (1 : Int64) := fun q => by rw [q] at hn; exact absurd hn (by decide)
    refine ⟨Or.inl ⟨fun l => by unfold own_lu; rw [s]; exact if_neg (by decide), if_pos (Or.inr (Or.inl hn))⟩, ?_⟩
    by_cases g : c = (-1 : Int64)
    · have u : own_un c = (1 : Int32) := if_pos (Or.inr g)
      exact Or.inr (Or.inr ⟨fun l => by unfold own_uu; rw [s, u]; exact if_neg (by decide), if_pos (Or.inr (Or.inr g))⟩)
    · have u : own_un c = (0 : Int32) := if_neg (fun q => q.elim hm g)
      exact Or.inr (Or.inl ⟨fun l => by unfold own_uu; rw [s, u]; exact if_neg (by decide), if_neg (fun q => q.elim (by decide) (fun q => q.elim h g))⟩)
theorem own_rell0 (c0 c1 c2 c3 : Int64)  : (1 : Int32) = own_all (1 : Int32) (1 : Int32) (1 : Int32) (1 : Int32) := by
  decide
theorem own_relu0 (c0 c1 c2 c3 : Int64)  : (1 : Int32) = own_all (1 : Int32) (1 : Int32) (1 : Int32) (1 : Int32) := by
  decide
theorem own_rell1 (c0 c1 c2 c3 : Int64) {F0 : Int32} (h0 : F0 = own_lf (1 : Int32) c0) (z0 : ¬ c0 = (0 : Int64)) : (own_lu c0 (1 : Int32)) = own_all F0 (1 : Int32) (1 : Int32) (1 : Int32) := by
  subst h0
  rcases (own_flag c0 z0).1 with ⟨a0, b0⟩ | ⟨a0, b0⟩ | ⟨a0, b0⟩ <;> simp only [a0, b0] <;> decide
theorem own_relu1 (c0 c1 c2 c3 : Int64) {F0 : Int32} (h0 : F0 = own_uf (1 : Int32) c0) (z0 : ¬ c0 = (0 : Int64)) : (own_uu c0 (1 : Int32)) = own_all F0 (1 : Int32) (1 : Int32) (1 : Int32) := by
  subst h0
  rcases (own_flag c0 z0).2 with ⟨a0, b0⟩ | ⟨a0, b0⟩ | ⟨a0, b0⟩ <;> simp only [a0, b0] <;> decide
theorem own_rell2 (c0 c1 c2 c3 : Int64) {F0 : Int32} (h0 : F0 = own_lf (1 : Int32) c0) (z0 : ¬ c0 = (0 : Int64)) {F1 : Int32} (h1 : F1 = own_lf (1 : Int32) c1) (z1 : ¬ c1 = (0 : Int64)) : (own_lu c1 (own_lu c0 (1 : Int32))) = own_all F0 F1 (1 : Int32) (1 : Int32) := by
  subst h0
  subst h1
  rcases (own_flag c0 z0).1 with ⟨a0, b0⟩ | ⟨a0, b0⟩ | ⟨a0, b0⟩ <;> rcases (own_flag c1 z1).1 with ⟨a1, b1⟩ | ⟨a1, b1⟩ | ⟨a1, b1⟩ <;> simp only [a0, b0, a1, b1] <;> decide
theorem own_relu2 (c0 c1 c2 c3 : Int64) {F0 : Int32} (h0 : F0 = own_uf (1 : Int32) c0) (z0 : ¬ c0 = (0 : Int64)) {F1 : Int32} (h1 : F1 = own_uf (1 : Int32) c1) (z1 : ¬ c1 = (0 : Int64)) : (own_uu c1 (own_uu c0 (1 : Int32))) = own_all F0 F1 (1 : Int32) (1 : Int32) := by
  subst h0
  subst h1
  rcases (own_flag c0 z0).2 with ⟨a0, b0⟩ | ⟨a0, b0⟩ | ⟨a0, b0⟩ <;> rcases (own_flag c1 z1).2 with ⟨a1, b1⟩ | ⟨a1, b1⟩ | ⟨a1, b1⟩ <;> simp only [a0, b0, a1, b1] <;> decide
theorem own_rell3 (c0 c1 c2 c3 : Int64) {F0 : Int32} (h0 : F0 = own_lf (1 : Int32) c0) (z0 : ¬ c0 = (0 : Int64)) {F1 : Int32} (h1 : F1 = own_lf (1 : Int32) c1) (z1 : ¬ c1 = (0 : Int64)) {F2 : Int32} (h2 : F2 = own_lf (1 : Int32) c2) (z2 : ¬ c2 = (0 : Int64)) : (own_lu c2 (own_lu c1 (own_lu c0 (1 : Int32)))) = own_all F0 F1 F2 (1 : Int32) := by
  subst h0
  subst h1
  subst h2
  rcases (own_flag c0 z0).1 with ⟨a0, b0⟩ | ⟨a0, b0⟩ | ⟨a0, b0⟩ <;> rcases (own_flag c1 z1).1 with ⟨a1, b1⟩ | ⟨a1, b1⟩ | ⟨a1, b1⟩ <;> rcases (own_flag c2 z2).1 with ⟨a2, b2⟩ | ⟨a2, b2⟩ | ⟨a2, b2⟩ <;> simp only [a0, b0, a1, b1, a2, b2] <;> decide
theorem own_relu3 (c0 c1 c2 c3 : Int64) {F0 : Int32} (h0 : F0 = own_uf (1 : Int32) c0) (z0 : ¬ c0 = (0 : Int64)) {F1 : Int32} (h1 : F1 = own_uf (1 : Int32) c1) (z1 : ¬ c1 = (0 : Int64)) {F2 : Int32} (h2 : F2 = own_uf (1 : Int32) c2) (z2 : ¬ c2 = (0 : Int64)) : (own_uu c2 (own_uu c1 (own_uu c0 (1 : Int32)))) = own_all F0 F1 F2 (1 : Int32) := by
  subst h0
  subst h1
  subst h2
  rcases (own_flag c0 z0).2 with ⟨a0, b0⟩ | ⟨a0, b0⟩ | ⟨a0, b0⟩ <;> rcases (own_flag c1 z1).2 with ⟨a1, b1⟩ | ⟨a1, b1⟩ | ⟨a1, b1⟩ <;> rcases (own_flag c2 z2).2 with ⟨a2, b2⟩ | ⟨a2, b2⟩ | ⟨a2, b2⟩ <;> simp only [a0, b0, a1, b1, a2, b2] <;> decide
theorem own_rell4 (c0 c1 c2 c3 : Int64) {F0 : Int32} (h0 : F0 = own_lf (1 : Int32) c0) (z0 : ¬ c0 = (0 : Int64)) {F1 : Int32} (h1 : F1 = own_lf (1 : Int32) c1) (z1 : ¬ c1 = (0 : Int64)) {F2 : Int32} (h2 : F2 = own_lf (1 : Int32) c2) (z2 : ¬ c2 = (0 : Int64)) {F3 : Int32} (h3 : F3 = own_lf (1 : Int32) c3) (z3 : ¬ c3 = (0 : Int64)) : (own_lu c3 (own_lu c2 (own_lu c1 (own_lu c0 (1 : Int32))))) = own_all F0 F1 F2 F3 := by
  subst h0
  subst h1
  subst h2
  subst h3
  rcases (own_flag c0 z0).1 with ⟨a0, b0⟩ | ⟨a0, b0⟩ | ⟨a0, b0⟩ <;> rcases (own_flag c1 z1).1 with ⟨a1, b1⟩ | ⟨a1, b1⟩ | ⟨a1, b1⟩ <;> rcases (own_flag c2 z2).1 with ⟨a2, b2⟩ | ⟨a2, b2⟩ | ⟨a2, b2⟩ <;> rcases (own_flag c3 z3).1 with ⟨a3, b3⟩ | ⟨a3, b3⟩ | ⟨a3, b3⟩ <;> simp only [a0, b0, a1, b1, a2, b2, a3, b3] <;> decide
theorem own_relu4 (c0 c1 c2 c3 : Int64) {F0 : Int32} (h0 : F0 = own_uf (1 : Int32) c0) (z0 : ¬ c0 = (0 : Int64)) {F1 : Int32} (h1 : F1 = own_uf (1 : Int32) c1) (z1 : ¬ c1 = (0 : Int64)) {F2 : Int32} (h2 : F2 = own_uf (1 : Int32) c2) (z2 : ¬ c2 = (0 : Int64)) {F3 : Int32} (h3 : F3 = own_uf (1 : Int32) c3) (z3 : ¬ c3 = (0 : Int64)) : (own_uu c3 (own_uu c2 (own_uu c1 (own_uu c0 (1 : Int32))))) = own_all F0 F1 F2 F3 := by
  subst h0
  subst h1
  subst h2
  subst h3
  rcases (own_flag c0 z0).2 with ⟨a0, b0⟩ | ⟨a0, b0⟩ | ⟨a0, b0⟩ <;> rcases (own_flag c1 z1).2 with ⟨a1, b1⟩ | ⟨a1, b1⟩ | ⟨a1, b1⟩ <;> rcases (own_flag c2 z2).2 with ⟨a2, b2⟩ | ⟨a2, b2⟩ | ⟨a2, b2⟩ <;> rcases (own_flag c3 z3).2 with ⟨a3, b3⟩ | ⟨a3, b3⟩ | ⟨a3, b3⟩ <;> simp only [a0, b0, a1, b1, a2, b2, a3, b3] <;> decide
def Q_rm_lowerFine (Z : State) (z : Int32) (cc : Int64) (r : Int32) (h0 : Heap) (n0 : Nat) (v : Option Value) (h : Heap) (L : List Loc) : Prop := v = some (.int r) ∧ Fr n0 L ∧ h = h0
set_option maxRecDepth 65536 in
set_option maxHeartbeats 40000000 in
theorem rm_lowerFine (l : Launch) (Z : State) (a0 : Array Value) (hw : ∀ d ∈ tables_1, d.before a0 Z = true) (ws : List Jvm.Cond) (z : Int32) (cc : Int64) (r : Int32) (h0 : Heap) (n0 : Nat) (hr : r = own_lf z cc) :
    MetFree l (⟨"com/example/liftwise/liftwise/eval/arithmetic/SidesIsExactPinLaw", "lowerFine", "(ZJ)Z"⟩ : MethodName) (head1 (Jvm.Cond.code (⟨"com/example/liftwise/liftwise/eval/arithmetic/SidesIsExactPinLaw", "lowerFine", "(ZJ)Z"⟩ : MethodName) method_3_code 3 (some .boolean) :: ws) ({ frames := 0, cells := 0, slots := 0, locals := 0 } : Room)) (fun ar U => ar = #[(.int z), (.long cc)] ∧ Z.Warmed39 U.vm ∧ U.heap = h0) (fun _ _ _ _ _ => True) (fun _ U o U' => ∃ v L, o = .returned v ∧ Q_rm_lowerFine Z z cc r h0 n0 v U'.heap L ∧ FrameEnd U o U' L ({ frames := 0, cells := 0, slots := 0, locals := 0 } : Room).cells ({ frames := 0, cells := 0, slots := 0, locals := 0 } : Room).slots) := by
  refine own_enter (Q := (Q_rm_lowerFine Z z cc r h0 n0)) pl_3 ?_
  intro p e s m below meth c s₁ X0 hx hZ hby hml hown hnm hret hlk e0
  have N0 := Fr.nil n0
  refine own_by (fun tz kz => castTop (g' := (mkF m 0 #[.val (.int z), .val (.long cc), .second] [])) (by first | (simp [entryFrame, mkF, argsToLocals, Value.category]; done) | rfl) kz) ?_
  show own_Go p e below s _ _ (s₁.setTop (mkF m 0 #[.val (.int z), .val (.long cc), .second] []))
  refine own_by (fun tz kz => XS.iloadN X0.here hx rfl (hb hby d3_0) rfl  kz) ?_
  show own_Go p e below s _ _ (s₁.setTop (mkF m 1 #[.val (.int z), .val (.long cc), .second] [(.int z)]))
  by_cases hc1_1 : z = (0 : Int32)
  · refine own_by (fun tz kz => XS.ifYes X0.here hx rfl (pc0 := 1) (pc' := 16) rfl (hb hby d3_1) rfl ((if0 _ _).trans (teq hc1_1).1) (by decide) (by decide) kz) ?_
    show own_Go p e below s _ _ (s₁.setTop (mkF m 16 #[.val (.int z), .val (.long cc), .second] []))
    refine own_by (fun tz kz => XS.iconst X0.here hx rfl (hb hby d3_16) kz) ?_
    show own_Go p e below s _ _ (s₁.setTop (mkF m 17 #[.val (.int z), .val (.long cc), .second] [(.int (1 : Int32))]))
    refine own_by (fun tz kz => XS.goto X0.here hx rfl (pc0 := 17) (pc' := 21) rfl (hb hby d3_17) (by decide) (by decide) kz) ?_
    show own_Go p e below s _ _ (s₁.setTop (mkF m 21 #[.val (.int z), .val (.long cc), .second] [(.int (1 : Int32))]))
    refine own_retI X0 hx hlk (t := .boolean) hret (by simp) rfl (hb hby d3_21) ?_ (by decide) (by decide)
    exact ⟨by simp [hr, own_lf, hc1_1], N0, e0⟩
  · refine own_by (fun tz kz => XS.ifNo X0.here hx rfl (hb hby d3_1) rfl ((if0 _ _).trans (feq hc1_1).1) kz) ?_
    show own_Go p e below s _ _ (s₁.setTop (mkF m 4 #[.val (.int z), .val (.long cc), .second] []))
    refine own_by (fun tz kz => XS.lloadN X0.here hx rfl (hb hby d3_4) rfl kz) ?_
    show own_Go p e below s _ _ (s₁.setTop (mkF m 5 #[.val (.int z), .val (.long cc), .second] [(.long cc)]))
    refine own_by (fun tz kz => XS.lconst X0.here hx rfl (hb hby d3_5) kz) ?_
    show own_Go p e below s _ _ (s₁.setTop (mkF m 6 #[.val (.int z), .val (.long cc), .second] [(.long (0 : Int64)), (.long cc)]))
    refine own_by (fun tz kz => XS.lcmp X0.here hx rfl (hb hby d3_6) rfl kz) ?_
    show own_Go p e below s _ _ (s₁.setTop (mkF m 7 #[.val (.int z), .val (.long cc), .second] [(.int (lcmpW cc (0 : Int64)))]))
    by_cases hc7_2 : cc < (0 : Int64)
    · refine own_by (fun tz kz => XS.ifYes X0.here hx rfl (pc0 := 7) (pc' := 16) rfl (hb hby d3_7) rfl ((if0 _ _).trans (tlt ((lw_lt cc (0 : Int64)).mpr hc7_2)).1) (by decide) (by decide) kz) ?_
      show own_Go p e below s _ _ (s₁.setTop (mkF m 16 #[.val (.int z), .val (.long cc), .second] []))
      refine own_by (fun tz kz => XS.iconst X0.here hx rfl (hb hby d3_16) kz) ?_
      show own_Go p e below s _ _ (s₁.setTop (mkF m 17 #[.val (.int z), .val (.long cc), .second] [(.int (1 : Int32))]))
      refine own_by (fun tz kz => XS.goto X0.here hx rfl (pc0 := 17) (pc' := 21) rfl (hb hby d3_17) (by decide) (by decide) kz) ?_
      show own_Go p e below s _ _ (s₁.setTop (mkF m 21 #[.val (.int z), .val (.long cc), .second] [(.int (1 : Int32))]))
      refine own_retI X0 hx hlk (t := .boolean) hret (by simp) rfl (hb hby d3_21) ?_ (by decide) (by decide)
      exact ⟨by simp [hr, own_lf, hc1_1, hc7_2], N0, e0⟩
    · refine own_by (fun tz kz => XS.ifNo X0.here hx rfl (hb hby d3_7) rfl ((if0 _ _).trans (flt (fun q => hc7_2 ((lw_lt cc (0 : Int64)).mp q))).1) kz) ?_
      show own_Go p e below s _ _ (s₁.setTop (mkF m 10 #[.val (.int z), .val (.long cc), .second] []))
      refine own_by (fun tz kz => XS.lloadN X0.here hx rfl (hb hby d3_10) rfl kz) ?_
      show own_Go p e below s _ _ (s₁.setTop (mkF m 11 #[.val (.int z), .val (.long cc), .second] [(.long cc)]))
      refine own_by (fun tz kz => XS.lconst X0.here hx rfl (hb hby d3_11) kz) ?_
      show own_Go p e below s _ _ (s₁.setTop (mkF m 12 #[.val (.int z), .val (.long cc), .second] [(.long (1 : Int64)), (.long cc)]))
      refine own_by (fun tz kz => XS.lcmp X0.here hx rfl (hb hby d3_12) rfl kz) ?_
      show own_Go p e below s _ _ (s₁.setTop (mkF m 13 #[.val (.int z), .val (.long cc), .second] [(.int (lcmpW cc (1 : Int64)))]))
      by_cases hc13_3 : cc = (1 : Int64)
      · refine own_by (fun tz kz => XS.ifNo X0.here hx rfl (hb hby d3_13) rfl ((if0 _ _).trans (teq ((lw_eq cc (1 : Int64)).mpr hc13_3)).2) kz) ?_
        show own_Go p e below s _ _ (s₁.setTop (mkF m 16 #[.val (.int z), .val (.long cc), .second] []))
        refine own_by (fun tz kz => XS.iconst X0.here hx rfl (hb hby d3_16) kz) ?_
        show own_Go p e below s _ _ (s₁.setTop (mkF m 17 #[.val (.int z), .val (.long cc), .second] [(.int (1 : Int32))]))
        refine own_by (fun tz kz => XS.goto X0.here hx rfl (pc0 := 17) (pc' := 21) rfl (hb hby d3_17) (by decide) (by decide) kz) ?_
        show own_Go p e below s _ _ (s₁.setTop (mkF m 21 #[.val (.int z), .val (.long cc), .second] [(.int (1 : Int32))]))
        refine own_retI X0 hx hlk (t := .boolean) hret (by simp) rfl (hb hby d3_21) ?_ (by decide) (by decide)
        exact ⟨by simp [hr, own_lf, hc1_1, hc7_2, hc13_3], N0, e0⟩
      · refine own_by (fun tz kz => XS.ifYes X0.here hx rfl (pc0 := 13) (pc' := 20) rfl (hb hby d3_13) rfl ((if0 _ _).trans (feq (fun q => hc13_3 ((lw_eq cc (1 : Int64)).mp q))).2) (by decide) (by decide) kz) ?_
        show own_Go p e below s _ _ (s₁.setTop (mkF m 20 #[.val (.int z), .val (.long cc), .second] []))
        refine own_by (fun tz kz => XS.iconst X0.here hx rfl (hb hby d3_20) kz) ?_
        show own_Go p e below s _ _ (s₁.setTop (mkF m 21 #[.val (.int z), .val (.long cc), .second] [(.int (0 : Int32))]))
        refine own_retI X0 hx hlk (t := .boolean) hret (by simp) rfl (hb hby d3_21) ?_ (by decide) (by decide)
        exact ⟨by simp [hr, own_lf, hc1_1, hc7_2, hc13_3], N0, e0⟩
def Q_rm_upperFine (Z : State) (z : Int32) (cc : Int64) (r : Int32) (h0 : Heap) (n0 : Nat) (v : Option Value) (h : Heap) (L : List Loc) : Prop := v = some (.int r) ∧ Fr n0 L ∧ h = h0
set_option maxRecDepth 65536 in
set_option maxHeartbeats 40000000 in
theorem rm_upperFine (l : Launch) (Z : State) (a0 : Array Value) (hw : ∀ d ∈ tables_1, d.before a0 Z = true) (ws : List Jvm.Cond) (z : Int32) (cc : Int64) (r : Int32) (h0 : Heap) (n0 : Nat) (hr : r = own_uf z cc) :
    MetFree l (⟨"com/example/liftwise/liftwise/eval/arithmetic/SidesIsExactPinLaw", "upperFine", "(ZJ)Z"⟩ : MethodName) (head1 (Jvm.Cond.code (⟨"com/example/liftwise/liftwise/eval/arithmetic/SidesIsExactPinLaw", "upperFine", "(ZJ)Z"⟩ : MethodName) method_4_code 3 (some .boolean) :: ws) ({ frames := 0, cells := 0, slots := 0, locals := 0 } : Room)) (fun ar U => ar = #[(.int z), (.long cc)] ∧ Z.Warmed39 U.vm ∧ U.heap = h0) (fun _ _ _ _ _ => True) (fun _ U o U' => ∃ v L, o = .returned v ∧ Q_rm_upperFine Z z cc r h0 n0 v U'.heap L ∧ FrameEnd U o U' L ({ frames := 0, cells := 0, slots := 0, locals := 0 } : Room).cells ({ frames := 0, cells := 0, slots := 0, locals := 0 } : Room).slots) := by
  refine own_enter (Q := (Q_rm_upperFine Z z cc r h0 n0)) pl_4 ?_
  intro p e s m below meth c s₁ X0 hx hZ hby hml hown hnm hret hlk e0
  have N0 := Fr.nil n0
  refine own_by (fun tz kz => castTop (g' := (mkF m 0 #[.val (.int z), .val (.long cc), .second] [])) (by first | (simp [entryFrame, mkF, argsToLocals, Value.category]; done) | rfl) kz) ?_
  show own_Go p e below s _ _ (s₁.setTop (mkF m 0 #[.val (.int z), .val (.long cc), .second] []))
  refine own_by (fun tz kz => XS.iloadN X0.here hx rfl (hb hby d4_0) rfl  kz) ?_
  show own_Go p e below s _ _ (s₁.setTop (mkF m 1 #[.val (.int z), .val (.long cc), .second] [(.int z)]))
  by_cases hc1_1 : z = (0 : Int32)
  · refine own_by (fun tz kz => XS.ifYes X0.here hx rfl (pc0 := 1) (pc' := 18) rfl (hb hby d4_1) rfl ((if0 _ _).trans (teq hc1_1).1) (by decide) (by decide) kz) ?_
    show own_Go p e below s _ _ (s₁.setTop (mkF m 18 #[.val (.int z), .val (.long cc), .second] []))
    refine own_by (fun tz kz => XS.iconst X0.here hx rfl (hb hby d4_18) kz) ?_
    show own_Go p e below s _ _ (s₁.setTop (mkF m 19 #[.val (.int z), .val (.long cc), .second] [(.int (1 : Int32))]))
    refine own_by (fun tz kz => XS.goto X0.here hx rfl (pc0 := 19) (pc' := 23) rfl (hb hby d4_19) (by decide) (by decide) kz) ?_
    show own_Go p e below s _ _ (s₁.setTop (mkF m 23 #[.val (.int z), .val (.long cc), .second] [(.int (1 : Int32))]))
    refine own_retI X0 hx hlk (t := .boolean) hret (by simp) rfl (hb hby d4_23) ?_ (by decide) (by decide)
    exact ⟨by simp [hr, own_uf, hc1_1], N0, e0⟩
  · refine own_by (fun tz kz => XS.ifNo X0.here hx rfl (hb hby d4_1) rfl ((if0 _ _).trans (feq hc1_1).1) kz) ?_
    show own_Go p e below s _ _ (s₁.setTop (mkF m 4 #[.val (.int z), .val (.long cc), .second] []))
    refine own_by (fun tz kz => XS.lloadN X0.here hx rfl (hb hby d4_4) rfl kz) ?_
    show own_Go p e below s _ _ (s₁.setTop (mkF m 5 #[.val (.int z), .val (.long cc), .second] [(.long cc)]))
    refine own_by (fun tz kz => XS.lconst X0.here hx rfl (hb hby d4_5) kz) ?_
    show own_Go p e below s _ _ (s₁.setTop (mkF m 6 #[.val (.int z), .val (.long cc), .second] [(.long (0 : Int64)), (.long cc)]))
    refine own_by (fun tz kz => XS.lcmp X0.here hx rfl (hb hby d4_6) rfl kz) ?_
    show own_Go p e below s _ _ (s₁.setTop (mkF m 7 #[.val (.int z), .val (.long cc), .second] [(.int (lcmpW cc (0 : Int64)))]))
    by_cases hc7_2 : (0 : Int64) < cc
    · refine own_by (fun tz kz => XS.ifYes X0.here hx rfl (pc0 := 7) (pc' := 18) rfl (hb hby d4_7) rfl ((if0 _ _).trans (tlt ((lw_gt cc (0 : Int64)).mpr hc7_2)).2.2.1) (by decide) (by decide) kz) ?_
      show own_Go p e below s _ _ (s₁.setTop (mkF m 18 #[.val (.int z), .val (.long cc), .second] []))
      refine own_by (fun tz kz => XS.iconst X0.here hx rfl (hb hby d4_18) kz) ?_
      show own_Go p e below s _ _ (s₁.setTop (mkF m 19 #[.val (.int z), .val (.long cc), .second] [(.int (1 : Int32))]))
      refine own_by (fun tz kz => XS.goto X0.here hx rfl (pc0 := 19) (pc' := 23) rfl (hb hby d4_19) (by decide) (by decide) kz) ?_
      show own_Go p e below s _ _ (s₁.setTop (mkF m 23 #[.val (.int z), .val (.long cc), .second] [(.int (1 : Int32))]))
      refine own_retI X0 hx hlk (t := .boolean) hret (by simp) rfl (hb hby d4_23) ?_ (by decide) (by decide)
      exact ⟨by simp [hr, own_uf, hc1_1, hc7_2], N0, e0⟩
    · refine own_by (fun tz kz => XS.ifNo X0.here hx rfl (hb hby d4_7) rfl ((if0 _ _).trans (flt (fun q => hc7_2 ((lw_gt cc (0 : Int64)).mp q))).2.2.1) kz) ?_
      show own_Go p e below s _ _ (s₁.setTop (mkF m 10 #[.val (.int z), .val (.long cc), .second] []))
      refine own_by (fun tz kz => XS.lloadN X0.here hx rfl (hb hby d4_10) rfl kz) ?_
      show own_Go p e below s _ _ (s₁.setTop (mkF m 11 #[.val (.int z), .val (.long cc), .second] [(.long cc)]))
      refine own_by (fun tz kz => X0.ldc2Long hx hown (mvT hZ (hw _ (List.mem_of_getElem? (i := 85) rfl))) (g := (mkF m 11 #[.val (.int z), .val (.long cc), .second] [(.long cc)])) rfl (hb hby d4_11) _ kz) ?_
      show own_Go p e below s _ _ (s₁.setTop (mkF m 14 #[.val (.int z), .val (.long cc), .second] [(.long (-1 : Int64)), (.long cc)]))
      refine own_by (fun tz kz => XS.lcmp X0.here hx rfl (hb hby d4_14) rfl kz) ?_
      show own_Go p e below s _ _ (s₁.setTop (mkF m 15 #[.val (.int z), .val (.long cc), .second] [(.int (lcmpW cc (-1 : Int64)))]))
      by_cases hc15_3 : cc = (-1 : Int64)
      · refine own_by (fun tz kz => XS.ifNo X0.here hx rfl (hb hby d4_15) rfl ((if0 _ _).trans (teq ((lw_eq cc (-1 : Int64)).mpr hc15_3)).2) kz) ?_
        show own_Go p e below s _ _ (s₁.setTop (mkF m 18 #[.val (.int z), .val (.long cc), .second] []))
        refine own_by (fun tz kz => XS.iconst X0.here hx rfl (hb hby d4_18) kz) ?_
        show own_Go p e below s _ _ (s₁.setTop (mkF m 19 #[.val (.int z), .val (.long cc), .second] [(.int (1 : Int32))]))
        refine own_by (fun tz kz => XS.goto X0.here hx rfl (pc0 := 19) (pc' := 23) rfl (hb hby d4_19) (by decide) (by decide) kz) ?_
        show own_Go p e below s _ _ (s₁.setTop (mkF m 23 #[.val (.int z), .val (.long cc), .second] [(.int (1 : Int32))]))
        refine own_retI X0 hx hlk (t := .boolean) hret (by simp) rfl (hb hby d4_23) ?_ (by decide) (by decide)
        exact ⟨by simp [hr, own_uf, hc1_1, hc7_2, hc15_3], N0, e0⟩
      · refine own_by (fun tz kz => XS.ifYes X0.here hx rfl (pc0 := 15) (pc' := 22) rfl (hb hby d4_15) rfl ((if0 _ _).trans (feq (fun q => hc15_3 ((lw_eq cc (-1 : Int64)).mp q))).2) (by decide) (by decide) kz) ?_
        show own_Go p e below s _ _ (s₁.setTop (mkF m 22 #[.val (.int z), .val (.long cc), .second] []))
        refine own_by (fun tz kz => XS.iconst X0.here hx rfl (hb hby d4_22) kz) ?_
        show own_Go p e below s _ _ (s₁.setTop (mkF m 23 #[.val (.int z), .val (.long cc), .second] [(.int (0 : Int32))]))
        refine own_retI X0 hx hlk (t := .boolean) hret (by simp) rfl (hb hby d4_23) ?_ (by decide) (by decide)
        exact ⟨by simp [hr, own_uf, hc1_1, hc7_2, hc15_3], N0, e0⟩
def Q_rm_exact (Z : State) (a : Addr) (lo up r : Int32) (h0 : Heap) (n0 : Nat) (v : Option Value) (h : Heap) (L : List Loc) : Prop := v = some (.int r) ∧ Fr n0 L ∧ h = h0
set_option maxRecDepth 65536 in
set_option maxHeartbeats 40000000 in
theorem rm_exact (l : Launch) (Z : State) (a0 : Array Value) (hw : ∀ d ∈ tables_1, d.before a0 Z = true) (ws : List Jvm.Cond) (a : Addr) (lo up r : Int32) (h0 : Heap) (n0 : Nat) (F_lowerUnit : Fld Z h0 a "com/example/liftwise/liftwise/eval/arithmetic/Solver$Sides" "lowerUnit" "Z" (.int lo)) (F_upperUnit : Fld Z h0 a "com/example/liftwise/liftwise/eval/arithmetic/Solver$Sides" "upperUnit" "Z" (.int up)) (hr : r = if ¬ lo = (0 : Int32) ∨ ¬ up = (0 : Int32) then (1 : Int32) else (0 : Int32)) :
    MetFree l (⟨"com/example/liftwise/liftwise/eval/arithmetic/Solver$Sides", "isExact", "()Z"⟩ : MethodName) (head1 (Jvm.Cond.code (⟨"com/example/liftwise/liftwise/eval/arithmetic/Solver$Sides", "isExact", "()Z"⟩ : MethodName) prog_74_method_5_code 1 (some .boolean) :: ws) ({ frames := 0, cells := 0, slots := 0, locals := 0 } : Room)) (fun ar U => ar = #[(.ref a)] ∧ Z.Warmed39 U.vm ∧ U.heap = h0) (fun _ _ _ _ _ => True) (fun _ U o U' => ∃ v L, o = .returned v ∧ Q_rm_exact Z a lo up r h0 n0 v U'.heap L ∧ FrameEnd U o U' L ({ frames := 0, cells := 0, slots := 0, locals := 0 } : Room).cells ({ frames := 0, cells := 0, slots := 0, locals := 0 } : Room).slots) := by
  refine own_enter (Q := (Q_rm_exact Z a lo up r h0 n0)) pl_5 ?_
  intro p e s m below meth c s₁ X0 hx hZ hby hml hown hnm hret hlk e0
  have N0 := Fr.nil n0
  refine own_by (fun tz kz => castTop (g' := (mkF m 0 #[.val (.ref a)] [])) (by first | (simp [entryFrame, mkF, argsToLocals, Value.category]; done) | rfl) kz) ?_
  show own_Go p e below s _ _ (s₁.setTop (mkF m 0 #[.val (.ref a)] []))
  refine own_by (fun tz kz => XS.aloadN X0.here hx rfl (hb hby d5_0) rfl rfl kz) ?_
  show own_Go p e below s _ _ (s₁.setTop (mkF m 1 #[.val (.ref a)] [(.ref a)]))
  obtain ⟨T1, X1, e1, st1⟩ := getF X0 hx hZ hown (host := "") (Or.inl (hw _ (List.mem_of_getElem? (i := 10) rfl))) Via.refl e0 F_lowerUnit (g := (mkF m 1 #[.val (.ref a)] [(.ref a)])) rfl rfl (hb hby d5_1)
  refine own_by st1 ?_
  show own_Go p e below s _ _ (T1.setTop (mkF m 4 #[.val (.ref a)] [(.int lo)]))
  by_cases hc4_2 : lo = (0 : Int32)
  · refine own_by (fun tz kz => XS.ifNo X1.here hx rfl (hb hby d5_4) rfl ((if0 _ _).trans (teq hc4_2).2) kz) ?_
    show own_Go p e below s _ _ (T1.setTop (mkF m 7 #[.val (.ref a)] []))
    refine own_by (fun tz kz => XS.aloadN X1.here hx rfl (hb hby d5_7) rfl rfl kz) ?_
    show own_Go p e below s _ _ (T1.setTop (mkF m 8 #[.val (.ref a)] [(.ref a)]))
    obtain ⟨T3, X3, e3, st3⟩ := getF X1 hx hZ hown (host := "") (Or.inl (hw _ (List.mem_of_getElem? (i := 12) rfl))) Via.refl e1 F_upperUnit (g := (mkF m 8 #[.val (.ref a)] [(.ref a)])) rfl rfl (hb hby d5_8)
    refine own_by st3 ?_
    show own_Go p e below s _ _ (T3.setTop (mkF m 11 #[.val (.ref a)] [(.int up)]))
    by_cases hc11_4 : up = (0 : Int32)
    · refine own_by (fun tz kz => XS.ifYes X3.here hx rfl (pc0 := 11) (pc' := 18) rfl (hb hby d5_11) rfl ((if0 _ _).trans (teq hc11_4).1) (by decide) (by decide) kz) ?_
      show own_Go p e below s _ _ (T3.setTop (mkF m 18 #[.val (.ref a)] []))
      refine own_by (fun tz kz => XS.iconst X3.here hx rfl (hb hby d5_18) kz) ?_
      show own_Go p e below s _ _ (T3.setTop (mkF m 19 #[.val (.ref a)] [(.int (0 : Int32))]))
      refine own_retI X3 hx hlk (t := .boolean) hret (by simp) rfl (hb hby d5_19) ?_ (by decide) (by decide)
      exact ⟨by simp [hr, hc4_2, hc11_4], N0, e3⟩
    · refine own_by (fun tz kz => XS.ifNo X3.here hx rfl (hb hby d5_11) rfl ((if0 _ _).trans (feq hc11_4).1) kz) ?_
      show own_Go p e below s _ _ (T3.setTop (mkF m 14 #[.val (.ref a)] []))
      refine own_by (fun tz kz => XS.iconst X3.here hx rfl (hb hby d5_14) kz) ?_
      show own_Go p e below s _ _ (T3.setTop (mkF m 15 #[.val (.ref a)] [(.int (1 : Int32))]))
      refine own_by (fun tz kz => XS.goto X3.here hx rfl (pc0 := 15) (pc' := 19) rfl (hb hby d5_15) (by decide) (by decide) kz) ?_
      show own_Go p e below s _ _ (T3.setTop (mkF m 19 #[.val (.ref a)] [(.int (1 : Int32))]))
      refine own_retI X3 hx hlk (t := .boolean) hret (by simp) rfl (hb hby d5_19) ?_ (by decide) (by decide)
      exact ⟨by simp [hr, hc4_2, hc11_4], N0, e3⟩
  · refine own_by (fun tz kz => XS.ifYes X1.here hx rfl (pc0 := 4) (pc' := 14) rfl (hb hby d5_4) rfl ((if0 _ _).trans (feq hc4_2).2) (by decide) (by decide) kz) ?_
    show own_Go p e below s _ _ (T1.setTop (mkF m 14 #[.val (.ref a)] []))
    refine own_by (fun tz kz => XS.iconst X1.here hx rfl (hb hby d5_14) kz) ?_
    show own_Go p e below s _ _ (T1.setTop (mkF m 15 #[.val (.ref a)] [(.int (1 : Int32))]))
    refine own_by (fun tz kz => XS.goto X1.here hx rfl (pc0 := 15) (pc' := 19) rfl (hb hby d5_15) (by decide) (by decide) kz) ?_
    show own_Go p e below s _ _ (T1.setTop (mkF m 19 #[.val (.ref a)] [(.int (1 : Int32))]))
    refine own_retI X1 hx hlk (t := .boolean) hret (by simp) rfl (hb hby d5_19) ?_ (by decide) (by decide)
    exact ⟨by simp [hr, hc4_2], N0, e1⟩
def Q_rm0 (n0 : Nat) (v : Option Value) (h : Heap) (L : List Loc) : Prop := v = some (.int 1) ∧ Fr n0 L
set_option maxRecDepth 65536 in
set_option maxHeartbeats 40000000 in
theorem rm0 (l : Launch) (Z : State) (a0 : Array Value) (hw : ∀ d ∈ tables_1, d.before a0 Z = true) (ws : List Jvm.Cond) (pp I : Int32) (c0 c1 c2 c3 : Int64) (LF0 LF1 LF2 LF3 UF0 UF1 UF2 UF3 : Int32) (one om pa na : Addr) (ko : ClassId) (pc nc : Cell) (h0 : Heap) (n0 : Nat) (O0 : Old Z n0 h0) (S_ONE : Sta Z Z.heap "java/math/BigInteger" "ONE" "Ljava/math/BigInteger;" (.ref one)) (E_one : Exa Z Z.heap one "java/math/BigInteger") (Fs_one : Fld Z Z.heap one "java/math/BigInteger" "signum" "I" (.int (1 : Int32))) (Fm_one : Fld Z Z.heap one "java/math/BigInteger" "mag" "[I" (.ref om)) (V_one : Arv Z Z.heap om ko .int (1 : Int32) [.int (1 : Int32)] (.int (0 : Int32))) (S_pos : Sta Z Z.heap "java/math/BigInteger" "posConst" "[Ljava/math/BigInteger;" (.ref pa)) (S_neg : Sta Z Z.heap "java/math/BigInteger" "negConst" "[Ljava/math/BigInteger;" (.ref na)) (T_pos : own_Tab Z pa pc (1 : Int32)) (T_neg : own_Tab Z na nc (-1 : Int32)) (hI : I = (pp &&& (2147483647 : Int32)) % (5 : Int32)) (hk : I = (0 : Int32) ∨ I = (1 : Int32) ∨ I = (2 : Int32) ∨ I = (3 : Int32) ∨ I = (4 : Int32)) (hLF0 : LF0 = own_lf (1 : Int32) c0) (hUF0 : UF0 = own_uf (1 : Int32) c0) (hLF1 : LF1 = own_lf (1 : Int32) c1) (hUF1 : UF1 = own_uf (1 : Int32) c1) (hLF2 : LF2 = own_lf (1 : Int32) c2) (hUF2 : UF2 = own_uf (1 : Int32) c2) (hLF3 : LF3 = own_lf (1 : Int32) c3) (hUF3 : UF3 = own_uf (1 : Int32) c3) :
    MetFree l x (head1 (Jvm.Cond.code x code maxLocals ret :: ws) room_1) (fun ar U => ar = #[(.int pp), (.long c0), (.long c1), (.long c2), (.long c3)] ∧ Z.Warmed39 U.vm ∧ U.heap = h0) (fun _ _ _ _ _ => True) (fun _ U o U' => ∃ v L, o = .returned v ∧ Q_rm0 n0 v U'.heap L ∧ FrameEnd U o U' L room_1.cells room_1.slots) := by
  refine own_enter (Q := (Q_rm0 n0)) pl_0 ?_
  intro p e s m below meth c s₁ X0 hx hZ hby hml hown hnm hret hlk e0
  have N0 := Fr.nil n0
  refine own_by (fun tz kz => castTop (g' := (mkF m 0 #[.val (.int pp), .val (.long c0), .second, .val (.long c1), .second, .val (.long c2), .second, .val (.long c3), .second, .unset, .unset, .unset, .unset] [])) (by first | (simp [entryFrame, mkF, argsToLocals, Value.category, maxLocals]; done) | rfl) kz) ?_
  have K0 := Keep.refl h0 []
  show own_Go p e below s _ _ (s₁.setTop (mkF m 0 #[.val (.int pp), .val (.long c0), .second, .val (.long c1), .second, .val (.long c2), .second, .val (.long c3), .second, .unset, .unset, .unset, .unset] []))
  refine own_by (fun tz kz => XS.iloadN X0.here hx rfl (hb hby at_0) rfl  kz) ?_
  show own_Go p e below s _ _ (s₁.setTop (mkF m 1 #[.val (.int pp), .val (.long c0), .second, .val (.long c1), .second, .val (.long c2), .second, .val (.long c3), .second, .unset, .unset, .unset, .unset] [(.int pp)]))
  refine own_by (fun tz kz => X0.ldcInt hx hown (mvT hZ (hw _ (List.mem_of_getElem? (i := 0) rfl))) (g := (mkF m 1 #[.val (.int pp), .val (.long c0), .second, .val (.long c1), .second, .val (.long c2), .second, .val (.long c3), .second, .unset, .unset, .unset, .unset] [(.int pp)])) rfl (hb hby at_1) _ kz) ?_
  show own_Go p e below s _ _ (s₁.setTop (mkF m 3 #[.val (.int pp), .val (.long c0), .second, .val (.long c1), .second, .val (.long c2), .second, .val (.long c3), .second, .unset, .unset, .unset, .unset] [(.int (2147483647 : Int32)), (.int pp)]))
  refine own_by (fun tz kz => XS.iand X0.here hx rfl (hb hby at_3) rfl kz) ?_
  show own_Go p e below s _ _ (s₁.setTop (mkF m 4 #[.val (.int pp), .val (.long c0), .second, .val (.long c1), .second, .val (.long c2), .second, .val (.long c3), .second, .unset, .unset, .unset, .unset] [(.int (pp &&& (2147483647 : Int32)))]))
  refine own_by (fun tz kz => XS.iconst X0.here hx rfl (hb hby at_4) kz) ?_
  show own_Go p e below s _ _ (s₁.setTop (mkF m 5 #[.val (.int pp), .val (.long c0), .second, .val (.long c1), .second, .val (.long c2), .second, .val (.long c3), .second, .unset, .unset, .unset, .unset] [(.int (5 : Int32)), (.int (pp &&& (2147483647 : Int32)))]))
  refine own_by (fun tz kz => iremM X0 hx rfl (hb hby at_5) rfl (by decide) kz) ?_
  show own_Go p e below s _ _ (s₁.setTop (mkF m 6 #[.val (.int pp), .val (.long c0), .second, .val (.long c1), .second, .val (.long c2), .second, .val (.long c3), .second, .unset, .unset, .unset, .unset] [(.int ((pp &&& (2147483647 : Int32)) % (5 : Int32)))]))
  refine own_by (fun tz kz => XS.istore X0.here hx rfl (hb hby at_6) rfl (l' := #[.val (.int pp), .val (.long c0), .second, .val (.long c1), .second, .val (.long c2), .second, .val (.long c3), .second, .val (.int ((pp &&& (2147483647 : Int32)) % (5 : Int32))), .unset, .unset, .unset]) rfl kz) ?_
  rw [← hI]
  rcases hk with rfl | rfl | rfl | rfl | rfl
  · show own_Go p e below s _ _ (s₁.setTop (mkF m 8 #[.val (.int pp), .val (.long c0), .second, .val (.long c1), .second, .val (.long c2), .second, .val (.long c3), .second, .val (.int (0 : Int32)), .unset, .unset, .unset] []))
    refine own_by (fun tz kz => XS.iload X0.here hx rfl (hb hby at_8) rfl  kz) ?_
    show own_Go p e below s _ _ (s₁.setTop (mkF m 10 #[.val (.int pp), .val (.long c0), .second, .val (.long c1), .second, .val (.long c2), .second, .val (.long c3), .second, .val (.int (0 : Int32)), .unset, .unset, .unset] [(.int (0 : Int32))]))
    refine own_by (fun tz kz => XS.ifYes X0.here hx rfl (pc0 := 10) (pc' := 19) rfl (hb hby at_10) rfl ((if0 _ _).trans (flt (by decide : ¬ (0 : Int32) < (0 : Int32))).2.2.2) (by decide) (by decide) kz) ?_
    show own_Go p e below s _ _ (s₁.setTop (mkF m 19 #[.val (.int pp), .val (.long c0), .second, .val (.long c1), .second, .val (.long c2), .second, .val (.long c3), .second, .val (.int (0 : Int32)), .unset, .unset, .unset] []))
    refine own_by (fun tz kz => XS.iload X0.here hx rfl (hb hby at_19) rfl  kz) ?_
    show own_Go p e below s _ _ (s₁.setTop (mkF m 21 #[.val (.int pp), .val (.long c0), .second, .val (.long c1), .second, .val (.long c2), .second, .val (.long c3), .second, .val (.int (0 : Int32)), .unset, .unset, .unset] [(.int (0 : Int32))]))
    refine own_by (fun tz kz => XS.iconst X0.here hx rfl (hb hby at_21) kz) ?_
    show own_Go p e below s _ _ (s₁.setTop (mkF m 22 #[.val (.int pp), .val (.long c0), .second, .val (.long c1), .second, .val (.long c2), .second, .val (.long c3), .second, .val (.int (0 : Int32)), .unset, .unset, .unset] [(.int (1 : Int32)), (.int (0 : Int32))]))
    refine own_by (fun tz kz => XS.icmpYes X0.here hx rfl (pc0 := 22) (pc' := 31) rfl (hb hby at_22) rfl (flt (by decide : ¬ (1 : Int32) < (0 : Int32))).2.2.2 (by decide) (by decide) kz) ?_
    show own_Go p e below s _ _ (s₁.setTop (mkF m 31 #[.val (.int pp), .val (.long c0), .second, .val (.long c1), .second, .val (.long c2), .second, .val (.long c3), .second, .val (.int (0 : Int32)), .unset, .unset, .unset] []))
    refine own_by (fun tz kz => XS.iload X0.here hx rfl (hb hby at_31) rfl  kz) ?_
    show own_Go p e below s _ _ (s₁.setTop (mkF m 33 #[.val (.int pp), .val (.long c0), .second, .val (.long c1), .second, .val (.long c2), .second, .val (.long c3), .second, .val (.int (0 : Int32)), .unset, .unset, .unset] [(.int (0 : Int32))]))
    refine own_by (fun tz kz => XS.iconst X0.here hx rfl (hb hby at_33) kz) ?_
    show own_Go p e below s _ _ (s₁.setTop (mkF m 34 #[.val (.int pp), .val (.long c0), .second, .val (.long c1), .second, .val (.long c2), .second, .val (.long c3), .second, .val (.int (0 : Int32)), .unset, .unset, .unset] [(.int (2 : Int32)), (.int (0 : Int32))]))
    refine own_by (fun tz kz => XS.icmpYes X0.here hx rfl (pc0 := 34) (pc' := 44) rfl (hb hby at_34) rfl (flt (by decide : ¬ (2 : Int32) < (0 : Int32))).2.2.2 (by decide) (by decide) kz) ?_
    show own_Go p e below s _ _ (s₁.setTop (mkF m 44 #[.val (.int pp), .val (.long c0), .second, .val (.long c1), .second, .val (.long c2), .second, .val (.long c3), .second, .val (.int (0 : Int32)), .unset, .unset, .unset] []))
    refine own_by (fun tz kz => XS.iload X0.here hx rfl (hb hby at_44) rfl  kz) ?_
    show own_Go p e below s _ _ (s₁.setTop (mkF m 46 #[.val (.int pp), .val (.long c0), .second, .val (.long c1), .second, .val (.long c2), .second, .val (.long c3), .second, .val (.int (0 : Int32)), .unset, .unset, .unset] [(.int (0 : Int32))]))
    refine own_by (fun tz kz => XS.iconst X0.here hx rfl (hb hby at_46) kz) ?_
    show own_Go p e below s _ _ (s₁.setTop (mkF m 47 #[.val (.int pp), .val (.long c0), .second, .val (.long c1), .second, .val (.long c2), .second, .val (.long c3), .second, .val (.int (0 : Int32)), .unset, .unset, .unset] [(.int (3 : Int32)), (.int (0 : Int32))]))
    refine own_by (fun tz kz => XS.icmpYes X0.here hx rfl (pc0 := 47) (pc' := 59) rfl (hb hby at_47) rfl (flt (by decide : ¬ (3 : Int32) < (0 : Int32))).2.2.2 (by decide) (by decide) kz) ?_
    show own_Go p e below s _ _ (s₁.setTop (mkF m 59 #[.val (.int pp), .val (.long c0), .second, .val (.long c1), .second, .val (.long c2), .second, .val (.long c3), .second, .val (.int (0 : Int32)), .unset, .unset, .unset] []))
    obtain ⟨T1, h1, X1, e1, E1, A1, D1, -, st1⟩ := newO X0 hx hZ hown (hw _ (List.mem_of_getElem? (i := 1) rfl)) (hw _ (List.mem_of_getElem? (i := 2) rfl)) (hw _ (List.mem_of_getElem? (i := 3) rfl)) e0 (g := (mkF m 59 #[.val (.int pp), .val (.long c0), .second, .val (.long c1), .second, .val (.long c2), .second, .val (.long c3), .second, .val (.int (0 : Int32)), .unset, .unset, .unset] [])) rfl (hb hby at_59) (by decide) (by decide)
    obtain ⟨b1, g1⟩ : ∃ z, z = h0.size := ⟨_, rfl⟩
    rw [← g1] at A1 D1 st1
    have g_b1 : n0 ≤ b1 := by rw [g1]; exact O0.1 ▸ O0.2.1
    have sz_b1 : h0.size ≤ b1 := by rw [g1]; exact K0.1
    have O1 := O0.ext E1
    have K1 := K0.ext E1
    refine own_by st1 ?_
    have F1_lowerUnit : Fld Z h1 b1 "com/example/liftwise/liftwise/eval/arithmetic/Solver$Sides" "lowerUnit" "Z" (.int (0 : Int32)) := D1 (Or.inl (hw _ (List.mem_of_getElem? (i := 11) rfl))) (ty := .boolean) (by decide)
    have F1_upperUnit : Fld Z h1 b1 "com/example/liftwise/liftwise/eval/arithmetic/Solver$Sides" "upperUnit" "Z" (.int (0 : Int32)) := D1 (Or.inl (hw _ (List.mem_of_getElem? (i := 13) rfl))) (ty := .boolean) (by decide)
    have F1_lower : Fld Z h1 b1 "com/example/liftwise/liftwise/eval/arithmetic/Solver$Sides" "lower" "I" (.int (0 : Int32)) := D1 (Or.inl (hw _ (List.mem_of_getElem? (i := 71) rfl))) (ty := .int) (by decide)
    have F1_upper : Fld Z h1 b1 "com/example/liftwise/liftwise/eval/arithmetic/Solver$Sides" "upper" "I" (.int (0 : Int32)) := D1 (Or.inl (hw _ (List.mem_of_getElem? (i := 83) rfl))) (ty := .int) (by decide)
    show own_Go p e below s _ _ (T1.setTop (mkF m 62 #[.val (.int pp), .val (.long c0), .second, .val (.long c1), .second, .val (.long c2), .second, .val (.long c3), .second, .val (.int (0 : Int32)), .unset, .unset, .unset] [(.ref b1)]))
    refine own_by (fun tz kz => XS.dup X1.here hx rfl (hb hby at_62) rfl rfl kz) ?_
    show own_Go p e below s _ _ (T1.setTop (mkF m 63 #[.val (.int pp), .val (.long c0), .second, .val (.long c1), .second, .val (.long c2), .second, .val (.long c3), .second, .val (.int (0 : Int32)), .unset, .unset, .unset] [(.ref b1), (.ref b1)]))
    obtain ⟨_, _, ⟨T2, L2, k2, n2⟩, -, X2, ⟨Lc2, hQ2, l2, y2, z2⟩, st2⟩ := X1.specialBack hx (y := (⟨"com/example/liftwise/liftwise/eval/arithmetic/Solver$Sides", "<init>", "()V"⟩ : MethodName)) rfl hown (mvT hZ (hw _ (List.mem_of_getElem? (i := 4) rfl))) (mvT hZ (hw _ (List.mem_of_getElem? (i := 5) rfl))) (mvT hZ (hw _ (List.mem_of_getElem? (i := 6) rfl))) (by decide) (backOf (W := 1) (rm_Sinit l Z a0 hw [] b1 h1 n0 O1 A1 F1_lower F1_upper F1_lowerUnit F1_upperUnit g_b1) hZ (hw _ (List.mem_of_getElem? (i := 6) rfl)) (hw _ (List.mem_of_getElem? (i := 3) rfl)) (by decide) (by decide)) (g := (mkF m 63 #[.val (.int pp), .val (.long c0), .second, .val (.long c1), .second, .val (.long c2), .second, .val (.long c3), .second, .val (.int (0 : Int32)), .unset, .unset, .unset] [(.ref b1), (.ref b1)])) rfl (by rw [hml]; rfl) (Steps.refl _) (a := b1) (argsL := []) (rest := [(.ref b1)]) (lenOf pd_0 rfl) rfl (by show 2 * 0 + _ ≤ _; exact Nat.le_of_eq rfl) (hb hby at_63) (fun _ _ => ⟨rfl, e1, (by decide : 1 + 0 ≤ _), (by decide : 4 + 0 ≤ _)⟩)
    dsimp only [Pt.U, Pt.locs, Pt.cells, Pt.slots] at X2 l2 y2 z2 st2 hQ2
    rw [l2, y2, z2] at X2
    obtain ⟨rfl, Nq2, Kq2, Fa2, Fb2, Fc2, Fd2⟩ := hQ2
    have N2 := Fr.app N0 Nq2
    have e2 : T2.heap = T2.heap := rfl
    refine own_via st2 ?_
    have O2 := O1.keep Kq2 (allS g_b1 all0)
    have K2 := K1.trans Kq2 (allS (Or.inr sz_b1) all0)
    show own_Go p e below s _ _ (T2.setTop (mkF m 66 #[.val (.int pp), .val (.long c0), .second, .val (.long c1), .second, .val (.long c2), .second, .val (.long c3), .second, .val (.int (0 : Int32)), .unset, .unset, .unset] [(.ref b1)]))
    refine own_by (fun tz kz => XS.astore X2.here hx rfl (hb hby at_66) rfl rfl (l' := #[.val (.int pp), .val (.long c0), .second, .val (.long c1), .second, .val (.long c2), .second, .val (.long c3), .second, .val (.int (0 : Int32)), .val (.ref b1), .unset, .unset]) rfl kz) ?_
    show own_Go p e below s _ _ (T2.setTop (mkF m 68 #[.val (.int pp), .val (.long c0), .second, .val (.long c1), .second, .val (.long c2), .second, .val (.long c3), .second, .val (.int (0 : Int32)), .val (.ref b1), .unset, .unset] []))
    refine own_by (fun tz kz => XS.iload X2.here hx rfl (hb hby at_68) rfl  kz) ?_
    show own_Go p e below s _ _ (T2.setTop (mkF m 70 #[.val (.int pp), .val (.long c0), .second, .val (.long c1), .second, .val (.long c2), .second, .val (.long c3), .second, .val (.int (0 : Int32)), .val (.ref b1), .unset, .unset] [(.int (0 : Int32))]))
    refine own_by (fun tz kz => XS.ifYes X2.here hx rfl (pc0 := 70) (pc' := 82) rfl (hb hby at_70) rfl ((if0 _ _).trans (flt (by decide : ¬ (0 : Int32) < (0 : Int32))).2.2.2) (by decide) (by decide) kz) ?_
    show own_Go p e below s _ _ (T2.setTop (mkF m 82 #[.val (.int pp), .val (.long c0), .second, .val (.long c1), .second, .val (.long c2), .second, .val (.long c3), .second, .val (.int (0 : Int32)), .val (.ref b1), .unset, .unset] []))
    refine own_by (fun tz kz => XS.iload X2.here hx rfl (hb hby at_82) rfl  kz) ?_
    show own_Go p e below s _ _ (T2.setTop (mkF m 84 #[.val (.int pp), .val (.long c0), .second, .val (.long c1), .second, .val (.long c2), .second, .val (.long c3), .second, .val (.int (0 : Int32)), .val (.ref b1), .unset, .unset] [(.int (0 : Int32))]))
    refine own_by (fun tz kz => XS.iconst X2.here hx rfl (hb hby at_84) kz) ?_
    show own_Go p e below s _ _ (T2.setTop (mkF m 85 #[.val (.int pp), .val (.long c0), .second, .val (.long c1), .second, .val (.long c2), .second, .val (.long c3), .second, .val (.int (0 : Int32)), .val (.ref b1), .unset, .unset] [(.int (1 : Int32)), (.int (0 : Int32))]))
    refine own_by (fun tz kz => XS.icmpYes X2.here hx rfl (pc0 := 85) (pc' := 97) rfl (hb hby at_85) rfl (flt (by decide : ¬ (1 : Int32) < (0 : Int32))).2.2.2 (by decide) (by decide) kz) ?_
    show own_Go p e below s _ _ (T2.setTop (mkF m 97 #[.val (.int pp), .val (.long c0), .second, .val (.long c1), .second, .val (.long c2), .second, .val (.long c3), .second, .val (.int (0 : Int32)), .val (.ref b1), .unset, .unset] []))
    refine own_by (fun tz kz => XS.iload X2.here hx rfl (hb hby at_97) rfl  kz) ?_
    show own_Go p e below s _ _ (T2.setTop (mkF m 99 #[.val (.int pp), .val (.long c0), .second, .val (.long c1), .second, .val (.long c2), .second, .val (.long c3), .second, .val (.int (0 : Int32)), .val (.ref b1), .unset, .unset] [(.int (0 : Int32))]))
    refine own_by (fun tz kz => XS.iconst X2.here hx rfl (hb hby at_99) kz) ?_
    show own_Go p e below s _ _ (T2.setTop (mkF m 100 #[.val (.int pp), .val (.long c0), .second, .val (.long c1), .second, .val (.long c2), .second, .val (.long c3), .second, .val (.int (0 : Int32)), .val (.ref b1), .unset, .unset] [(.int (2 : Int32)), (.int (0 : Int32))]))
    refine own_by (fun tz kz => XS.icmpYes X2.here hx rfl (pc0 := 100) (pc' := 113) rfl (hb hby at_100) rfl (flt (by decide : ¬ (2 : Int32) < (0 : Int32))).2.2.2 (by decide) (by decide) kz) ?_
    show own_Go p e below s _ _ (T2.setTop (mkF m 113 #[.val (.int pp), .val (.long c0), .second, .val (.long c1), .second, .val (.long c2), .second, .val (.long c3), .second, .val (.int (0 : Int32)), .val (.ref b1), .unset, .unset] []))
    refine own_by (fun tz kz => XS.iload X2.here hx rfl (hb hby at_113) rfl  kz) ?_
    show own_Go p e below s _ _ (T2.setTop (mkF m 115 #[.val (.int pp), .val (.long c0), .second, .val (.long c1), .second, .val (.long c2), .second, .val (.long c3), .second, .val (.int (0 : Int32)), .val (.ref b1), .unset, .unset] [(.int (0 : Int32))]))
    refine own_by (fun tz kz => XS.iconst X2.here hx rfl (hb hby at_115) kz) ?_
    show own_Go p e below s _ _ (T2.setTop (mkF m 116 #[.val (.int pp), .val (.long c0), .second, .val (.long c1), .second, .val (.long c2), .second, .val (.long c3), .second, .val (.int (0 : Int32)), .val (.ref b1), .unset, .unset] [(.int (3 : Int32)), (.int (0 : Int32))]))
    refine own_by (fun tz kz => XS.icmpYes X2.here hx rfl (pc0 := 116) (pc' := 129) rfl (hb hby at_116) rfl (flt (by decide : ¬ (3 : Int32) < (0 : Int32))).2.2.2 (by decide) (by decide) kz) ?_
    have J209 : ∀ (Tj3 : State) (Lj3 : List Loc), Stand p l e room_1 s m #[(.int pp), (.long c0), (.long c1), (.long c2), (.long c3)] below meth c Tj3 Lj3 1 4 → Tj3.heap = T2.heap → Fr n0 Lj3 → ∀ lo : Int32, lo = own_all (1 : Int32) (1 : Int32) (1 : Int32) (1 : Int32) → own_Go p e below s (Q_rm0 n0) room_1 (Tj3.setTop (mkF m 209 #[.val (.int pp), .val (.long c0), .second, .val (.long c1), .second, .val (.long c2), .second, .val (.long c3), .second, .val (.int (0 : Int32)), .val (.ref b1), .val (.int lo), .unset] [])) := by
      intro Tj3 Lj3 Xj3 ej3 Nj3 lo hlo
      have J289 : ∀ (Tj4 : State) (Lj4 : List Loc), Stand p l e room_1 s m #[(.int pp), (.long c0), (.long c1), (.long c2), (.long c3)] below meth c Tj4 Lj4 1 4 → Tj4.heap = T2.heap → Fr n0 Lj4 → ∀ up : Int32, up = own_all (1 : Int32) (1 : Int32) (1 : Int32) (1 : Int32) → own_Go p e below s (Q_rm0 n0) room_1 (Tj4.setTop (mkF m 289 #[.val (.int pp), .val (.long c0), .second, .val (.long c1), .second, .val (.long c2), .second, .val (.long c3), .second, .val (.int (0 : Int32)), .val (.ref b1), .val (.int lo), .val (.int up)] [])) := by
        intro Tj4 Lj4 Xj4 ej4 Nj4 up hup
        show own_Go p e below s _ _ (Tj4.setTop (mkF m 289 #[.val (.int pp), .val (.long c0), .second, .val (.long c1), .second, .val (.long c2), .second, .val (.long c3), .second, .val (.int (0 : Int32)), .val (.ref b1), .val (.int lo), .val (.int up)] []))
        refine own_by (fun tz kz => XS.aload Xj4.here hx rfl (hb hby at_289) rfl rfl kz) ?_
        show own_Go p e below s _ _ (Tj4.setTop (mkF m 291 #[.val (.int pp), .val (.long c0), .second, .val (.long c1), .second, .val (.long c2), .second, .val (.long c3), .second, .val (.int (0 : Int32)), .val (.ref b1), .val (.int lo), .val (.int up)] [(.ref b1)]))
        have f5 := (A1.keep Kq2)
        obtain ⟨cq6, kq6, q6a, q6b, q6c⟩ := isOf hZ ej4 f5
        obtain ⟨_, _, ⟨T6, L6, k6, n6⟩, -, X6, ⟨Lc6, hQ6, l6, y6, z6⟩, st6⟩ := Xj4.virtualBack hx (y := (⟨"com/example/liftwise/liftwise/eval/arithmetic/Solver$Sides", "isExact", "()Z"⟩ : MethodName)) (z := (⟨"com/example/liftwise/liftwise/eval/arithmetic/Solver$Sides", "isExact", "()Z"⟩ : MethodName)) hown (mvT hZ (hw _ (List.mem_of_getElem? (i := 21) rfl))) (mvT hZ (hw _ (List.mem_of_getElem? (i := 22) rfl))) (notFace_of_selects (args := #[]) (mvT hZ (hw _ (List.mem_of_getElem? (i := 24) rfl)))) (mvT hZ (hw _ (List.mem_of_getElem? (i := 24) rfl))) (mvT hZ (hw _ (List.mem_of_getElem? (i := 23) rfl))) (by decide) (backOf (W := 0) (rm_exact l Z a0 hw [] b1 (1 : Int32) (1 : Int32) (if ¬ lo = (0 : Int32) ∨ ¬ up = (0 : Int32) then (1 : Int32) else (0 : Int32)) T2.heap n0 Fc2 Fd2 (own_ex ((own_rell0 c0 c1 c2 c3).trans hlo.symm) ((own_relu0 c0 c1 c2 c3).trans hup.symm))) hZ (hw _ (List.mem_of_getElem? (i := 25) rfl)) (hw _ (List.mem_of_getElem? (i := 3) rfl)) (by decide) (by decide)) q6a q6c (g := (mkF m 291 #[.val (.int pp), .val (.long c0), .second, .val (.long c1), .second, .val (.long c2), .second, .val (.long c3), .second, .val (.int (0 : Int32)), .val (.ref b1), .val (.int lo), .val (.int up)] [(.ref b1)])) rfl (by rw [hml]; rfl) (Steps.refl _) (argsL := []) (rest := []) (lenOf pd_2 rfl) rfl (by show 2 * 0 + _ ≤ _; exact Nat.le_of_eq rfl) (hb hby at_291) (fun _ _ => ⟨rfl, ej4, (by decide : 1 + 0 ≤ _), (by decide : 4 + 0 ≤ _)⟩)
        dsimp only [Pt.U, Pt.locs, Pt.cells, Pt.slots] at X6 l6 y6 z6 st6 hQ6
        rw [l6, y6, z6] at X6
        obtain ⟨rfl, Nq6, e6⟩ := hQ6
        have N6 := Fr.app Nj4 Nq6
        refine own_via st6 ?_
        show own_Go p e below s _ _ (T6.setTop (mkF m 294 #[.val (.int pp), .val (.long c0), .second, .val (.long c1), .second, .val (.long c2), .second, .val (.long c3), .second, .val (.int (0 : Int32)), .val (.ref b1), .val (.int lo), .val (.int up)] [(.int (if ¬ lo = (0 : Int32) ∨ ¬ up = (0 : Int32) then (1 : Int32) else (0 : Int32)))]))
        refine own_by (fun tz kz => XS.iload X6.here hx rfl (hb hby at_294) rfl  kz) ?_
        show own_Go p e below s _ _ (T6.setTop (mkF m 296 #[.val (.int pp), .val (.long c0), .second, .val (.long c1), .second, .val (.long c2), .second, .val (.long c3), .second, .val (.int (0 : Int32)), .val (.ref b1), .val (.int lo), .val (.int up)] [(.int lo), (.int (if ¬ lo = (0 : Int32) ∨ ¬ up = (0 : Int32) then (1 : Int32) else (0 : Int32)))]))
        by_cases hc296_7 : lo = (0 : Int32)
        · refine own_by (fun tz kz => XS.ifNo X6.here hx rfl (hb hby at_296) rfl ((if0 _ _).trans (teq hc296_7).2) kz) ?_
          show own_Go p e below s _ _ (T6.setTop (mkF m 299 #[.val (.int pp), .val (.long c0), .second, .val (.long c1), .second, .val (.long c2), .second, .val (.long c3), .second, .val (.int (0 : Int32)), .val (.ref b1), .val (.int lo), .val (.int up)] [(.int (if ¬ lo = (0 : Int32) ∨ ¬ up = (0 : Int32) then (1 : Int32) else (0 : Int32)))]))
          refine own_by (fun tz kz => XS.iload X6.here hx rfl (hb hby at_299) rfl  kz) ?_
          show own_Go p e below s _ _ (T6.setTop (mkF m 301 #[.val (.int pp), .val (.long c0), .second, .val (.long c1), .second, .val (.long c2), .second, .val (.long c3), .second, .val (.int (0 : Int32)), .val (.ref b1), .val (.int lo), .val (.int up)] [(.int up), (.int (if ¬ lo = (0 : Int32) ∨ ¬ up = (0 : Int32) then (1 : Int32) else (0 : Int32)))]))
          by_cases hc301_8 : up = (0 : Int32)
          · refine own_by (fun tz kz => XS.ifYes X6.here hx rfl (pc0 := 301) (pc' := 308) rfl (hb hby at_301) rfl ((if0 _ _).trans (teq hc301_8).1) (by decide) (by decide) kz) ?_
            show own_Go p e below s _ _ (T6.setTop (mkF m 308 #[.val (.int pp), .val (.long c0), .second, .val (.long c1), .second, .val (.long c2), .second, .val (.long c3), .second, .val (.int (0 : Int32)), .val (.ref b1), .val (.int lo), .val (.int up)] [(.int (if ¬ lo = (0 : Int32) ∨ ¬ up = (0 : Int32) then (1 : Int32) else (0 : Int32)))]))
            refine own_by (fun tz kz => XS.iconst X6.here hx rfl (hb hby at_308) kz) ?_
            show own_Go p e below s _ _ (T6.setTop (mkF m 309 #[.val (.int pp), .val (.long c0), .second, .val (.long c1), .second, .val (.long c2), .second, .val (.long c3), .second, .val (.int (0 : Int32)), .val (.ref b1), .val (.int lo), .val (.int up)] [(.int (0 : Int32)), (.int (if ¬ lo = (0 : Int32) ∨ ¬ up = (0 : Int32) then (1 : Int32) else (0 : Int32)))]))
            refine own_by (fun tz kz => XS.icmpNo X6.here hx rfl (hb hby at_309) rfl (teq (if_neg (fun q => q.elim (fun q => q hc296_7) (fun q => q hc301_8)))).2 kz) ?_
            show own_Go p e below s _ _ (T6.setTop (mkF m 312 #[.val (.int pp), .val (.long c0), .second, .val (.long c1), .second, .val (.long c2), .second, .val (.long c3), .second, .val (.int (0 : Int32)), .val (.ref b1), .val (.int lo), .val (.int up)] []))
            refine own_by (fun tz kz => XS.iconst X6.here hx rfl (hb hby at_312) kz) ?_
            show own_Go p e below s _ _ (T6.setTop (mkF m 313 #[.val (.int pp), .val (.long c0), .second, .val (.long c1), .second, .val (.long c2), .second, .val (.long c3), .second, .val (.int (0 : Int32)), .val (.ref b1), .val (.int lo), .val (.int up)] [(.int (1 : Int32))]))
            refine own_by (fun tz kz => XS.goto X6.here hx rfl (pc0 := 313) (pc' := 317) rfl (hb hby at_313) (by decide) (by decide) kz) ?_
            show own_Go p e below s _ _ (T6.setTop (mkF m 317 #[.val (.int pp), .val (.long c0), .second, .val (.long c1), .second, .val (.long c2), .second, .val (.long c3), .second, .val (.int (0 : Int32)), .val (.ref b1), .val (.int lo), .val (.int up)] [(.int (1 : Int32))]))
            refine own_retI X6 hx hlk (t := .boolean) hret (by simp) rfl (hb hby at_317) ?_ (by decide) (by decide)
            exact ⟨rfl, N6⟩
          · refine own_by (fun tz kz => XS.ifNo X6.here hx rfl (hb hby at_301) rfl ((if0 _ _).trans (feq hc301_8).1) kz) ?_
            show own_Go p e below s _ _ (T6.setTop (mkF m 304 #[.val (.int pp), .val (.long c0), .second, .val (.long c1), .second, .val (.long c2), .second, .val (.long c3), .second, .val (.int (0 : Int32)), .val (.ref b1), .val (.int lo), .val (.int up)] [(.int (if ¬ lo = (0 : Int32) ∨ ¬ up = (0 : Int32) then (1 : Int32) else (0 : Int32)))]))
            refine own_by (fun tz kz => XS.iconst X6.here hx rfl (hb hby at_304) kz) ?_
            show own_Go p e below s _ _ (T6.setTop (mkF m 305 #[.val (.int pp), .val (.long c0), .second, .val (.long c1), .second, .val (.long c2), .second, .val (.long c3), .second, .val (.int (0 : Int32)), .val (.ref b1), .val (.int lo), .val (.int up)] [(.int (1 : Int32)), (.int (if ¬ lo = (0 : Int32) ∨ ¬ up = (0 : Int32) then (1 : Int32) else (0 : Int32)))]))
            refine own_by (fun tz kz => XS.goto X6.here hx rfl (pc0 := 305) (pc' := 309) rfl (hb hby at_305) (by decide) (by decide) kz) ?_
            show own_Go p e below s _ _ (T6.setTop (mkF m 309 #[.val (.int pp), .val (.long c0), .second, .val (.long c1), .second, .val (.long c2), .second, .val (.long c3), .second, .val (.int (0 : Int32)), .val (.ref b1), .val (.int lo), .val (.int up)] [(.int (1 : Int32)), (.int (if ¬ lo = (0 : Int32) ∨ ¬ up = (0 : Int32) then (1 : Int32) else (0 : Int32)))]))
            refine own_by (fun tz kz => XS.icmpNo X6.here hx rfl (hb hby at_309) rfl (teq (if_pos (Or.inr hc301_8))).2 kz) ?_
            show own_Go p e below s _ _ (T6.setTop (mkF m 312 #[.val (.int pp), .val (.long c0), .second, .val (.long c1), .second, .val (.long c2), .second, .val (.long c3), .second, .val (.int (0 : Int32)), .val (.ref b1), .val (.int lo), .val (.int up)] []))
            refine own_by (fun tz kz => XS.iconst X6.here hx rfl (hb hby at_312) kz) ?_
            show own_Go p e below s _ _ (T6.setTop (mkF m 313 #[.val (.int pp), .val (.long c0), .second, .val (.long c1), .second, .val (.long c2), .second, .val (.long c3), .second, .val (.int (0 : Int32)), .val (.ref b1), .val (.int lo), .val (.int up)] [(.int (1 : Int32))]))
            refine own_by (fun tz kz => XS.goto X6.here hx rfl (pc0 := 313) (pc' := 317) rfl (hb hby at_313) (by decide) (by decide) kz) ?_
            show own_Go p e below s _ _ (T6.setTop (mkF m 317 #[.val (.int pp), .val (.long c0), .second, .val (.long c1), .second, .val (.long c2), .second, .val (.long c3), .second, .val (.int (0 : Int32)), .val (.ref b1), .val (.int lo), .val (.int up)] [(.int (1 : Int32))]))
            refine own_retI X6 hx hlk (t := .boolean) hret (by simp) rfl (hb hby at_317) ?_ (by decide) (by decide)
            exact ⟨rfl, N6⟩
        · refine own_by (fun tz kz => XS.ifYes X6.here hx rfl (pc0 := 296) (pc' := 304) rfl (hb hby at_296) rfl ((if0 _ _).trans (feq hc296_7).2) (by decide) (by decide) kz) ?_
          show own_Go p e below s _ _ (T6.setTop (mkF m 304 #[.val (.int pp), .val (.long c0), .second, .val (.long c1), .second, .val (.long c2), .second, .val (.long c3), .second, .val (.int (0 : Int32)), .val (.ref b1), .val (.int lo), .val (.int up)] [(.int (if ¬ lo = (0 : Int32) ∨ ¬ up = (0 : Int32) then (1 : Int32) else (0 : Int32)))]))
          refine own_by (fun tz kz => XS.iconst X6.here hx rfl (hb hby at_304) kz) ?_
          show own_Go p e below s _ _ (T6.setTop (mkF m 305 #[.val (.int pp), .val (.long c0), .second, .val (.long c1), .second, .val (.long c2), .second, .val (.long c3), .second, .val (.int (0 : Int32)), .val (.ref b1), .val (.int lo), .val (.int up)] [(.int (1 : Int32)), (.int (if ¬ lo = (0 : Int32) ∨ ¬ up = (0 : Int32) then (1 : Int32) else (0 : Int32)))]))
          refine own_by (fun tz kz => XS.goto X6.here hx rfl (pc0 := 305) (pc' := 309) rfl (hb hby at_305) (by decide) (by decide) kz) ?_
          show own_Go p e below s _ _ (T6.setTop (mkF m 309 #[.val (.int pp), .val (.long c0), .second, .val (.long c1), .second, .val (.long c2), .second, .val (.long c3), .second, .val (.int (0 : Int32)), .val (.ref b1), .val (.int lo), .val (.int up)] [(.int (1 : Int32)), (.int (if ¬ lo = (0 : Int32) ∨ ¬ up = (0 : Int32) then (1 : Int32) else (0 : Int32)))]))
          refine own_by (fun tz kz => XS.icmpNo X6.here hx rfl (hb hby at_309) rfl (teq (if_pos (Or.inl hc296_7))).2 kz) ?_
          show own_Go p e below s _ _ (T6.setTop (mkF m 312 #[.val (.int pp), .val (.long c0), .second, .val (.long c1), .second, .val (.long c2), .second, .val (.long c3), .second, .val (.int (0 : Int32)), .val (.ref b1), .val (.int lo), .val (.int up)] []))
          refine own_by (fun tz kz => XS.iconst X6.here hx rfl (hb hby at_312) kz) ?_
          show own_Go p e below s _ _ (T6.setTop (mkF m 313 #[.val (.int pp), .val (.long c0), .second, .val (.long c1), .second, .val (.long c2), .second, .val (.long c3), .second, .val (.int (0 : Int32)), .val (.ref b1), .val (.int lo), .val (.int up)] [(.int (1 : Int32))]))
          refine own_by (fun tz kz => XS.goto X6.here hx rfl (pc0 := 313) (pc' := 317) rfl (hb hby at_313) (by decide) (by decide) kz) ?_
          show own_Go p e below s _ _ (T6.setTop (mkF m 317 #[.val (.int pp), .val (.long c0), .second, .val (.long c1), .second, .val (.long c2), .second, .val (.long c3), .second, .val (.int (0 : Int32)), .val (.ref b1), .val (.int lo), .val (.int up)] [(.int (1 : Int32))]))
          refine own_retI X6 hx hlk (t := .boolean) hret (by simp) rfl (hb hby at_317) ?_ (by decide) (by decide)
          exact ⟨rfl, N6⟩
      show own_Go p e below s _ _ (Tj3.setTop (mkF m 209 #[.val (.int pp), .val (.long c0), .second, .val (.long c1), .second, .val (.long c2), .second, .val (.long c3), .second, .val (.int (0 : Int32)), .val (.ref b1), .val (.int lo), .unset] []))
      refine own_by (fun tz kz => XS.iload Xj3.here hx rfl (hb hby at_209) rfl  kz) ?_
      show own_Go p e below s _ _ (Tj3.setTop (mkF m 211 #[.val (.int pp), .val (.long c0), .second, .val (.long c1), .second, .val (.long c2), .second, .val (.long c3), .second, .val (.int (0 : Int32)), .val (.ref b1), .val (.int lo), .unset] [(.int (0 : Int32))]))
      refine own_by (fun tz kz => XS.ifYes Xj3.here hx rfl (pc0 := 211) (pc' := 218) rfl (hb hby at_211) rfl ((if0 _ _).trans (flt (by decide : ¬ (0 : Int32) < (0 : Int32))).2.2.2) (by decide) (by decide) kz) ?_
      show own_Go p e below s _ _ (Tj3.setTop (mkF m 218 #[.val (.int pp), .val (.long c0), .second, .val (.long c1), .second, .val (.long c2), .second, .val (.long c3), .second, .val (.int (0 : Int32)), .val (.ref b1), .val (.int lo), .unset] []))
      refine own_by (fun tz kz => XS.iconst Xj3.here hx rfl (hb hby at_218) kz) ?_
      show own_Go p e below s _ _ (Tj3.setTop (mkF m 219 #[.val (.int pp), .val (.long c0), .second, .val (.long c1), .second, .val (.long c2), .second, .val (.long c3), .second, .val (.int (0 : Int32)), .val (.ref b1), .val (.int lo), .unset] [(.int (0 : Int32))]))
      refine own_by (fun tz kz => XS.lloadN Xj3.here hx rfl (hb hby at_219) rfl kz) ?_
      show own_Go p e below s _ _ (Tj3.setTop (mkF m 220 #[.val (.int pp), .val (.long c0), .second, .val (.long c1), .second, .val (.long c2), .second, .val (.long c3), .second, .val (.int (0 : Int32)), .val (.ref b1), .val (.int lo), .unset] [(.long c0), (.int (0 : Int32))]))
      obtain ⟨_, _, ⟨T9, L9, k9, n9⟩, -, X9, ⟨Lc9, hQ9, l9, y9, z9⟩, st9⟩ := Jvm.LawKit.callS Xj3 hx (y := (⟨"com/example/liftwise/liftwise/eval/arithmetic/SidesIsExactPinLaw", "upperFine", "(ZJ)Z"⟩ : MethodName)) hown (mvT hZ (hw _ (List.mem_of_getElem? (i := 18) rfl))) (mvT hZ (hw _ (List.mem_of_getElem? (i := 19) rfl))) (mvT hZ (hw _ (List.mem_of_getElem? (i := 16) rfl))) (mvT hZ (hw _ (List.mem_of_getElem? (i := 20) rfl))) (by decide) (backOf (W := 0) (rm_upperFine l Z a0 hw [] (0 : Int32) c0 (1 : Int32) T2.heap n0 (own_uf0 _)) hZ (hw _ (List.mem_of_getElem? (i := 20) rfl)) (hw _ (List.mem_of_getElem? (i := 16) rfl)) (by decide) (by decide)) (g := (mkF m 220 #[.val (.int pp), .val (.long c0), .second, .val (.long c1), .second, .val (.long c2), .second, .val (.long c3), .second, .val (.int (0 : Int32)), .val (.ref b1), .val (.int lo), .unset] [(.long c0), (.int (0 : Int32))])) rfl (by rw [hml]; rfl) (argsL := [(.int (0 : Int32)), (.long c0)]) (rest := []) (lenOf pd_1 rfl) rfl (by show 2 * 0 + _ ≤ _; exact Nat.le_of_eq rfl) (hb hby at_220) (fun _ _ => ⟨rfl, ej3, (by decide : 1 + 0 ≤ _), (by decide : 4 + 0 ≤ _)⟩)
      dsimp only [Pt.U, Pt.locs, Pt.cells, Pt.slots] at X9 l9 y9 z9 st9 hQ9
      rw [l9, y9, z9] at X9
      obtain ⟨rfl, Nq9, e9⟩ := hQ9
      have N9 := Fr.app Nj3 Nq9
      refine own_by st9 ?_
      show own_Go p e below s _ _ (T9.setTop (mkF m 223 #[.val (.int pp), .val (.long c0), .second, .val (.long c1), .second, .val (.long c2), .second, .val (.long c3), .second, .val (.int (0 : Int32)), .val (.ref b1), .val (.int lo), .unset] [(.int (1 : Int32))]))
      refine own_by (fun tz kz => XS.ifNo X9.here hx rfl (hb hby at_223) rfl ((if0 _ _).trans (feq (by decide : ¬ (1 : Int32) = (0 : Int32))).1) kz) ?_
      show own_Go p e below s _ _ (T9.setTop (mkF m 226 #[.val (.int pp), .val (.long c0), .second, .val (.long c1), .second, .val (.long c2), .second, .val (.long c3), .second, .val (.int (0 : Int32)), .val (.ref b1), .val (.int lo), .unset] []))
      refine own_by (fun tz kz => XS.iload X9.here hx rfl (hb hby at_226) rfl  kz) ?_
      show own_Go p e below s _ _ (T9.setTop (mkF m 228 #[.val (.int pp), .val (.long c0), .second, .val (.long c1), .second, .val (.long c2), .second, .val (.long c3), .second, .val (.int (0 : Int32)), .val (.ref b1), .val (.int lo), .unset] [(.int (0 : Int32))]))
      refine own_by (fun tz kz => XS.iconst X9.here hx rfl (hb hby at_228) kz) ?_
      show own_Go p e below s _ _ (T9.setTop (mkF m 229 #[.val (.int pp), .val (.long c0), .second, .val (.long c1), .second, .val (.long c2), .second, .val (.long c3), .second, .val (.int (0 : Int32)), .val (.ref b1), .val (.int lo), .unset] [(.int (1 : Int32)), (.int (0 : Int32))]))
      refine own_by (fun tz kz => XS.icmpYes X9.here hx rfl (pc0 := 229) (pc' := 236) rfl (hb hby at_229) rfl (flt (by decide : ¬ (1 : Int32) < (0 : Int32))).2.2.2 (by decide) (by decide) kz) ?_
      show own_Go p e below s _ _ (T9.setTop (mkF m 236 #[.val (.int pp), .val (.long c0), .second, .val (.long c1), .second, .val (.long c2), .second, .val (.long c3), .second, .val (.int (0 : Int32)), .val (.ref b1), .val (.int lo), .unset] []))
      refine own_by (fun tz kz => XS.iconst X9.here hx rfl (hb hby at_236) kz) ?_
      show own_Go p e below s _ _ (T9.setTop (mkF m 237 #[.val (.int pp), .val (.long c0), .second, .val (.long c1), .second, .val (.long c2), .second, .val (.long c3), .second, .val (.int (0 : Int32)), .val (.ref b1), .val (.int lo), .unset] [(.int (0 : Int32))]))
      refine own_by (fun tz kz => XS.lloadN X9.here hx rfl (hb hby at_237) rfl kz) ?_
      show own_Go p e below s _ _ (T9.setTop (mkF m 238 #[.val (.int pp), .val (.long c0), .second, .val (.long c1), .second, .val (.long c2), .second, .val (.long c3), .second, .val (.int (0 : Int32)), .val (.ref b1), .val (.int lo), .unset] [(.long c1), (.int (0 : Int32))]))
      obtain ⟨_, _, ⟨T10, L10, k10, n10⟩, -, X10, ⟨Lc10, hQ10, l10, y10, z10⟩, st10⟩ := Jvm.LawKit.callS X9 hx (y := (⟨"com/example/liftwise/liftwise/eval/arithmetic/SidesIsExactPinLaw", "upperFine", "(ZJ)Z"⟩ : MethodName)) hown (mvT hZ (hw _ (List.mem_of_getElem? (i := 18) rfl))) (mvT hZ (hw _ (List.mem_of_getElem? (i := 19) rfl))) (mvT hZ (hw _ (List.mem_of_getElem? (i := 16) rfl))) (mvT hZ (hw _ (List.mem_of_getElem? (i := 20) rfl))) (by decide) (backOf (W := 0) (rm_upperFine l Z a0 hw [] (0 : Int32) c1 (1 : Int32) T2.heap n0 (own_uf0 _)) hZ (hw _ (List.mem_of_getElem? (i := 20) rfl)) (hw _ (List.mem_of_getElem? (i := 16) rfl)) (by decide) (by decide)) (g := (mkF m 238 #[.val (.int pp), .val (.long c0), .second, .val (.long c1), .second, .val (.long c2), .second, .val (.long c3), .second, .val (.int (0 : Int32)), .val (.ref b1), .val (.int lo), .unset] [(.long c1), (.int (0 : Int32))])) rfl (by rw [hml]; rfl) (argsL := [(.int (0 : Int32)), (.long c1)]) (rest := []) (lenOf pd_1 rfl) rfl (by show 2 * 0 + _ ≤ _; exact Nat.le_of_eq rfl) (hb hby at_238) (fun _ _ => ⟨rfl, e9, (by decide : 1 + 0 ≤ _), (by decide : 4 + 0 ≤ _)⟩)
      dsimp only [Pt.U, Pt.locs, Pt.cells, Pt.slots] at X10 l10 y10 z10 st10 hQ10
      rw [l10, y10, z10] at X10
      obtain ⟨rfl, Nq10, e10⟩ := hQ10
      have N10 := Fr.app N9 Nq10
      refine own_by st10 ?_
      show own_Go p e below s _ _ (T10.setTop (mkF m 241 #[.val (.int pp), .val (.long c0), .second, .val (.long c1), .second, .val (.long c2), .second, .val (.long c3), .second, .val (.int (0 : Int32)), .val (.ref b1), .val (.int lo), .unset] [(.int (1 : Int32))]))
      refine own_by (fun tz kz => XS.ifNo X10.here hx rfl (hb hby at_241) rfl ((if0 _ _).trans (feq (by decide : ¬ (1 : Int32) = (0 : Int32))).1) kz) ?_
      show own_Go p e below s _ _ (T10.setTop (mkF m 244 #[.val (.int pp), .val (.long c0), .second, .val (.long c1), .second, .val (.long c2), .second, .val (.long c3), .second, .val (.int (0 : Int32)), .val (.ref b1), .val (.int lo), .unset] []))
      refine own_by (fun tz kz => XS.iload X10.here hx rfl (hb hby at_244) rfl  kz) ?_
      show own_Go p e below s _ _ (T10.setTop (mkF m 246 #[.val (.int pp), .val (.long c0), .second, .val (.long c1), .second, .val (.long c2), .second, .val (.long c3), .second, .val (.int (0 : Int32)), .val (.ref b1), .val (.int lo), .unset] [(.int (0 : Int32))]))
      refine own_by (fun tz kz => XS.iconst X10.here hx rfl (hb hby at_246) kz) ?_
      show own_Go p e below s _ _ (T10.setTop (mkF m 247 #[.val (.int pp), .val (.long c0), .second, .val (.long c1), .second, .val (.long c2), .second, .val (.long c3), .second, .val (.int (0 : Int32)), .val (.ref b1), .val (.int lo), .unset] [(.int (2 : Int32)), (.int (0 : Int32))]))
      refine own_by (fun tz kz => XS.icmpYes X10.here hx rfl (pc0 := 247) (pc' := 254) rfl (hb hby at_247) rfl (flt (by decide : ¬ (2 : Int32) < (0 : Int32))).2.2.2 (by decide) (by decide) kz) ?_
      show own_Go p e below s _ _ (T10.setTop (mkF m 254 #[.val (.int pp), .val (.long c0), .second, .val (.long c1), .second, .val (.long c2), .second, .val (.long c3), .second, .val (.int (0 : Int32)), .val (.ref b1), .val (.int lo), .unset] []))
      refine own_by (fun tz kz => XS.iconst X10.here hx rfl (hb hby at_254) kz) ?_
      show own_Go p e below s _ _ (T10.setTop (mkF m 255 #[.val (.int pp), .val (.long c0), .second, .val (.long c1), .second, .val (.long c2), .second, .val (.long c3), .second, .val (.int (0 : Int32)), .val (.ref b1), .val (.int lo), .unset] [(.int (0 : Int32))]))
      refine own_by (fun tz kz => XS.lload X10.here hx rfl (hb hby at_255) rfl kz) ?_
      show own_Go p e below s _ _ (T10.setTop (mkF m 257 #[.val (.int pp), .val (.long c0), .second, .val (.long c1), .second, .val (.long c2), .second, .val (.long c3), .second, .val (.int (0 : Int32)), .val (.ref b1), .val (.int lo), .unset] [(.long c2), (.int (0 : Int32))]))
      obtain ⟨_, _, ⟨T11, L11, k11, n11⟩, -, X11, ⟨Lc11, hQ11, l11, y11, z11⟩, st11⟩ := Jvm.LawKit.callS X10 hx (y := (⟨"com/example/liftwise/liftwise/eval/arithmetic/SidesIsExactPinLaw", "upperFine", "(ZJ)Z"⟩ : MethodName)) hown (mvT hZ (hw _ (List.mem_of_getElem? (i := 18) rfl))) (mvT hZ (hw _ (List.mem_of_getElem? (i := 19) rfl))) (mvT hZ (hw _ (List.mem_of_getElem? (i := 16) rfl))) (mvT hZ (hw _ (List.mem_of_getElem? (i := 20) rfl))) (by decide) (backOf (W := 0) (rm_upperFine l Z a0 hw [] (0 : Int32) c2 (1 : Int32) T2.heap n0 (own_uf0 _)) hZ (hw _ (List.mem_of_getElem? (i := 20) rfl)) (hw _ (List.mem_of_getElem? (i := 16) rfl)) (by decide) (by decide)) (g := (mkF m 257 #[.val (.int pp), .val (.long c0), .second, .val (.long c1), .second, .val (.long c2), .second, .val (.long c3), .second, .val (.int (0 : Int32)), .val (.ref b1), .val (.int lo), .unset] [(.long c2), (.int (0 : Int32))])) rfl (by rw [hml]; rfl) (argsL := [(.int (0 : Int32)), (.long c2)]) (rest := []) (lenOf pd_1 rfl) rfl (by show 2 * 0 + _ ≤ _; exact Nat.le_of_eq rfl) (hb hby at_257) (fun _ _ => ⟨rfl, e10, (by decide : 1 + 0 ≤ _), (by decide : 4 + 0 ≤ _)⟩)
      dsimp only [Pt.U, Pt.locs, Pt.cells, Pt.slots] at X11 l11 y11 z11 st11 hQ11
      rw [l11, y11, z11] at X11
      obtain ⟨rfl, Nq11, e11⟩ := hQ11
      have N11 := Fr.app N10 Nq11
      refine own_by st11 ?_
      show own_Go p e below s _ _ (T11.setTop (mkF m 260 #[.val (.int pp), .val (.long c0), .second, .val (.long c1), .second, .val (.long c2), .second, .val (.long c3), .second, .val (.int (0 : Int32)), .val (.ref b1), .val (.int lo), .unset] [(.int (1 : Int32))]))
      refine own_by (fun tz kz => XS.ifNo X11.here hx rfl (hb hby at_260) rfl ((if0 _ _).trans (feq (by decide : ¬ (1 : Int32) = (0 : Int32))).1) kz) ?_
      show own_Go p e below s _ _ (T11.setTop (mkF m 263 #[.val (.int pp), .val (.long c0), .second, .val (.long c1), .second, .val (.long c2), .second, .val (.long c3), .second, .val (.int (0 : Int32)), .val (.ref b1), .val (.int lo), .unset] []))
      refine own_by (fun tz kz => XS.iload X11.here hx rfl (hb hby at_263) rfl  kz) ?_
      show own_Go p e below s _ _ (T11.setTop (mkF m 265 #[.val (.int pp), .val (.long c0), .second, .val (.long c1), .second, .val (.long c2), .second, .val (.long c3), .second, .val (.int (0 : Int32)), .val (.ref b1), .val (.int lo), .unset] [(.int (0 : Int32))]))
      refine own_by (fun tz kz => XS.iconst X11.here hx rfl (hb hby at_265) kz) ?_
      show own_Go p e below s _ _ (T11.setTop (mkF m 266 #[.val (.int pp), .val (.long c0), .second, .val (.long c1), .second, .val (.long c2), .second, .val (.long c3), .second, .val (.int (0 : Int32)), .val (.ref b1), .val (.int lo), .unset] [(.int (3 : Int32)), (.int (0 : Int32))]))
      refine own_by (fun tz kz => XS.icmpYes X11.here hx rfl (pc0 := 266) (pc' := 273) rfl (hb hby at_266) rfl (flt (by decide : ¬ (3 : Int32) < (0 : Int32))).2.2.2 (by decide) (by decide) kz) ?_
      show own_Go p e below s _ _ (T11.setTop (mkF m 273 #[.val (.int pp), .val (.long c0), .second, .val (.long c1), .second, .val (.long c2), .second, .val (.long c3), .second, .val (.int (0 : Int32)), .val (.ref b1), .val (.int lo), .unset] []))
      refine own_by (fun tz kz => XS.iconst X11.here hx rfl (hb hby at_273) kz) ?_
      show own_Go p e below s _ _ (T11.setTop (mkF m 274 #[.val (.int pp), .val (.long c0), .second, .val (.long c1), .second, .val (.long c2), .second, .val (.long c3), .second, .val (.int (0 : Int32)), .val (.ref b1), .val (.int lo), .unset] [(.int (0 : Int32))]))
      refine own_by (fun tz kz => XS.lload X11.here hx rfl (hb hby at_274) rfl kz) ?_
      show own_Go p e below s _ _ (T11.setTop (mkF m 276 #[.val (.int pp), .val (.long c0), .second, .val (.long c1), .second, .val (.long c2), .second, .val (.long c3), .second, .val (.int (0 : Int32)), .val (.ref b1), .val (.int lo), .unset] [(.long c3), (.int (0 : Int32))]))
      obtain ⟨_, _, ⟨T12, L12, k12, n12⟩, -, X12, ⟨Lc12, hQ12, l12, y12, z12⟩, st12⟩ := Jvm.LawKit.callS X11 hx (y := (⟨"com/example/liftwise/liftwise/eval/arithmetic/SidesIsExactPinLaw", "upperFine", "(ZJ)Z"⟩ : MethodName)) hown (mvT hZ (hw _ (List.mem_of_getElem? (i := 18) rfl))) (mvT hZ (hw _ (List.mem_of_getElem? (i := 19) rfl))) (mvT hZ (hw _ (List.mem_of_getElem? (i := 16) rfl))) (mvT hZ (hw _ (List.mem_of_getElem? (i := 20) rfl))) (by decide) (backOf (W := 0) (rm_upperFine l Z a0 hw [] (0 : Int32) c3 (1 : Int32) T2.heap n0 (own_uf0 _)) hZ (hw _ (List.mem_of_getElem? (i := 20) rfl)) (hw _ (List.mem_of_getElem? (i := 16) rfl)) (by decide) (by decide)) (g := (mkF m 276 #[.val (.int pp), .val (.long c0), .second, .val (.long c1), .second, .val (.long c2), .second, .val (.long c3), .second, .val (.int (0 : Int32)), .val (.ref b1), .val (.int lo), .unset] [(.long c3), (.int (0 : Int32))])) rfl (by rw [hml]; rfl) (argsL := [(.int (0 : Int32)), (.long c3)]) (rest := []) (lenOf pd_1 rfl) rfl (by show 2 * 0 + _ ≤ _; exact Nat.le_of_eq rfl) (hb hby at_276) (fun _ _ => ⟨rfl, e11, (by decide : 1 + 0 ≤ _), (by decide : 4 + 0 ≤ _)⟩)
      dsimp only [Pt.U, Pt.locs, Pt.cells, Pt.slots] at X12 l12 y12 z12 st12 hQ12
      rw [l12, y12, z12] at X12
      obtain ⟨rfl, Nq12, e12⟩ := hQ12
      have N12 := Fr.app N11 Nq12
      refine own_by st12 ?_
      show own_Go p e below s _ _ (T12.setTop (mkF m 279 #[.val (.int pp), .val (.long c0), .second, .val (.long c1), .second, .val (.long c2), .second, .val (.long c3), .second, .val (.int (0 : Int32)), .val (.ref b1), .val (.int lo), .unset] [(.int (1 : Int32))]))
      refine own_by (fun tz kz => XS.ifNo X12.here hx rfl (hb hby at_279) rfl ((if0 _ _).trans (feq (by decide : ¬ (1 : Int32) = (0 : Int32))).1) kz) ?_
      show own_Go p e below s _ _ (T12.setTop (mkF m 282 #[.val (.int pp), .val (.long c0), .second, .val (.long c1), .second, .val (.long c2), .second, .val (.long c3), .second, .val (.int (0 : Int32)), .val (.ref b1), .val (.int lo), .unset] []))
      refine own_by (fun tz kz => XS.iconst X12.here hx rfl (hb hby at_282) kz) ?_
      show own_Go p e below s _ _ (T12.setTop (mkF m 283 #[.val (.int pp), .val (.long c0), .second, .val (.long c1), .second, .val (.long c2), .second, .val (.long c3), .second, .val (.int (0 : Int32)), .val (.ref b1), .val (.int lo), .unset] [(.int (1 : Int32))]))
      refine own_by (fun tz kz => XS.goto X12.here hx rfl (pc0 := 283) (pc' := 287) rfl (hb hby at_283) (by decide) (by decide) kz) ?_
      show own_Go p e below s _ _ (T12.setTop (mkF m 287 #[.val (.int pp), .val (.long c0), .second, .val (.long c1), .second, .val (.long c2), .second, .val (.long c3), .second, .val (.int (0 : Int32)), .val (.ref b1), .val (.int lo), .unset] [(.int (1 : Int32))]))
      refine own_by (fun tz kz => XS.istore X12.here hx rfl (hb hby at_287) rfl (l' := #[.val (.int pp), .val (.long c0), .second, .val (.long c1), .second, .val (.long c2), .second, .val (.long c3), .second, .val (.int (0 : Int32)), .val (.ref b1), .val (.int lo), .val (.int (1 : Int32))]) rfl kz) ?_
      exact J289 _ _ X12 e12 N12 _ (by simp [own_all, ])
    show own_Go p e below s _ _ (T2.setTop (mkF m 129 #[.val (.int pp), .val (.long c0), .second, .val (.long c1), .second, .val (.long c2), .second, .val (.long c3), .second, .val (.int (0 : Int32)), .val (.ref b1), .unset, .unset] []))
    refine own_by (fun tz kz => XS.iload X2.here hx rfl (hb hby at_129) rfl  kz) ?_
    show own_Go p e below s _ _ (T2.setTop (mkF m 131 #[.val (.int pp), .val (.long c0), .second, .val (.long c1), .second, .val (.long c2), .second, .val (.long c3), .second, .val (.int (0 : Int32)), .val (.ref b1), .unset, .unset] [(.int (0 : Int32))]))
    refine own_by (fun tz kz => XS.ifYes X2.here hx rfl (pc0 := 131) (pc' := 138) rfl (hb hby at_131) rfl ((if0 _ _).trans (flt (by decide : ¬ (0 : Int32) < (0 : Int32))).2.2.2) (by decide) (by decide) kz) ?_
    show own_Go p e below s _ _ (T2.setTop (mkF m 138 #[.val (.int pp), .val (.long c0), .second, .val (.long c1), .second, .val (.long c2), .second, .val (.long c3), .second, .val (.int (0 : Int32)), .val (.ref b1), .unset, .unset] []))
    refine own_by (fun tz kz => XS.iconst X2.here hx rfl (hb hby at_138) kz) ?_
    show own_Go p e below s _ _ (T2.setTop (mkF m 139 #[.val (.int pp), .val (.long c0), .second, .val (.long c1), .second, .val (.long c2), .second, .val (.long c3), .second, .val (.int (0 : Int32)), .val (.ref b1), .unset, .unset] [(.int (0 : Int32))]))
    refine own_by (fun tz kz => XS.lloadN X2.here hx rfl (hb hby at_139) rfl kz) ?_
    show own_Go p e below s _ _ (T2.setTop (mkF m 140 #[.val (.int pp), .val (.long c0), .second, .val (.long c1), .second, .val (.long c2), .second, .val (.long c3), .second, .val (.int (0 : Int32)), .val (.ref b1), .unset, .unset] [(.long c0), (.int (0 : Int32))]))
    obtain ⟨_, _, ⟨T13, L13, k13, n13⟩, -, X13, ⟨Lc13, hQ13, l13, y13, z13⟩, st13⟩ := Jvm.LawKit.callS X2 hx (y := (⟨"com/example/liftwise/liftwise/eval/arithmetic/SidesIsExactPinLaw", "lowerFine", "(ZJ)Z"⟩ : MethodName)) hown (mvT hZ (hw _ (List.mem_of_getElem? (i := 14) rfl))) (mvT hZ (hw _ (List.mem_of_getElem? (i := 15) rfl))) (mvT hZ (hw _ (List.mem_of_getElem? (i := 16) rfl))) (mvT hZ (hw _ (List.mem_of_getElem? (i := 17) rfl))) (by decide) (backOf (W := 0) (rm_lowerFine l Z a0 hw [] (0 : Int32) c0 (1 : Int32) T2.heap n0 (own_lf0 _)) hZ (hw _ (List.mem_of_getElem? (i := 17) rfl)) (hw _ (List.mem_of_getElem? (i := 16) rfl)) (by decide) (by decide)) (g := (mkF m 140 #[.val (.int pp), .val (.long c0), .second, .val (.long c1), .second, .val (.long c2), .second, .val (.long c3), .second, .val (.int (0 : Int32)), .val (.ref b1), .unset, .unset] [(.long c0), (.int (0 : Int32))])) rfl (by rw [hml]; rfl) (argsL := [(.int (0 : Int32)), (.long c0)]) (rest := []) (lenOf pd_1 rfl) rfl (by show 2 * 0 + _ ≤ _; exact Nat.le_of_eq rfl) (hb hby at_140) (fun _ _ => ⟨rfl, e2, (by decide : 1 + 0 ≤ _), (by decide : 4 + 0 ≤ _)⟩)
    dsimp only [Pt.U, Pt.locs, Pt.cells, Pt.slots] at X13 l13 y13 z13 st13 hQ13
    rw [l13, y13, z13] at X13
    obtain ⟨rfl, Nq13, e13⟩ := hQ13
    have N13 := Fr.app N2 Nq13
    refine own_by st13 ?_
    show own_Go p e below s _ _ (T13.setTop (mkF m 143 #[.val (.int pp), .val (.long c0), .second, .val (.long c1), .second, .val (.long c2), .second, .val (.long c3), .second, .val (.int (0 : Int32)), .val (.ref b1), .unset, .unset] [(.int (1 : Int32))]))
    refine own_by (fun tz kz => XS.ifNo X13.here hx rfl (hb hby at_143) rfl ((if0 _ _).trans (feq (by decide : ¬ (1 : Int32) = (0 : Int32))).1) kz) ?_
    show own_Go p e below s _ _ (T13.setTop (mkF m 146 #[.val (.int pp), .val (.long c0), .second, .val (.long c1), .second, .val (.long c2), .second, .val (.long c3), .second, .val (.int (0 : Int32)), .val (.ref b1), .unset, .unset] []))
    refine own_by (fun tz kz => XS.iload X13.here hx rfl (hb hby at_146) rfl  kz) ?_
    show own_Go p e below s _ _ (T13.setTop (mkF m 148 #[.val (.int pp), .val (.long c0), .second, .val (.long c1), .second, .val (.long c2), .second, .val (.long c3), .second, .val (.int (0 : Int32)), .val (.ref b1), .unset, .unset] [(.int (0 : Int32))]))
    refine own_by (fun tz kz => XS.iconst X13.here hx rfl (hb hby at_148) kz) ?_
    show own_Go p e below s _ _ (T13.setTop (mkF m 149 #[.val (.int pp), .val (.long c0), .second, .val (.long c1), .second, .val (.long c2), .second, .val (.long c3), .second, .val (.int (0 : Int32)), .val (.ref b1), .unset, .unset] [(.int (1 : Int32)), (.int (0 : Int32))]))
    refine own_by (fun tz kz => XS.icmpYes X13.here hx rfl (pc0 := 149) (pc' := 156) rfl (hb hby at_149) rfl (flt (by decide : ¬ (1 : Int32) < (0 : Int32))).2.2.2 (by decide) (by decide) kz) ?_
    show own_Go p e below s _ _ (T13.setTop (mkF m 156 #[.val (.int pp), .val (.long c0), .second, .val (.long c1), .second, .val (.long c2), .second, .val (.long c3), .second, .val (.int (0 : Int32)), .val (.ref b1), .unset, .unset] []))
    refine own_by (fun tz kz => XS.iconst X13.here hx rfl (hb hby at_156) kz) ?_
    show own_Go p e below s _ _ (T13.setTop (mkF m 157 #[.val (.int pp), .val (.long c0), .second, .val (.long c1), .second, .val (.long c2), .second, .val (.long c3), .second, .val (.int (0 : Int32)), .val (.ref b1), .unset, .unset] [(.int (0 : Int32))]))
    refine own_by (fun tz kz => XS.lloadN X13.here hx rfl (hb hby at_157) rfl kz) ?_
    show own_Go p e below s _ _ (T13.setTop (mkF m 158 #[.val (.int pp), .val (.long c0), .second, .val (.long c1), .second, .val (.long c2), .second, .val (.long c3), .second, .val (.int (0 : Int32)), .val (.ref b1), .unset, .unset] [(.long c1), (.int (0 : Int32))]))
    obtain ⟨_, _, ⟨T14, L14, k14, n14⟩, -, X14, ⟨Lc14, hQ14, l14, y14, z14⟩, st14⟩ := Jvm.LawKit.callS X13 hx (y := (⟨"com/example/liftwise/liftwise/eval/arithmetic/SidesIsExactPinLaw", "lowerFine", "(ZJ)Z"⟩ : MethodName)) hown (mvT hZ (hw _ (List.mem_of_getElem? (i := 14) rfl))) (mvT hZ (hw _ (List.mem_of_getElem? (i := 15) rfl))) (mvT hZ (hw _ (List.mem_of_getElem? (i := 16) rfl))) (mvT hZ (hw _ (List.mem_of_getElem? (i := 17) rfl))) (by decide) (backOf (W := 0) (rm_lowerFine l Z a0 hw [] (0 : Int32) c1 (1 : Int32) T2.heap n0 (own_lf0 _)) hZ (hw _ (List.mem_of_getElem? (i := 17) rfl)) (hw _ (List.mem_of_getElem? (i := 16) rfl)) (by decide) (by decide)) (g := (mkF m 158 #[.val (.int pp), .val (.long c0), .second, .val (.long c1), .second, .val (.long c2), .second, .val (.long c3), .second, .val (.int (0 : Int32)), .val (.ref b1), .unset, .unset] [(.long c1), (.int (0 : Int32))])) rfl (by rw [hml]; rfl) (argsL := [(.int (0 : Int32)), (.long c1)]) (rest := []) (lenOf pd_1 rfl) rfl (by show 2 * 0 + _ ≤ _; exact Nat.le_of_eq rfl) (hb hby at_158) (fun _ _ => ⟨rfl, e13, (by decide : 1 + 0 ≤ _), (by decide : 4 + 0 ≤ _)⟩)
    dsimp only [Pt.U, Pt.locs, Pt.cells, Pt.slots] at X14 l14 y14 z14 st14 hQ14
    rw [l14, y14, z14] at X14
    obtain ⟨rfl, Nq14, e14⟩ := hQ14
    have N14 := Fr.app N13 Nq14
    refine own_by st14 ?_
    show own_Go p e below s _ _ (T14.setTop (mkF m 161 #[.val (.int pp), .val (.long c0), .second, .val (.long c1), .second, .val (.long c2), .second, .val (.long c3), .second, .val (.int (0 : Int32)), .val (.ref b1), .unset, .unset] [(.int (1 : Int32))]))
    refine own_by (fun tz kz => XS.ifNo X14.here hx rfl (hb hby at_161) rfl ((if0 _ _).trans (feq (by decide : ¬ (1 : Int32) = (0 : Int32))).1) kz) ?_
    show own_Go p e below s _ _ (T14.setTop (mkF m 164 #[.val (.int pp), .val (.long c0), .second, .val (.long c1), .second, .val (.long c2), .second, .val (.long c3), .second, .val (.int (0 : Int32)), .val (.ref b1), .unset, .unset] []))
    refine own_by (fun tz kz => XS.iload X14.here hx rfl (hb hby at_164) rfl  kz) ?_
    show own_Go p e below s _ _ (T14.setTop (mkF m 166 #[.val (.int pp), .val (.long c0), .second, .val (.long c1), .second, .val (.long c2), .second, .val (.long c3), .second, .val (.int (0 : Int32)), .val (.ref b1), .unset, .unset] [(.int (0 : Int32))]))
    refine own_by (fun tz kz => XS.iconst X14.here hx rfl (hb hby at_166) kz) ?_
    show own_Go p e below s _ _ (T14.setTop (mkF m 167 #[.val (.int pp), .val (.long c0), .second, .val (.long c1), .second, .val (.long c2), .second, .val (.long c3), .second, .val (.int (0 : Int32)), .val (.ref b1), .unset, .unset] [(.int (2 : Int32)), (.int (0 : Int32))]))
    refine own_by (fun tz kz => XS.icmpYes X14.here hx rfl (pc0 := 167) (pc' := 174) rfl (hb hby at_167) rfl (flt (by decide : ¬ (2 : Int32) < (0 : Int32))).2.2.2 (by decide) (by decide) kz) ?_
    show own_Go p e below s _ _ (T14.setTop (mkF m 174 #[.val (.int pp), .val (.long c0), .second, .val (.long c1), .second, .val (.long c2), .second, .val (.long c3), .second, .val (.int (0 : Int32)), .val (.ref b1), .unset, .unset] []))
    refine own_by (fun tz kz => XS.iconst X14.here hx rfl (hb hby at_174) kz) ?_
    show own_Go p e below s _ _ (T14.setTop (mkF m 175 #[.val (.int pp), .val (.long c0), .second, .val (.long c1), .second, .val (.long c2), .second, .val (.long c3), .second, .val (.int (0 : Int32)), .val (.ref b1), .unset, .unset] [(.int (0 : Int32))]))
    refine own_by (fun tz kz => XS.lload X14.here hx rfl (hb hby at_175) rfl kz) ?_
    show own_Go p e below s _ _ (T14.setTop (mkF m 177 #[.val (.int pp), .val (.long c0), .second, .val (.long c1), .second, .val (.long c2), .second, .val (.long c3), .second, .val (.int (0 : Int32)), .val (.ref b1), .unset, .unset] [(.long c2), (.int (0 : Int32))]))
    obtain ⟨_, _, ⟨T15, L15, k15, n15⟩, -, X15, ⟨Lc15, hQ15, l15, y15, z15⟩, st15⟩ := Jvm.LawKit.callS X14 hx (y := (⟨"com/example/liftwise/liftwise/eval/arithmetic/SidesIsExactPinLaw", "lowerFine", "(ZJ)Z"⟩ : MethodName)) hown (mvT hZ (hw _ (List.mem_of_getElem? (i := 14) rfl))) (mvT hZ (hw _ (List.mem_of_getElem? (i := 15) rfl))) (mvT hZ (hw _ (List.mem_of_getElem? (i := 16) rfl))) (mvT hZ (hw _ (List.mem_of_getElem? (i := 17) rfl))) (by decide) (backOf (W := 0) (rm_lowerFine l Z a0 hw [] (0 : Int32) c2 (1 : Int32) T2.heap n0 (own_lf0 _)) hZ (hw _ (List.mem_of_getElem? (i := 17) rfl)) (hw _ (List.mem_of_getElem? (i := 16) rfl)) (by decide) (by decide)) (g := (mkF m 177 #[.val (.int pp), .val (.long c0), .second, .val (.long c1), .second, .val (.long c2), .second, .val (.long c3), .second, .val (.int (0 : Int32)), .val (.ref b1), .unset, .unset] [(.long c2), (.int (0 : Int32))])) rfl (by rw [hml]; rfl) (argsL := [(.int (0 : Int32)), (.long c2)]) (rest := []) (lenOf pd_1 rfl) rfl (by show 2 * 0 + _ ≤ _; exact Nat.le_of_eq rfl) (hb hby at_177) (fun _ _ => ⟨rfl, e14, (by decide : 1 + 0 ≤ _), (by decide : 4 + 0 ≤ _)⟩)
    dsimp only [Pt.U, Pt.locs, Pt.cells, Pt.slots] at X15 l15 y15 z15 st15 hQ15
    rw [l15, y15, z15] at X15
    obtain ⟨rfl, Nq15, e15⟩ := hQ15
    have N15 := Fr.app N14 Nq15
    refine own_by st15 ?_
    show own_Go p e below s _ _ (T15.setTop (mkF m 180 #[.val (.int pp), .val (.long c0), .second, .val (.long c1), .second, .val (.long c2), .second, .val (.long c3), .second, .val (.int (0 : Int32)), .val (.ref b1), .unset, .unset] [(.int (1 : Int32))]))
    refine own_by (fun tz kz => XS.ifNo X15.here hx rfl (hb hby at_180) rfl ((if0 _ _).trans (feq (by decide : ¬ (1 : Int32) = (0 : Int32))).1) kz) ?_
    show own_Go p e below s _ _ (T15.setTop (mkF m 183 #[.val (.int pp), .val (.long c0), .second, .val (.long c1), .second, .val (.long c2), .second, .val (.long c3), .second, .val (.int (0 : Int32)), .val (.ref b1), .unset, .unset] []))
    refine own_by (fun tz kz => XS.iload X15.here hx rfl (hb hby at_183) rfl  kz) ?_
    show own_Go p e below s _ _ (T15.setTop (mkF m 185 #[.val (.int pp), .val (.long c0), .second, .val (.long c1), .second, .val (.long c2), .second, .val (.long c3), .second, .val (.int (0 : Int32)), .val (.ref b1), .unset, .unset] [(.int (0 : Int32))]))
    refine own_by (fun tz kz => XS.iconst X15.here hx rfl (hb hby at_185) kz) ?_
    show own_Go p e below s _ _ (T15.setTop (mkF m 186 #[.val (.int pp), .val (.long c0), .second, .val (.long c1), .second, .val (.long c2), .second, .val (.long c3), .second, .val (.int (0 : Int32)), .val (.ref b1), .unset, .unset] [(.int (3 : Int32)), (.int (0 : Int32))]))
    refine own_by (fun tz kz => XS.icmpYes X15.here hx rfl (pc0 := 186) (pc' := 193) rfl (hb hby at_186) rfl (flt (by decide : ¬ (3 : Int32) < (0 : Int32))).2.2.2 (by decide) (by decide) kz) ?_
    show own_Go p e below s _ _ (T15.setTop (mkF m 193 #[.val (.int pp), .val (.long c0), .second, .val (.long c1), .second, .val (.long c2), .second, .val (.long c3), .second, .val (.int (0 : Int32)), .val (.ref b1), .unset, .unset] []))
    refine own_by (fun tz kz => XS.iconst X15.here hx rfl (hb hby at_193) kz) ?_
    show own_Go p e below s _ _ (T15.setTop (mkF m 194 #[.val (.int pp), .val (.long c0), .second, .val (.long c1), .second, .val (.long c2), .second, .val (.long c3), .second, .val (.int (0 : Int32)), .val (.ref b1), .unset, .unset] [(.int (0 : Int32))]))
    refine own_by (fun tz kz => XS.lload X15.here hx rfl (hb hby at_194) rfl kz) ?_
    show own_Go p e below s _ _ (T15.setTop (mkF m 196 #[.val (.int pp), .val (.long c0), .second, .val (.long c1), .second, .val (.long c2), .second, .val (.long c3), .second, .val (.int (0 : Int32)), .val (.ref b1), .unset, .unset] [(.long c3), (.int (0 : Int32))]))
    obtain ⟨_, _, ⟨T16, L16, k16, n16⟩, -, X16, ⟨Lc16, hQ16, l16, y16, z16⟩, st16⟩ := Jvm.LawKit.callS X15 hx (y := (⟨"com/example/liftwise/liftwise/eval/arithmetic/SidesIsExactPinLaw", "lowerFine", "(ZJ)Z"⟩ : MethodName)) hown (mvT hZ (hw _ (List.mem_of_getElem? (i := 14) rfl))) (mvT hZ (hw _ (List.mem_of_getElem? (i := 15) rfl))) (mvT hZ (hw _ (List.mem_of_getElem? (i := 16) rfl))) (mvT hZ (hw _ (List.mem_of_getElem? (i := 17) rfl))) (by decide) (backOf (W := 0) (rm_lowerFine l Z a0 hw [] (0 : Int32) c3 (1 : Int32) T2.heap n0 (own_lf0 _)) hZ (hw _ (List.mem_of_getElem? (i := 17) rfl)) (hw _ (List.mem_of_getElem? (i := 16) rfl)) (by decide) (by decide)) (g := (mkF m 196 #[.val (.int pp), .val (.long c0), .second, .val (.long c1), .second, .val (.long c2), .second, .val (.long c3), .second, .val (.int (0 : Int32)), .val (.ref b1), .unset, .unset] [(.long c3), (.int (0 : Int32))])) rfl (by rw [hml]; rfl) (argsL := [(.int (0 : Int32)), (.long c3)]) (rest := []) (lenOf pd_1 rfl) rfl (by show 2 * 0 + _ ≤ _; exact Nat.le_of_eq rfl) (hb hby at_196) (fun _ _ => ⟨rfl, e15, (by decide : 1 + 0 ≤ _), (by decide : 4 + 0 ≤ _)⟩)
    dsimp only [Pt.U, Pt.locs, Pt.cells, Pt.slots] at X16 l16 y16 z16 st16 hQ16
    rw [l16, y16, z16] at X16
    obtain ⟨rfl, Nq16, e16⟩ := hQ16
    have N16 := Fr.app N15 Nq16
    refine own_by st16 ?_
    show own_Go p e below s _ _ (T16.setTop (mkF m 199 #[.val (.int pp), .val (.long c0), .second, .val (.long c1), .second, .val (.long c2), .second, .val (.long c3), .second, .val (.int (0 : Int32)), .val (.ref b1), .unset, .unset] [(.int (1 : Int32))]))
    refine own_by (fun tz kz => XS.ifNo X16.here hx rfl (hb hby at_199) rfl ((if0 _ _).trans (feq (by decide : ¬ (1 : Int32) = (0 : Int32))).1) kz) ?_
    show own_Go p e below s _ _ (T16.setTop (mkF m 202 #[.val (.int pp), .val (.long c0), .second, .val (.long c1), .second, .val (.long c2), .second, .val (.long c3), .second, .val (.int (0 : Int32)), .val (.ref b1), .unset, .unset] []))
    refine own_by (fun tz kz => XS.iconst X16.here hx rfl (hb hby at_202) kz) ?_
    show own_Go p e below s _ _ (T16.setTop (mkF m 203 #[.val (.int pp), .val (.long c0), .second, .val (.long c1), .second, .val (.long c2), .second, .val (.long c3), .second, .val (.int (0 : Int32)), .val (.ref b1), .unset, .unset] [(.int (1 : Int32))]))
    refine own_by (fun tz kz => XS.goto X16.here hx rfl (pc0 := 203) (pc' := 207) rfl (hb hby at_203) (by decide) (by decide) kz) ?_
    show own_Go p e below s _ _ (T16.setTop (mkF m 207 #[.val (.int pp), .val (.long c0), .second, .val (.long c1), .second, .val (.long c2), .second, .val (.long c3), .second, .val (.int (0 : Int32)), .val (.ref b1), .unset, .unset] [(.int (1 : Int32))]))
    refine own_by (fun tz kz => XS.istore X16.here hx rfl (hb hby at_207) rfl (l' := #[.val (.int pp), .val (.long c0), .second, .val (.long c1), .second, .val (.long c2), .second, .val (.long c3), .second, .val (.int (0 : Int32)), .val (.ref b1), .val (.int (1 : Int32)), .unset]) rfl kz) ?_
    exact J209 _ _ X16 e16 N16 _ (by simp [own_all, ])
  · show own_Go p e below s _ _ (s₁.setTop (mkF m 8 #[.val (.int pp), .val (.long c0), .second, .val (.long c1), .second, .val (.long c2), .second, .val (.long c3), .second, .val (.int (1 : Int32)), .unset, .unset, .unset] []))
    refine own_by (fun tz kz => XS.iload X0.here hx rfl (hb hby at_8) rfl  kz) ?_
    show own_Go p e below s _ _ (s₁.setTop (mkF m 10 #[.val (.int pp), .val (.long c0), .second, .val (.long c1), .second, .val (.long c2), .second, .val (.long c3), .second, .val (.int (1 : Int32)), .unset, .unset, .unset] [(.int (1 : Int32))]))
    refine own_by (fun tz kz => XS.ifNo X0.here hx rfl (hb hby at_10) rfl ((if0 _ _).trans (tlt (by decide : (0 : Int32) < (1 : Int32))).2.2.2) kz) ?_
    show own_Go p e below s _ _ (s₁.setTop (mkF m 13 #[.val (.int pp), .val (.long c0), .second, .val (.long c1), .second, .val (.long c2), .second, .val (.long c3), .second, .val (.int (1 : Int32)), .unset, .unset, .unset] []))
    refine own_by (fun tz kz => XS.lloadN X0.here hx rfl (hb hby at_13) rfl kz) ?_
    show own_Go p e below s _ _ (s₁.setTop (mkF m 14 #[.val (.int pp), .val (.long c0), .second, .val (.long c1), .second, .val (.long c2), .second, .val (.long c3), .second, .val (.int (1 : Int32)), .unset, .unset, .unset] [(.long c0)]))
    refine own_by (fun tz kz => XS.lconst X0.here hx rfl (hb hby at_14) kz) ?_
    show own_Go p e below s _ _ (s₁.setTop (mkF m 15 #[.val (.int pp), .val (.long c0), .second, .val (.long c1), .second, .val (.long c2), .second, .val (.long c3), .second, .val (.int (1 : Int32)), .unset, .unset, .unset] [(.long (0 : Int64)), (.long c0)]))
    refine own_by (fun tz kz => XS.lcmp X0.here hx rfl (hb hby at_15) rfl kz) ?_
    show own_Go p e below s _ _ (s₁.setTop (mkF m 16 #[.val (.int pp), .val (.long c0), .second, .val (.long c1), .second, .val (.long c2), .second, .val (.long c3), .second, .val (.int (1 : Int32)), .unset, .unset, .unset] [(.int (lcmpW c0 (0 : Int64)))]))
    by_cases hc16_17 : c0 = (0 : Int64)
    · refine own_by (fun tz kz => XS.ifYes X0.here hx rfl (pc0 := 16) (pc' := 57) rfl (hb hby at_16) rfl ((if0 _ _).trans (teq ((lw_eq c0 (0 : Int64)).mpr hc16_17)).1) (by decide) (by decide) kz) ?_
      show own_Go p e below s _ _ (s₁.setTop (mkF m 57 #[.val (.int pp), .val (.long c0), .second, .val (.long c1), .second, .val (.long c2), .second, .val (.long c3), .second, .val (.int (1 : Int32)), .unset, .unset, .unset] []))
      refine own_by (fun tz kz => XS.iconst X0.here hx rfl (hb hby at_57) kz) ?_
      show own_Go p e below s _ _ (s₁.setTop (mkF m 58 #[.val (.int pp), .val (.long c0), .second, .val (.long c1), .second, .val (.long c2), .second, .val (.long c3), .second, .val (.int (1 : Int32)), .unset, .unset, .unset] [(.int (1 : Int32))]))
      refine own_retI X0 hx hlk (t := .boolean) hret (by simp) rfl (hb hby at_58) ?_ (by decide) (by decide)
      exact ⟨rfl, N0⟩
    · refine own_by (fun tz kz => XS.ifNo X0.here hx rfl (hb hby at_16) rfl ((if0 _ _).trans (feq (fun q => hc16_17 ((lw_eq c0 (0 : Int64)).mp q))).1) kz) ?_
      show own_Go p e below s _ _ (s₁.setTop (mkF m 19 #[.val (.int pp), .val (.long c0), .second, .val (.long c1), .second, .val (.long c2), .second, .val (.long c3), .second, .val (.int (1 : Int32)), .unset, .unset, .unset] []))
      refine own_by (fun tz kz => XS.iload X0.here hx rfl (hb hby at_19) rfl  kz) ?_
      show own_Go p e below s _ _ (s₁.setTop (mkF m 21 #[.val (.int pp), .val (.long c0), .second, .val (.long c1), .second, .val (.long c2), .second, .val (.long c3), .second, .val (.int (1 : Int32)), .unset, .unset, .unset] [(.int (1 : Int32))]))
      refine own_by (fun tz kz => XS.iconst X0.here hx rfl (hb hby at_21) kz) ?_
      show own_Go p e below s _ _ (s₁.setTop (mkF m 22 #[.val (.int pp), .val (.long c0), .second, .val (.long c1), .second, .val (.long c2), .second, .val (.long c3), .second, .val (.int (1 : Int32)), .unset, .unset, .unset] [(.int (1 : Int32)), (.int (1 : Int32))]))
      refine own_by (fun tz kz => XS.icmpYes X0.here hx rfl (pc0 := 22) (pc' := 31) rfl (hb hby at_22) rfl (flt (by decide : ¬ (1 : Int32) < (1 : Int32))).2.2.2 (by decide) (by decide) kz) ?_
      show own_Go p e below s _ _ (s₁.setTop (mkF m 31 #[.val (.int pp), .val (.long c0), .second, .val (.long c1), .second, .val (.long c2), .second, .val (.long c3), .second, .val (.int (1 : Int32)), .unset, .unset, .unset] []))
      refine own_by (fun tz kz => XS.iload X0.here hx rfl (hb hby at_31) rfl  kz) ?_
      show own_Go p e below s _ _ (s₁.setTop (mkF m 33 #[.val (.int pp), .val (.long c0), .second, .val (.long c1), .second, .val (.long c2), .second, .val (.long c3), .second, .val (.int (1 : Int32)), .unset, .unset, .unset] [(.int (1 : Int32))]))
      refine own_by (fun tz kz => XS.iconst X0.here hx rfl (hb hby at_33) kz) ?_
      show own_Go p e below s _ _ (s₁.setTop (mkF m 34 #[.val (.int pp), .val (.long c0), .second, .val (.long c1), .second, .val (.long c2), .second, .val (.long c3), .second, .val (.int (1 : Int32)), .unset, .unset, .unset] [(.int (2 : Int32)), (.int (1 : Int32))]))
      refine own_by (fun tz kz => XS.icmpYes X0.here hx rfl (pc0 := 34) (pc' := 44) rfl (hb hby at_34) rfl (flt (by decide : ¬ (2 : Int32) < (1 : Int32))).2.2.2 (by decide) (by decide) kz) ?_
      show own_Go p e below s _ _ (s₁.setTop (mkF m 44 #[.val (.int pp), .val (.long c0), .second, .val (.long c1), .second, .val (.long c2), .second, .val (.long c3), .second, .val (.int (1 : Int32)), .unset, .unset, .unset] []))
      refine own_by (fun tz kz => XS.iload X0.here hx rfl (hb hby at_44) rfl  kz) ?_
      show own_Go p e below s _ _ (s₁.setTop (mkF m 46 #[.val (.int pp), .val (.long c0), .second, .val (.long c1), .second, .val (.long c2), .second, .val (.long c3), .second, .val (.int (1 : Int32)), .unset, .unset, .unset] [(.int (1 : Int32))]))
      refine own_by (fun tz kz => XS.iconst X0.here hx rfl (hb hby at_46) kz) ?_
      show own_Go p e below s _ _ (s₁.setTop (mkF m 47 #[.val (.int pp), .val (.long c0), .second, .val (.long c1), .second, .val (.long c2), .second, .val (.long c3), .second, .val (.int (1 : Int32)), .unset, .unset, .unset] [(.int (3 : Int32)), (.int (1 : Int32))]))
      refine own_by (fun tz kz => XS.icmpYes X0.here hx rfl (pc0 := 47) (pc' := 59) rfl (hb hby at_47) rfl (flt (by decide : ¬ (3 : Int32) < (1 : Int32))).2.2.2 (by decide) (by decide) kz) ?_
      show own_Go p e below s _ _ (s₁.setTop (mkF m 59 #[.val (.int pp), .val (.long c0), .second, .val (.long c1), .second, .val (.long c2), .second, .val (.long c3), .second, .val (.int (1 : Int32)), .unset, .unset, .unset] []))
      obtain ⟨T18, h18, X18, e18, E18, A18, D18, -, st18⟩ := newO X0 hx hZ hown (hw _ (List.mem_of_getElem? (i := 1) rfl)) (hw _ (List.mem_of_getElem? (i := 2) rfl)) (hw _ (List.mem_of_getElem? (i := 3) rfl)) e0 (g := (mkF m 59 #[.val (.int pp), .val (.long c0), .second, .val (.long c1), .second, .val (.long c2), .second, .val (.long c3), .second, .val (.int (1 : Int32)), .unset, .unset, .unset] [])) rfl (hb hby at_59) (by decide) (by decide)
      obtain ⟨b18, g18⟩ : ∃ z, z = h0.size := ⟨_, rfl⟩
      rw [← g18] at A18 D18 st18
      have g_b18 : n0 ≤ b18 := by rw [g18]; exact O0.1 ▸ O0.2.1
      have sz_b18 : h0.size ≤ b18 := by rw [g18]; exact K0.1
      have O18 := O0.ext E18
      have K18 := K0.ext E18
      refine own_by st18 ?_
      have F18_lowerUnit : Fld Z h18 b18 "com/example/liftwise/liftwise/eval/arithmetic/Solver$Sides" "lowerUnit" "Z" (.int (0 : Int32)) := D18 (Or.inl (hw _ (List.mem_of_getElem? (i := 11) rfl))) (ty := .boolean) (by decide)
      have F18_upperUnit : Fld Z h18 b18 "com/example/liftwise/liftwise/eval/arithmetic/Solver$Sides" "upperUnit" "Z" (.int (0 : Int32)) := D18 (Or.inl (hw _ (List.mem_of_getElem? (i := 13) rfl))) (ty := .boolean) (by decide)
      have F18_lower : Fld Z h18 b18 "com/example/liftwise/liftwise/eval/arithmetic/Solver$Sides" "lower" "I" (.int (0 : Int32)) := D18 (Or.inl (hw _ (List.mem_of_getElem? (i := 71) rfl))) (ty := .int) (by decide)
      have F18_upper : Fld Z h18 b18 "com/example/liftwise/liftwise/eval/arithmetic/Solver$Sides" "upper" "I" (.int (0 : Int32)) := D18 (Or.inl (hw _ (List.mem_of_getElem? (i := 83) rfl))) (ty := .int) (by decide)
      show own_Go p e below s _ _ (T18.setTop (mkF m 62 #[.val (.int pp), .val (.long c0), .second, .val (.long c1), .second, .val (.long c2), .second, .val (.long c3), .second, .val (.int (1 : Int32)), .unset, .unset, .unset] [(.ref b18)]))
      refine own_by (fun tz kz => XS.dup X18.here hx rfl (hb hby at_62) rfl rfl kz) ?_
      show own_Go p e below s _ _ (T18.setTop (mkF m 63 #[.val (.int pp), .val (.long c0), .second, .val (.long c1), .second, .val (.long c2), .second, .val (.long c3), .second, .val (.int (1 : Int32)), .unset, .unset, .unset] [(.ref b18), (.ref b18)]))
      obtain ⟨_, _, ⟨T19, L19, k19, n19⟩, -, X19, ⟨Lc19, hQ19, l19, y19, z19⟩, st19⟩ := X18.specialBack hx (y := (⟨"com/example/liftwise/liftwise/eval/arithmetic/Solver$Sides", "<init>", "()V"⟩ : MethodName)) rfl hown (mvT hZ (hw _ (List.mem_of_getElem? (i := 4) rfl))) (mvT hZ (hw _ (List.mem_of_getElem? (i := 5) rfl))) (mvT hZ (hw _ (List.mem_of_getElem? (i := 6) rfl))) (by decide) (backOf (W := 1) (rm_Sinit l Z a0 hw [] b18 h18 n0 O18 A18 F18_lower F18_upper F18_lowerUnit F18_upperUnit g_b18) hZ (hw _ (List.mem_of_getElem? (i := 6) rfl)) (hw _ (List.mem_of_getElem? (i := 3) rfl)) (by decide) (by decide)) (g := (mkF m 63 #[.val (.int pp), .val (.long c0), .second, .val (.long c1), .second, .val (.long c2), .second, .val (.long c3), .second, .val (.int (1 : Int32)), .unset, .unset, .unset] [(.ref b18), (.ref b18)])) rfl (by rw [hml]; rfl) (Steps.refl _) (a := b18) (argsL := []) (rest := [(.ref b18)]) (lenOf pd_0 rfl) rfl (by show 2 * 0 + _ ≤ _; exact Nat.le_of_eq rfl) (hb hby at_63) (fun _ _ => ⟨rfl, e18, (by decide : 1 + 0 ≤ _), (by decide : 4 + 0 ≤ _)⟩)
      dsimp only [Pt.U, Pt.locs, Pt.cells, Pt.slots] at X19 l19 y19 z19 st19 hQ19
      rw [l19, y19, z19] at X19
      obtain ⟨rfl, Nq19, Kq19, Fa19, Fb19, Fc19, Fd19⟩ := hQ19
      have N19 := Fr.app N0 Nq19
      have e19 : T19.heap = T19.heap := rfl
      refine own_via st19 ?_
      have O19 := O18.keep Kq19 (allS g_b18 all0)
      have K19 := K18.trans Kq19 (allS (Or.inr sz_b18) all0)
      show own_Go p e below s _ _ (T19.setTop (mkF m 66 #[.val (.int pp), .val (.long c0), .second, .val (.long c1), .second, .val (.long c2), .second, .val (.long c3), .second, .val (.int (1 : Int32)), .unset, .unset, .unset] [(.ref b18)]))
      refine own_by (fun tz kz => XS.astore X19.here hx rfl (hb hby at_66) rfl rfl (l' := #[.val (.int pp), .val (.long c0), .second, .val (.long c1), .second, .val (.long c2), .second, .val (.long c3), .second, .val (.int (1 : Int32)), .val (.ref b18), .unset, .unset]) rfl kz) ?_
      show own_Go p e below s _ _ (T19.setTop (mkF m 68 #[.val (.int pp), .val (.long c0), .second, .val (.long c1), .second, .val (.long c2), .second, .val (.long c3), .second, .val (.int (1 : Int32)), .val (.ref b18), .unset, .unset] []))
      refine own_by (fun tz kz => XS.iload X19.here hx rfl (hb hby at_68) rfl  kz) ?_
      show own_Go p e below s _ _ (T19.setTop (mkF m 70 #[.val (.int pp), .val (.long c0), .second, .val (.long c1), .second, .val (.long c2), .second, .val (.long c3), .second, .val (.int (1 : Int32)), .val (.ref b18), .unset, .unset] [(.int (1 : Int32))]))
      refine own_by (fun tz kz => XS.ifNo X19.here hx rfl (hb hby at_70) rfl ((if0 _ _).trans (tlt (by decide : (0 : Int32) < (1 : Int32))).2.2.2) kz) ?_
      show own_Go p e below s _ _ (T19.setTop (mkF m 73 #[.val (.int pp), .val (.long c0), .second, .val (.long c1), .second, .val (.long c2), .second, .val (.long c3), .second, .val (.int (1 : Int32)), .val (.ref b18), .unset, .unset] []))
      refine own_by (fun tz kz => XS.aload X19.here hx rfl (hb hby at_73) rfl rfl kz) ?_
      show own_Go p e below s _ _ (T19.setTop (mkF m 75 #[.val (.int pp), .val (.long c0), .second, .val (.long c1), .second, .val (.long c2), .second, .val (.long c3), .second, .val (.int (1 : Int32)), .val (.ref b18), .unset, .unset] [(.ref b18)]))
      refine own_by (fun tz kz => XS.lloadN X19.here hx rfl (hb hby at_75) rfl kz) ?_
      show own_Go p e below s _ _ (T19.setTop (mkF m 76 #[.val (.int pp), .val (.long c0), .second, .val (.long c1), .second, .val (.long c2), .second, .val (.long c3), .second, .val (.int (1 : Int32)), .val (.ref b18), .unset, .unset] [(.long c0), (.ref b18)]))
      obtain ⟨_, _, ⟨T20, L20, k20, n20⟩, -, X20, ⟨Lc20, hQ20, l20, y20, z20⟩, st20⟩ := Jvm.LawKit.callS X19 hx (y := (⟨"java/math/BigInteger", "valueOf", "(J)Ljava/math/BigInteger;"⟩ : MethodName)) hown (mvT hZ (hw _ (List.mem_of_getElem? (i := 26) rfl))) (mvT hZ (hw _ (List.mem_of_getElem? (i := 27) rfl))) (mvT hZ (hw _ (List.mem_of_getElem? (i := 28) rfl))) (mvT hZ (hw _ (List.mem_of_getElem? (i := 29) rfl))) (by decide) (backOf (W := 1) (rm_valueOf l Z a0 hw [] c0 pa na pc nc T19.heap n0 O19 S_pos S_neg T_pos T_neg hc16_17) hZ (hw _ (List.mem_of_getElem? (i := 29) rfl)) (hw _ (List.mem_of_getElem? (i := 28) rfl)) (by decide) (by decide)) (g := (mkF m 76 #[.val (.int pp), .val (.long c0), .second, .val (.long c1), .second, .val (.long c2), .second, .val (.long c3), .second, .val (.int (1 : Int32)), .val (.ref b18), .unset, .unset] [(.long c0), (.ref b18)])) rfl (by rw [hml]; rfl) (argsL := [(.long c0)]) (rest := [(.ref b18)]) (lenOf pd_3 rfl) rfl (by show 2 * 0 + _ ≤ _; exact Nat.le_of_eq rfl) (hb hby at_76) (fun _ _ => ⟨rfl, e19, (by decide : 1 + 2 ≤ _), (by decide : 4 + 8 ≤ _)⟩)
      dsimp only [Pt.U, Pt.locs, Pt.cells, Pt.slots] at X20 l20 y20 z20 st20 hQ20
      rw [l20, y20, z20] at X20
      obtain ⟨o20, rfl, Nq20, Kq20, Bq20⟩ := hQ20
      have N20 := Fr.app N19 Nq20
      have e20 : T20.heap = T20.heap := rfl
      refine own_by st20 ?_
      have O20 := O19.keep Kq20 all0
      have K20 := K19.trans Kq20 all0
      show own_Go p e below s _ _ (T20.setTop (mkF m 79 #[.val (.int pp), .val (.long c0), .second, .val (.long c1), .second, .val (.long c2), .second, .val (.long c3), .second, .val (.int (1 : Int32)), .val (.ref b18), .unset, .unset] [(.ref o20), (.ref b18)]))
      have f21 := ((A18.keep Kq19).keep Kq20)
      have f22 := (Fa19.keep Kq20 nin0)
      have f23 := (Fb19.keep Kq20 nin0)
      have f24 := (Fc19.keep Kq20 nin0)
      have f25 := (Fd19.keep Kq20 nin0)
      obtain ⟨cq26, kq26, q26a, q26b, q26c⟩ := isOf hZ e20 f21
      obtain ⟨_, _, ⟨T26, L26, k26, n26⟩, -, X26, ⟨Lc26, hQ26, l26, y26, z26⟩, st26⟩ := X20.virtualBack hx (y := (⟨"com/example/liftwise/liftwise/eval/arithmetic/Solver$Sides", "add", "(Ljava/math/BigInteger;)V"⟩ : MethodName)) (z := (⟨"com/example/liftwise/liftwise/eval/arithmetic/Solver$Sides", "add", "(Ljava/math/BigInteger;)V"⟩ : MethodName)) hown (mvT hZ (hw _ (List.mem_of_getElem? (i := 49) rfl))) (mvT hZ (hw _ (List.mem_of_getElem? (i := 50) rfl))) (notFace_of_selects (args := #[]) (mvT hZ (hw _ (List.mem_of_getElem? (i := 52) rfl)))) (mvT hZ (hw _ (List.mem_of_getElem? (i := 52) rfl))) (mvT hZ (hw _ (List.mem_of_getElem? (i := 51) rfl))) (by decide) (backOf (W := 0) (rm_add l Z a0 hw [] b18 o20 one om ko (own_sg c0) (own_un c0) (0 : Int32) (0 : Int32) (1 : Int32) (1 : Int32) (own_up c0 (0 : Int32)) (own_dn c0 (0 : Int32)) (own_lu c0 (1 : Int32)) (own_uu c0 (1 : Int32)) T20.heap n0 O20 S_ONE E_one Fs_one Fm_one V_one f21 f22 f23 f24 f25 g_b18 Bq20 (own_sg_or _) (own_un_or _) (Or.inr rfl) (Or.inr rfl) rfl rfl rfl rfl) hZ (hw _ (List.mem_of_getElem? (i := 53) rfl)) (hw _ (List.mem_of_getElem? (i := 3) rfl)) (by decide) (by decide)) q26a q26c (g := (mkF m 79 #[.val (.int pp), .val (.long c0), .second, .val (.long c1), .second, .val (.long c2), .second, .val (.long c3), .second, .val (.int (1 : Int32)), .val (.ref b18), .unset, .unset] [(.ref o20), (.ref b18)])) rfl (by rw [hml]; rfl) (Steps.refl _) (argsL := [(.ref o20)]) (rest := []) (lenOf pd_5 rfl) rfl (by show 2 * 0 + _ ≤ _; exact Nat.le_of_eq rfl) (hb hby at_79) (fun _ _ => ⟨rfl, e20, (by decide : (1 + 2) + 1 ≤ _), (by decide : (4 + 8) + 6 ≤ _)⟩)
      dsimp only [Pt.U, Pt.locs, Pt.cells, Pt.slots] at X26 l26 y26 z26 st26 hQ26
      rw [l26, y26, z26] at X26
      obtain ⟨rfl, Nq26, Kq26, Fa26, Fb26, Fc26, Fd26⟩ := hQ26
      have N26 := Fr.app N20 Nq26
      have e26 : T26.heap = T26.heap := rfl
      refine own_via st26 ?_
      have O26 := O20.keep Kq26 (allS g_b18 all0)
      have K26 := K20.trans Kq26 (allS (Or.inr sz_b18) all0)
      show own_Go p e below s _ _ (T26.setTop (mkF m 82 #[.val (.int pp), .val (.long c0), .second, .val (.long c1), .second, .val (.long c2), .second, .val (.long c3), .second, .val (.int (1 : Int32)), .val (.ref b18), .unset, .unset] []))
      refine own_by (fun tz kz => XS.iload X26.here hx rfl (hb hby at_82) rfl  kz) ?_
      show own_Go p e below s _ _ (T26.setTop (mkF m 84 #[.val (.int pp), .val (.long c0), .second, .val (.long c1), .second, .val (.long c2), .second, .val (.long c3), .second, .val (.int (1 : Int32)), .val (.ref b18), .unset, .unset] [(.int (1 : Int32))]))
      refine own_by (fun tz kz => XS.iconst X26.here hx rfl (hb hby at_84) kz) ?_
      show own_Go p e below s _ _ (T26.setTop (mkF m 85 #[.val (.int pp), .val (.long c0), .second, .val (.long c1), .second, .val (.long c2), .second, .val (.long c3), .second, .val (.int (1 : Int32)), .val (.ref b18), .unset, .unset] [(.int (1 : Int32)), (.int (1 : Int32))]))
      refine own_by (fun tz kz => XS.icmpYes X26.here hx rfl (pc0 := 85) (pc' := 97) rfl (hb hby at_85) rfl (flt (by decide : ¬ (1 : Int32) < (1 : Int32))).2.2.2 (by decide) (by decide) kz) ?_
      show own_Go p e below s _ _ (T26.setTop (mkF m 97 #[.val (.int pp), .val (.long c0), .second, .val (.long c1), .second, .val (.long c2), .second, .val (.long c3), .second, .val (.int (1 : Int32)), .val (.ref b18), .unset, .unset] []))
      refine own_by (fun tz kz => XS.iload X26.here hx rfl (hb hby at_97) rfl  kz) ?_
      show own_Go p e below s _ _ (T26.setTop (mkF m 99 #[.val (.int pp), .val (.long c0), .second, .val (.long c1), .second, .val (.long c2), .second, .val (.long c3), .second, .val (.int (1 : Int32)), .val (.ref b18), .unset, .unset] [(.int (1 : Int32))]))
      refine own_by (fun tz kz => XS.iconst X26.here hx rfl (hb hby at_99) kz) ?_
      show own_Go p e below s _ _ (T26.setTop (mkF m 100 #[.val (.int pp), .val (.long c0), .second, .val (.long c1), .second, .val (.long c2), .second, .val (.long c3), .second, .val (.int (1 : Int32)), .val (.ref b18), .unset, .unset] [(.int (2 : Int32)), (.int (1 : Int32))]))
      refine own_by (fun tz kz => XS.icmpYes X26.here hx rfl (pc0 := 100) (pc' := 113) rfl (hb hby at_100) rfl (flt (by decide : ¬ (2 : Int32) < (1 : Int32))).2.2.2 (by decide) (by decide) kz) ?_
      show own_Go p e below s _ _ (T26.setTop (mkF m 113 #[.val (.int pp), .val (.long c0), .second, .val (.long c1), .second, .val (.long c2), .second, .val (.long c3), .second, .val (.int (1 : Int32)), .val (.ref b18), .unset, .unset] []))
      refine own_by (fun tz kz => XS.iload X26.here hx rfl (hb hby at_113) rfl  kz) ?_
      show own_Go p e below s _ _ (T26.setTop (mkF m 115 #[.val (.int pp), .val (.long c0), .second, .val (.long c1), .second, .val (.long c2), .second, .val (.long c3), .second, .val (.int (1 : Int32)), .val (.ref b18), .unset, .unset] [(.int (1 : Int32))]))
      refine own_by (fun tz kz => XS.iconst X26.here hx rfl (hb hby at_115) kz) ?_
      show own_Go p e below s _ _ (T26.setTop (mkF m 116 #[.val (.int pp), .val (.long c0), .second, .val (.long c1), .second, .val (.long c2), .second, .val (.long c3), .second, .val (.int (1 : Int32)), .val (.ref b18), .unset, .unset] [(.int (3 : Int32)), (.int (1 : Int32))]))
      refine own_by (fun tz kz => XS.icmpYes X26.here hx rfl (pc0 := 116) (pc' := 129) rfl (hb hby at_116) rfl (flt (by decide : ¬ (3 : Int32) < (1 : Int32))).2.2.2 (by decide) (by decide) kz) ?_
      have J209 : ∀ (Tj27 : State) (Lj27 : List Loc), Stand p l e room_1 s m #[(.int pp), (.long c0), (.long c1), (.long c2), (.long c3)] below meth c Tj27 Lj27 ((1 + 2) + 1) ((4 + 8) + 6) → Tj27.heap = T26.heap → Fr n0 Lj27 → ∀ lo : Int32, lo = own_all LF0 (1 : Int32) (1 : Int32) (1 : Int32) → own_Go p e below s (Q_rm0 n0) room_1 (Tj27.setTop (mkF m 209 #[.val (.int pp), .val (.long c0), .second, .val (.long c1), .second, .val (.long c2), .second, .val (.long c3), .second, .val (.int (1 : Int32)), .val (.ref b18), .val (.int lo), .unset] [])) := by
        intro Tj27 Lj27 Xj27 ej27 Nj27 lo hlo
        have J289 : ∀ (Tj28 : State) (Lj28 : List Loc), Stand p l e room_1 s m #[(.int pp), (.long c0), (.long c1), (.long c2), (.long c3)] below meth c Tj28 Lj28 ((1 + 2) + 1) ((4 + 8) + 6) → Tj28.heap = T26.heap → Fr n0 Lj28 → ∀ up : Int32, up = own_all UF0 (1 : Int32) (1 : Int32) (1 : Int32) → own_Go p e below s (Q_rm0 n0) room_1 (Tj28.setTop (mkF m 289 #[.val (.int pp), .val (.long c0), .second, .val (.long c1), .second, .val (.long c2), .second, .val (.long c3), .second, .val (.int (1 : Int32)), .val (.ref b18), .val (.int lo), .val (.int up)] [])) := by
          intro Tj28 Lj28 Xj28 ej28 Nj28 up hup
          show own_Go p e below s _ _ (Tj28.setTop (mkF m 289 #[.val (.int pp), .val (.long c0), .second, .val (.long c1), .second, .val (.long c2), .second, .val (.long c3), .second, .val (.int (1 : Int32)), .val (.ref b18), .val (.int lo), .val (.int up)] []))
          refine own_by (fun tz kz => XS.aload Xj28.here hx rfl (hb hby at_289) rfl rfl kz) ?_
          show own_Go p e below s _ _ (Tj28.setTop (mkF m 291 #[.val (.int pp), .val (.long c0), .second, .val (.long c1), .second, .val (.long c2), .second, .val (.long c3), .second, .val (.int (1 : Int32)), .val (.ref b18), .val (.int lo), .val (.int up)] [(.ref b18)]))
          have f29 := (f21.keep Kq26)
          obtain ⟨cq30, kq30, q30a, q30b, q30c⟩ := isOf hZ ej28 f29
          obtain ⟨_, _, ⟨T30, L30, k30, n30⟩, -, X30, ⟨Lc30, hQ30, l30, y30, z30⟩, st30⟩ := Xj28.virtualBack hx (y := (⟨"com/example/liftwise/liftwise/eval/arithmetic/Solver$Sides", "isExact", "()Z"⟩ : MethodName)) (z := (⟨"com/example/liftwise/liftwise/eval/arithmetic/Solver$Sides", "isExact", "()Z"⟩ : MethodName)) hown (mvT hZ (hw _ (List.mem_of_getElem? (i := 21) rfl))) (mvT hZ (hw _ (List.mem_of_getElem? (i := 22) rfl))) (notFace_of_selects (args := #[]) (mvT hZ (hw _ (List.mem_of_getElem? (i := 24) rfl)))) (mvT hZ (hw _ (List.mem_of_getElem? (i := 24) rfl))) (mvT hZ (hw _ (List.mem_of_getElem? (i := 23) rfl))) (by decide) (backOf (W := 0) (rm_exact l Z a0 hw [] b18 (own_lu c0 (1 : Int32)) (own_uu c0 (1 : Int32)) (if ¬ lo = (0 : Int32) ∨ ¬ up = (0 : Int32) then (1 : Int32) else (0 : Int32)) T26.heap n0 Fc26 Fd26 (own_ex ((own_rell1 c0 c1 c2 c3 hLF0 hc16_17).trans hlo.symm) ((own_relu1 c0 c1 c2 c3 hUF0 hc16_17).trans hup.symm))) hZ (hw _ (List.mem_of_getElem? (i := 25) rfl)) (hw _ (List.mem_of_getElem? (i := 3) rfl)) (by decide) (by decide)) q30a q30c (g := (mkF m 291 #[.val (.int pp), .val (.long c0), .second, .val (.long c1), .second, .val (.long c2), .second, .val (.long c3), .second, .val (.int (1 : Int32)), .val (.ref b18), .val (.int lo), .val (.int up)] [(.ref b18)])) rfl (by rw [hml]; rfl) (Steps.refl _) (argsL := []) (rest := []) (lenOf pd_2 rfl) rfl (by show 2 * 0 + _ ≤ _; exact Nat.le_of_eq rfl) (hb hby at_291) (fun _ _ => ⟨rfl, ej28, (by decide : ((1 + 2) + 1) + 0 ≤ _), (by decide : ((4 + 8) + 6) + 0 ≤ _)⟩)
          dsimp only [Pt.U, Pt.locs, Pt.cells, Pt.slots] at X30 l30 y30 z30 st30 hQ30
          rw [l30, y30, z30] at X30
          obtain ⟨rfl, Nq30, e30⟩ := hQ30
          have N30 := Fr.app Nj28 Nq30
          refine own_via st30 ?_
          show own_Go p e below s _ _ (T30.setTop (mkF m 294 #[.val (.int pp), .val (.long c0), .second, .val (.long c1), .second, .val (.long c2), .second, .val (.long c3), .second, .val (.int (1 : Int32)), .val (.ref b18), .val (.int lo), .val (.int up)] [(.int (if ¬ lo = (0 : Int32) ∨ ¬ up = (0 : Int32) then (1 : Int32) else (0 : Int32)))]))
          refine own_by (fun tz kz => XS.iload X30.here hx rfl (hb hby at_294) rfl  kz) ?_
          show own_Go p e below s _ _ (T30.setTop (mkF m 296 #[.val (.int pp), .val (.long c0), .second, .val (.long c1), .second, .val (.long c2), .second, .val (.long c3), .second, .val (.int (1 : Int32)), .val (.ref b18), .val (.int lo), .val (.int up)] [(.int lo), (.int (if ¬ lo = (0 : Int32) ∨ ¬ up = (0 : Int32) then (1 : Int32) else (0 : Int32)))]))
          by_cases hc296_31 : lo = (0 : Int32)
          · refine own_by (fun tz kz => XS.ifNo X30.here hx rfl (hb hby at_296) rfl ((if0 _ _).trans (teq hc296_31).2) kz) ?_
            show own_Go p e below s _ _ (T30.setTop (mkF m 299 #[.val (.int pp), .val (.long c0), .second, .val (.long c1), .second, .val (.long c2), .second, .val (.long c3), .second, .val (.int (1 : Int32)), .val (.ref b18), .val (.int lo), .val (.int up)] [(.int (if ¬ lo = (0 : Int32) ∨ ¬ up = (0 : Int32) then (1 : Int32) else (0 : Int32)))]))
            refine own_by (fun tz kz => XS.iload X30.here hx rfl (hb hby at_299) rfl  kz) ?_
            show own_Go p e below s _ _ (T30.setTop (mkF m 301 #[.val (.int pp), .val (.long c0), .second, .val (.long c1), .second, .val (.long c2), .second, .val (.long c3), .second, .val (.int (1 : Int32)), .val (.ref b18), .val (.int lo), .val (.int up)] [(.int up), (.int (if ¬ lo = (0 : Int32) ∨ ¬ up = (0 : Int32) then (1 : Int32) else (0 : Int32)))]))
            by_cases hc301_32 : up = (0 : Int32)
            · refine own_by (fun tz kz => XS.ifYes X30.here hx rfl (pc0 := 301) (pc' := 308) rfl (hb hby at_301) rfl ((if0 _ _).trans (teq hc301_32).1) (by decide) (by decide) kz) ?_
              show own_Go p e below s _ _ (T30.setTop (mkF m 308 #[.val (.int pp), .val (.long c0), .second, .val (.long c1), .second, .val (.long c2), .second, .val (.long c3), .second, .val (.int (1 : Int32)), .val (.ref b18), .val (.int lo), .val (.int up)] [(.int (if ¬ lo = (0 : Int32) ∨ ¬ up = (0 : Int32) then (1 : Int32) else (0 : Int32)))]))
              refine own_by (fun tz kz => XS.iconst X30.here hx rfl (hb hby at_308) kz) ?_
              show own_Go p e below s _ _ (T30.setTop (mkF m 309 #[.val (.int pp), .val (.long c0), .second, .val (.long c1), .second, .val (.long c2), .second, .val (.long c3), .second, .val (.int (1 : Int32)), .val (.ref b18), .val (.int lo), .val (.int up)] [(.int (0 : Int32)), (.int (if ¬ lo = (0 : Int32) ∨ ¬ up = (0 : Int32) then (1 : Int32) else (0 : Int32)))]))
              refine own_by (fun tz kz => XS.icmpNo X30.here hx rfl (hb hby at_309) rfl (teq (if_neg (fun q => q.elim (fun q => q hc296_31) (fun q => q hc301_32)))).2 kz) ?_
              show own_Go p e below s _ _ (T30.setTop (mkF m 312 #[.val (.int pp), .val (.long c0), .second, .val (.long c1), .second, .val (.long c2), .second, .val (.long c3), .second, .val (.int (1 : Int32)), .val (.ref b18), .val (.int lo), .val (.int up)] []))
              refine own_by (fun tz kz => XS.iconst X30.here hx rfl (hb hby at_312) kz) ?_
              show own_Go p e below s _ _ (T30.setTop (mkF m 313 #[.val (.int pp), .val (.long c0), .second, .val (.long c1), .second, .val (.long c2), .second, .val (.long c3), .second, .val (.int (1 : Int32)), .val (.ref b18), .val (.int lo), .val (.int up)] [(.int (1 : Int32))]))
              refine own_by (fun tz kz => XS.goto X30.here hx rfl (pc0 := 313) (pc' := 317) rfl (hb hby at_313) (by decide) (by decide) kz) ?_
              show own_Go p e below s _ _ (T30.setTop (mkF m 317 #[.val (.int pp), .val (.long c0), .second, .val (.long c1), .second, .val (.long c2), .second, .val (.long c3), .second, .val (.int (1 : Int32)), .val (.ref b18), .val (.int lo), .val (.int up)] [(.int (1 : Int32))]))
              refine own_retI X30 hx hlk (t := .boolean) hret (by simp) rfl (hb hby at_317) ?_ (by decide) (by decide)
              exact ⟨rfl, N30⟩
            · refine own_by (fun tz kz => XS.ifNo X30.here hx rfl (hb hby at_301) rfl ((if0 _ _).trans (feq hc301_32).1) kz) ?_
              show own_Go p e below s _ _ (T30.setTop (mkF m 304 #[.val (.int pp), .val (.long c0), .second, .val (.long c1), .second, .val (.long c2), .second, .val (.long c3), .second, .val (.int (1 : Int32)), .val (.ref b18), .val (.int lo), .val (.int up)] [(.int (if ¬ lo = (0 : Int32) ∨ ¬ up = (0 : Int32) then (1 : Int32) else (0 : Int32)))]))
              refine own_by (fun tz kz => XS.iconst X30.here hx rfl (hb hby at_304) kz) ?_
              show own_Go p e below s _ _ (T30.setTop (mkF m 305 #[.val (.int pp), .val (.long c0), .second, .val (.long c1), .second, .val (.long c2), .second, .val (.long c3), .second, .val (.int (1 : Int32)), .val (.ref b18), .val (.int lo), .val (.int up)] [(.int (1 : Int32)), (.int (if ¬ lo = (0 : Int32) ∨ ¬ up = (0 : Int32) then (1 : Int32) else (0 : Int32)))]))
              refine own_by (fun tz kz => XS.goto X30.here hx rfl (pc0 := 305) (pc' := 309) rfl (hb hby at_305) (by decide) (by decide) kz) ?_
              show own_Go p e below s _ _ (T30.setTop (mkF m 309 #[.val (.int pp), .val (.long c0), .second, .val (.long c1), .second, .val (.long c2), .second, .val (.long c3), .second, .val (.int (1 : Int32)), .val (.ref b18), .val (.int lo), .val (.int up)] [(.int (1 : Int32)), (.int (if ¬ lo = (0 : Int32) ∨ ¬ up = (0 : Int32) then (1 : Int32) else (0 : Int32)))]))
              refine own_by (fun tz kz => XS.icmpNo X30.here hx rfl (hb hby at_309) rfl (teq (if_pos (Or.inr hc301_32))).2 kz) ?_
              show own_Go p e below s _ _ (T30.setTop (mkF m 312 #[.val (.int pp), .val (.long c0), .second, .val (.long c1), .second, .val (.long c2), .second, .val (.long c3), .second, .val (.int (1 : Int32)), .val (.ref b18), .val (.int lo), .val (.int up)] []))
              refine own_by (fun tz kz => XS.iconst X30.here hx rfl (hb hby at_312) kz) ?_
              show own_Go p e below s _ _ (T30.setTop (mkF m 313 #[.val (.int pp), .val (.long c0), .second, .val (.long c1), .second, .val (.long c2), .second, .val (.long c3), .second, .val (.int (1 : Int32)), .val (.ref b18), .val (.int lo), .val (.int up)] [(.int (1 : Int32))]))
              refine own_by (fun tz kz => XS.goto X30.here hx rfl (pc0 := 313) (pc' := 317) rfl (hb hby at_313) (by decide) (by decide) kz) ?_
              show own_Go p e below s _ _ (T30.setTop (mkF m 317 #[.val (.int pp), .val (.long c0), .second, .val (.long c1), .second, .val (.long c2), .second, .val (.long c3), .second, .val (.int (1 : Int32)), .val (.ref b18), .val (.int lo), .val (.int up)] [(.int (1 : Int32))]))
              refine own_retI X30 hx hlk (t := .boolean) hret (by simp) rfl (hb hby at_317) ?_ (by decide) (by decide)
              exact ⟨rfl, N30⟩
          · refine own_by (fun tz kz => XS.ifYes X30.here hx rfl (pc0 := 296) (pc' := 304) rfl (hb hby at_296) rfl ((if0 _ _).trans (feq hc296_31).2) (by decide) (by decide) kz) ?_
            show own_Go p e below s _ _ (T30.setTop (mkF m 304 #[.val (.int pp), .val (.long c0), .second, .val (.long c1), .second, .val (.long c2), .second, .val (.long c3), .second, .val (.int (1 : Int32)), .val (.ref b18), .val (.int lo), .val (.int up)] [(.int (if ¬ lo = (0 : Int32) ∨ ¬ up = (0 : Int32) then (1 : Int32) else (0 : Int32)))]))
            refine own_by (fun tz kz => XS.iconst X30.here hx rfl (hb hby at_304) kz) ?_
            show own_Go p e below s _ _ (T30.setTop (mkF m 305 #[.val (.int pp), .val (.long c0), .second, .val (.long c1), .second, .val (.long c2), .second, .val (.long c3), .second, .val (.int (1 : Int32)), .val (.ref b18), .val (.int lo), .val (.int up)] [(.int (1 : Int32)), (.int (if ¬ lo = (0 : Int32) ∨ ¬ up = (0 : Int32) then (1 : Int32) else (0 : Int32)))]))
            refine own_by (fun tz kz => XS.goto X30.here hx rfl (pc0 := 305) (pc' := 309) rfl (hb hby at_305) (by decide) (by decide) kz) ?_
            show own_Go p e below s _ _ (T30.setTop (mkF m 309 #[.val (.int pp), .val (.long c0), .second, .val (.long c1), .second, .val (.long c2), .second, .val (.long c3), .second, .val (.int (1 : Int32)), .val (.ref b18), .val (.int lo), .val (.int up)] [(.int (1 : Int32)), (.int (if ¬ lo = (0 : Int32) ∨ ¬ up = (0 : Int32) then (1 : Int32) else (0 : Int32)))]))
            refine own_by (fun tz kz => XS.icmpNo X30.here hx rfl (hb hby at_309) rfl (teq (if_pos (Or.inl hc296_31))).2 kz) ?_
            show own_Go p e below s _ _ (T30.setTop (mkF m 312 #[.val (.int pp), .val (.long c0), .second, .val (.long c1), .second, .val (.long c2), .second, .val (.long c3), .second, .val (.int (1 : Int32)), .val (.ref b18), .val (.int lo), .val (.int up)] []))
            refine own_by (fun tz kz => XS.iconst X30.here hx rfl (hb hby at_312) kz) ?_
            show own_Go p e below s _ _ (T30.setTop (mkF m 313 #[.val (.int pp), .val (.long c0), .second, .val (.long c1), .second, .val (.long c2), .second, .val (.long c3), .second, .val (.int (1 : Int32)), .val (.ref b18), .val (.int lo), .val (.int up)] [(.int (1 : Int32))]))
            refine own_by (fun tz kz => XS.goto X30.here hx rfl (pc0 := 313) (pc' := 317) rfl (hb hby at_313) (by decide) (by decide) kz) ?_
            show own_Go p e below s _ _ (T30.setTop (mkF m 317 #[.val (.int pp), .val (.long c0), .second, .val (.long c1), .second, .val (.long c2), .second, .val (.long c3), .second, .val (.int (1 : Int32)), .val (.ref b18), .val (.int lo), .val (.int up)] [(.int (1 : Int32))]))
            refine own_retI X30 hx hlk (t := .boolean) hret (by simp) rfl (hb hby at_317) ?_ (by decide) (by decide)
            exact ⟨rfl, N30⟩
        show own_Go p e below s _ _ (Tj27.setTop (mkF m 209 #[.val (.int pp), .val (.long c0), .second, .val (.long c1), .second, .val (.long c2), .second, .val (.long c3), .second, .val (.int (1 : Int32)), .val (.ref b18), .val (.int lo), .unset] []))
        refine own_by (fun tz kz => XS.iload Xj27.here hx rfl (hb hby at_209) rfl  kz) ?_
        show own_Go p e below s _ _ (Tj27.setTop (mkF m 211 #[.val (.int pp), .val (.long c0), .second, .val (.long c1), .second, .val (.long c2), .second, .val (.long c3), .second, .val (.int (1 : Int32)), .val (.ref b18), .val (.int lo), .unset] [(.int (1 : Int32))]))
        refine own_by (fun tz kz => XS.ifNo Xj27.here hx rfl (hb hby at_211) rfl ((if0 _ _).trans (tlt (by decide : (0 : Int32) < (1 : Int32))).2.2.2) kz) ?_
        show own_Go p e below s _ _ (Tj27.setTop (mkF m 214 #[.val (.int pp), .val (.long c0), .second, .val (.long c1), .second, .val (.long c2), .second, .val (.long c3), .second, .val (.int (1 : Int32)), .val (.ref b18), .val (.int lo), .unset] []))
        refine own_by (fun tz kz => XS.iconst Xj27.here hx rfl (hb hby at_214) kz) ?_
        show own_Go p e below s _ _ (Tj27.setTop (mkF m 215 #[.val (.int pp), .val (.long c0), .second, .val (.long c1), .second, .val (.long c2), .second, .val (.long c3), .second, .val (.int (1 : Int32)), .val (.ref b18), .val (.int lo), .unset] [(.int (1 : Int32))]))
        refine own_by (fun tz kz => XS.goto Xj27.here hx rfl (pc0 := 215) (pc' := 219) rfl (hb hby at_215) (by decide) (by decide) kz) ?_
        show own_Go p e below s _ _ (Tj27.setTop (mkF m 219 #[.val (.int pp), .val (.long c0), .second, .val (.long c1), .second, .val (.long c2), .second, .val (.long c3), .second, .val (.int (1 : Int32)), .val (.ref b18), .val (.int lo), .unset] [(.int (1 : Int32))]))
        refine own_by (fun tz kz => XS.lloadN Xj27.here hx rfl (hb hby at_219) rfl kz) ?_
        show own_Go p e below s _ _ (Tj27.setTop (mkF m 220 #[.val (.int pp), .val (.long c0), .second, .val (.long c1), .second, .val (.long c2), .second, .val (.long c3), .second, .val (.int (1 : Int32)), .val (.ref b18), .val (.int lo), .unset] [(.long c0), (.int (1 : Int32))]))
        obtain ⟨_, _, ⟨T33, L33, k33, n33⟩, -, X33, ⟨Lc33, hQ33, l33, y33, z33⟩, st33⟩ := Jvm.LawKit.callS Xj27 hx (y := (⟨"com/example/liftwise/liftwise/eval/arithmetic/SidesIsExactPinLaw", "upperFine", "(ZJ)Z"⟩ : MethodName)) hown (mvT hZ (hw _ (List.mem_of_getElem? (i := 18) rfl))) (mvT hZ (hw _ (List.mem_of_getElem? (i := 19) rfl))) (mvT hZ (hw _ (List.mem_of_getElem? (i := 16) rfl))) (mvT hZ (hw _ (List.mem_of_getElem? (i := 20) rfl))) (by decide) (backOf (W := 0) (rm_upperFine l Z a0 hw [] (1 : Int32) c0 UF0 T26.heap n0 hUF0) hZ (hw _ (List.mem_of_getElem? (i := 20) rfl)) (hw _ (List.mem_of_getElem? (i := 16) rfl)) (by decide) (by decide)) (g := (mkF m 220 #[.val (.int pp), .val (.long c0), .second, .val (.long c1), .second, .val (.long c2), .second, .val (.long c3), .second, .val (.int (1 : Int32)), .val (.ref b18), .val (.int lo), .unset] [(.long c0), (.int (1 : Int32))])) rfl (by rw [hml]; rfl) (argsL := [(.int (1 : Int32)), (.long c0)]) (rest := []) (lenOf pd_1 rfl) rfl (by show 2 * 0 + _ ≤ _; exact Nat.le_of_eq rfl) (hb hby at_220) (fun _ _ => ⟨rfl, ej27, (by decide : ((1 + 2) + 1) + 0 ≤ _), (by decide : ((4 + 8) + 6) + 0 ≤ _)⟩)
        dsimp only [Pt.U, Pt.locs, Pt.cells, Pt.slots] at X33 l33 y33 z33 st33 hQ33
        rw [l33, y33, z33] at X33
        obtain ⟨rfl, Nq33, e33⟩ := hQ33
        have N33 := Fr.app Nj27 Nq33
        refine own_by st33 ?_
        show own_Go p e below s _ _ (T33.setTop (mkF m 223 #[.val (.int pp), .val (.long c0), .second, .val (.long c1), .second, .val (.long c2), .second, .val (.long c3), .second, .val (.int (1 : Int32)), .val (.ref b18), .val (.int lo), .unset] [(.int UF0)]))
        by_cases hc223_34 : UF0 = (0 : Int32)
        · refine own_by (fun tz kz => XS.ifYes X33.here hx rfl (pc0 := 223) (pc' := 286) rfl (hb hby at_223) rfl ((if0 _ _).trans (teq hc223_34).1) (by decide) (by decide) kz) ?_
          show own_Go p e below s _ _ (T33.setTop (mkF m 286 #[.val (.int pp), .val (.long c0), .second, .val (.long c1), .second, .val (.long c2), .second, .val (.long c3), .second, .val (.int (1 : Int32)), .val (.ref b18), .val (.int lo), .unset] []))
          refine own_by (fun tz kz => XS.iconst X33.here hx rfl (hb hby at_286) kz) ?_
          show own_Go p e below s _ _ (T33.setTop (mkF m 287 #[.val (.int pp), .val (.long c0), .second, .val (.long c1), .second, .val (.long c2), .second, .val (.long c3), .second, .val (.int (1 : Int32)), .val (.ref b18), .val (.int lo), .unset] [(.int (0 : Int32))]))
          refine own_by (fun tz kz => XS.istore X33.here hx rfl (hb hby at_287) rfl (l' := #[.val (.int pp), .val (.long c0), .second, .val (.long c1), .second, .val (.long c2), .second, .val (.long c3), .second, .val (.int (1 : Int32)), .val (.ref b18), .val (.int lo), .val (.int (0 : Int32))]) rfl kz) ?_
          exact J289 _ _ X33 e33 N33 _ (by simp [own_all, hc223_34])
        · refine own_by (fun tz kz => XS.ifNo X33.here hx rfl (hb hby at_223) rfl ((if0 _ _).trans (feq hc223_34).1) kz) ?_
          show own_Go p e below s _ _ (T33.setTop (mkF m 226 #[.val (.int pp), .val (.long c0), .second, .val (.long c1), .second, .val (.long c2), .second, .val (.long c3), .second, .val (.int (1 : Int32)), .val (.ref b18), .val (.int lo), .unset] []))
          refine own_by (fun tz kz => XS.iload X33.here hx rfl (hb hby at_226) rfl  kz) ?_
          show own_Go p e below s _ _ (T33.setTop (mkF m 228 #[.val (.int pp), .val (.long c0), .second, .val (.long c1), .second, .val (.long c2), .second, .val (.long c3), .second, .val (.int (1 : Int32)), .val (.ref b18), .val (.int lo), .unset] [(.int (1 : Int32))]))
          refine own_by (fun tz kz => XS.iconst X33.here hx rfl (hb hby at_228) kz) ?_
          show own_Go p e below s _ _ (T33.setTop (mkF m 229 #[.val (.int pp), .val (.long c0), .second, .val (.long c1), .second, .val (.long c2), .second, .val (.long c3), .second, .val (.int (1 : Int32)), .val (.ref b18), .val (.int lo), .unset] [(.int (1 : Int32)), (.int (1 : Int32))]))
          refine own_by (fun tz kz => XS.icmpYes X33.here hx rfl (pc0 := 229) (pc' := 236) rfl (hb hby at_229) rfl (flt (by decide : ¬ (1 : Int32) < (1 : Int32))).2.2.2 (by decide) (by decide) kz) ?_
          show own_Go p e below s _ _ (T33.setTop (mkF m 236 #[.val (.int pp), .val (.long c0), .second, .val (.long c1), .second, .val (.long c2), .second, .val (.long c3), .second, .val (.int (1 : Int32)), .val (.ref b18), .val (.int lo), .unset] []))
          refine own_by (fun tz kz => XS.iconst X33.here hx rfl (hb hby at_236) kz) ?_
          show own_Go p e below s _ _ (T33.setTop (mkF m 237 #[.val (.int pp), .val (.long c0), .second, .val (.long c1), .second, .val (.long c2), .second, .val (.long c3), .second, .val (.int (1 : Int32)), .val (.ref b18), .val (.int lo), .unset] [(.int (0 : Int32))]))
          refine own_by (fun tz kz => XS.lloadN X33.here hx rfl (hb hby at_237) rfl kz) ?_
          show own_Go p e below s _ _ (T33.setTop (mkF m 238 #[.val (.int pp), .val (.long c0), .second, .val (.long c1), .second, .val (.long c2), .second, .val (.long c3), .second, .val (.int (1 : Int32)), .val (.ref b18), .val (.int lo), .unset] [(.long c1), (.int (0 : Int32))]))
          obtain ⟨_, _, ⟨T35, L35, k35, n35⟩, -, X35, ⟨Lc35, hQ35, l35, y35, z35⟩, st35⟩ := Jvm.LawKit.callS X33 hx (y := (⟨"com/example/liftwise/liftwise/eval/arithmetic/SidesIsExactPinLaw", "upperFine", "(ZJ)Z"⟩ : MethodName)) hown (mvT hZ (hw _ (List.mem_of_getElem? (i := 18) rfl))) (mvT hZ (hw _ (List.mem_of_getElem? (i := 19) rfl))) (mvT hZ (hw _ (List.mem_of_getElem? (i := 16) rfl))) (mvT hZ (hw _ (List.mem_of_getElem? (i := 20) rfl))) (by decide) (backOf (W := 0) (rm_upperFine l Z a0 hw [] (0 : Int32) c1 (1 : Int32) T26.heap n0 (own_uf0 _)) hZ (hw _ (List.mem_of_getElem? (i := 20) rfl)) (hw _ (List.mem_of_getElem? (i := 16) rfl)) (by decide) (by decide)) (g := (mkF m 238 #[.val (.int pp), .val (.long c0), .second, .val (.long c1), .second, .val (.long c2), .second, .val (.long c3), .second, .val (.int (1 : Int32)), .val (.ref b18), .val (.int lo), .unset] [(.long c1), (.int (0 : Int32))])) rfl (by rw [hml]; rfl) (argsL := [(.int (0 : Int32)), (.long c1)]) (rest := []) (lenOf pd_1 rfl) rfl (by show 2 * 0 + _ ≤ _; exact Nat.le_of_eq rfl) (hb hby at_238) (fun _ _ => ⟨rfl, e33, (by decide : ((1 + 2) + 1) + 0 ≤ _), (by decide : ((4 + 8) + 6) + 0 ≤ _)⟩)
          dsimp only [Pt.U, Pt.locs, Pt.cells, Pt.slots] at X35 l35 y35 z35 st35 hQ35
          rw [l35, y35, z35] at X35
          obtain ⟨rfl, Nq35, e35⟩ := hQ35
          have N35 := Fr.app N33 Nq35
          refine own_by st35 ?_
          show own_Go p e below s _ _ (T35.setTop (mkF m 241 #[.val (.int pp), .val (.long c0), .second, .val (.long c1), .second, .val (.long c2), .second, .val (.long c3), .second, .val (.int (1 : Int32)), .val (.ref b18), .val (.int lo), .unset] [(.int (1 : Int32))]))
          refine own_by (fun tz kz => XS.ifNo X35.here hx rfl (hb hby at_241) rfl ((if0 _ _).trans (feq (by decide : ¬ (1 : Int32) = (0 : Int32))).1) kz) ?_
          show own_Go p e below s _ _ (T35.setTop (mkF m 244 #[.val (.int pp), .val (.long c0), .second, .val (.long c1), .second, .val (.long c2), .second, .val (.long c3), .second, .val (.int (1 : Int32)), .val (.ref b18), .val (.int lo), .unset] []))
          refine own_by (fun tz kz => XS.iload X35.here hx rfl (hb hby at_244) rfl  kz) ?_
          show own_Go p e below s _ _ (T35.setTop (mkF m 246 #[.val (.int pp), .val (.long c0), .second, .val (.long c1), .second, .val (.long c2), .second, .val (.long c3), .second, .val (.int (1 : Int32)), .val (.ref b18), .val (.int lo), .unset] [(.int (1 : Int32))]))
          refine own_by (fun tz kz => XS.iconst X35.here hx rfl (hb hby at_246) kz) ?_
          show own_Go p e below s _ _ (T35.setTop (mkF m 247 #[.val (.int pp), .val (.long c0), .second, .val (.long c1), .second, .val (.long c2), .second, .val (.long c3), .second, .val (.int (1 : Int32)), .val (.ref b18), .val (.int lo), .unset] [(.int (2 : Int32)), (.int (1 : Int32))]))
          refine own_by (fun tz kz => XS.icmpYes X35.here hx rfl (pc0 := 247) (pc' := 254) rfl (hb hby at_247) rfl (flt (by decide : ¬ (2 : Int32) < (1 : Int32))).2.2.2 (by decide) (by decide) kz) ?_
          show own_Go p e below s _ _ (T35.setTop (mkF m 254 #[.val (.int pp), .val (.long c0), .second, .val (.long c1), .second, .val (.long c2), .second, .val (.long c3), .second, .val (.int (1 : Int32)), .val (.ref b18), .val (.int lo), .unset] []))
          refine own_by (fun tz kz => XS.iconst X35.here hx rfl (hb hby at_254) kz) ?_
          show own_Go p e below s _ _ (T35.setTop (mkF m 255 #[.val (.int pp), .val (.long c0), .second, .val (.long c1), .second, .val (.long c2), .second, .val (.long c3), .second, .val (.int (1 : Int32)), .val (.ref b18), .val (.int lo), .unset] [(.int (0 : Int32))]))
          refine own_by (fun tz kz => XS.lload X35.here hx rfl (hb hby at_255) rfl kz) ?_
          show own_Go p e below s _ _ (T35.setTop (mkF m 257 #[.val (.int pp), .val (.long c0), .second, .val (.long c1), .second, .val (.long c2), .second, .val (.long c3), .second, .val (.int (1 : Int32)), .val (.ref b18), .val (.int lo), .unset] [(.long c2), (.int (0 : Int32))]))
          obtain ⟨_, _, ⟨T36, L36, k36, n36⟩, -, X36, ⟨Lc36, hQ36, l36, y36, z36⟩, st36⟩ := Jvm.LawKit.callS X35 hx (y := (⟨"com/example/liftwise/liftwise/eval/arithmetic/SidesIsExactPinLaw", "upperFine", "(ZJ)Z"⟩ : MethodName)) hown (mvT hZ (hw _ (List.mem_of_getElem? (i := 18) rfl))) (mvT hZ (hw _ (List.mem_of_getElem? (i := 19) rfl))) (mvT hZ (hw _ (List.mem_of_getElem? (i := 16) rfl))) (mvT hZ (hw _ (List.mem_of_getElem? (i := 20) rfl))) (by decide) (backOf (W := 0) (rm_upperFine l Z a0 hw [] (0 : Int32) c2 (1 : Int32) T26.heap n0 (own_uf0 _)) hZ (hw _ (List.mem_of_getElem? (i := 20) rfl)) (hw _ (List.mem_of_getElem? (i := 16) rfl)) (by decide) (by decide)) (g := (mkF m 257 #[.val (.int pp), .val (.long c0), .second, .val (.long c1), .second, .val (.long c2), .second, .val (.long c3), .second, .val (.int (1 : Int32)), .val (.ref b18), .val (.int lo), .unset] [(.long c2), (.int (0 : Int32))])) rfl (by rw [hml]; rfl) (argsL := [(.int (0 : Int32)), (.long c2)]) (rest := []) (lenOf pd_1 rfl) rfl (by show 2 * 0 + _ ≤ _; exact Nat.le_of_eq rfl) (hb hby at_257) (fun _ _ => ⟨rfl, e35, (by decide : ((1 + 2) + 1) + 0 ≤ _), (by decide : ((4 + 8) + 6) + 0 ≤ _)⟩)
          dsimp only [Pt.U, Pt.locs, Pt.cells, Pt.slots] at X36 l36 y36 z36 st36 hQ36
          rw [l36, y36, z36] at X36
          obtain ⟨rfl, Nq36, e36⟩ := hQ36
          have N36 := Fr.app N35 Nq36
          refine own_by st36 ?_
          show own_Go p e below s _ _ (T36.setTop (mkF m 260 #[.val (.int pp), .val (.long c0), .second, .val (.long c1), .second, .val (.long c2), .second, .val (.long c3), .second, .val (.int (1 : Int32)), .val (.ref b18), .val (.int lo), .unset] [(.int (1 : Int32))]))
          refine own_by (fun tz kz => XS.ifNo X36.here hx rfl (hb hby at_260) rfl ((if0 _ _).trans (feq (by decide : ¬ (1 : Int32) = (0 : Int32))).1) kz) ?_
          show own_Go p e below s _ _ (T36.setTop (mkF m 263 #[.val (.int pp), .val (.long c0), .second, .val (.long c1), .second, .val (.long c2), .second, .val (.long c3), .second, .val (.int (1 : Int32)), .val (.ref b18), .val (.int lo), .unset] []))
          refine own_by (fun tz kz => XS.iload X36.here hx rfl (hb hby at_263) rfl  kz) ?_
          show own_Go p e below s _ _ (T36.setTop (mkF m 265 #[.val (.int pp), .val (.long c0), .second, .val (.long c1), .second, .val (.long c2), .second, .val (.long c3), .second, .val (.int (1 : Int32)), .val (.ref b18), .val (.int lo), .unset] [(.int (1 : Int32))]))
          refine own_by (fun tz kz => XS.iconst X36.here hx rfl (hb hby at_265) kz) ?_
          show own_Go p e below s _ _ (T36.setTop (mkF m 266 #[.val (.int pp), .val (.long c0), .second, .val (.long c1), .second, .val (.long c2), .second, .val (.long c3), .second, .val (.int (1 : Int32)), .val (.ref b18), .val (.int lo), .unset] [(.int (3 : Int32)), (.int (1 : Int32))]))
          refine own_by (fun tz kz => XS.icmpYes X36.here hx rfl (pc0 := 266) (pc' := 273) rfl (hb hby at_266) rfl (flt (by decide : ¬ (3 : Int32) < (1 : Int32))).2.2.2 (by decide) (by decide) kz) ?_
          show own_Go p e below s _ _ (T36.setTop (mkF m 273 #[.val (.int pp), .val (.long c0), .second, .val (.long c1), .second, .val (.long c2), .second, .val (.long c3), .second, .val (.int (1 : Int32)), .val (.ref b18), .val (.int lo), .unset] []))
          refine own_by (fun tz kz => XS.iconst X36.here hx rfl (hb hby at_273) kz) ?_
          show own_Go p e below s _ _ (T36.setTop (mkF m 274 #[.val (.int pp), .val (.long c0), .second, .val (.long c1), .second, .val (.long c2), .second, .val (.long c3), .second, .val (.int (1 : Int32)), .val (.ref b18), .val (.int lo), .unset] [(.int (0 : Int32))]))
          refine own_by (fun tz kz => XS.lload X36.here hx rfl (hb hby at_274) rfl kz) ?_
          show own_Go p e below s _ _ (T36.setTop (mkF m 276 #[.val (.int pp), .val (.long c0), .second, .val (.long c1), .second, .val (.long c2), .second, .val (.long c3), .second, .val (.int (1 : Int32)), .val (.ref b18), .val (.int lo), .unset] [(.long c3), (.int (0 : Int32))]))
          obtain ⟨_, _, ⟨T37, L37, k37, n37⟩, -, X37, ⟨Lc37, hQ37, l37, y37, z37⟩, st37⟩ := Jvm.LawKit.callS X36 hx (y := (⟨"com/example/liftwise/liftwise/eval/arithmetic/SidesIsExactPinLaw", "upperFine", "(ZJ)Z"⟩ : MethodName)) hown (mvT hZ (hw _ (List.mem_of_getElem? (i := 18) rfl))) (mvT hZ (hw _ (List.mem_of_getElem? (i := 19) rfl))) (mvT hZ (hw _ (List.mem_of_getElem? (i := 16) rfl))) (mvT hZ (hw _ (List.mem_of_getElem? (i := 20) rfl))) (by decide) (backOf (W := 0) (rm_upperFine l Z a0 hw [] (0 : Int32) c3 (1 : Int32) T26.heap n0 (own_uf0 _)) hZ (hw _ (List.mem_of_getElem? (i := 20) rfl)) (hw _ (List.mem_of_getElem? (i := 16) rfl)) (by decide) (by decide)) (g := (mkF m 276 #[.val (.int pp), .val (.long c0), .second, .val (.long c1), .second, .val (.long c2), .second, .val (.long c3), .second, .val (.int (1 : Int32)), .val (.ref b18), .val (.int lo), .unset] [(.long c3), (.int (0 : Int32))])) rfl (by rw [hml]; rfl) (argsL := [(.int (0 : Int32)), (.long c3)]) (rest := []) (lenOf pd_1 rfl) rfl (by show 2 * 0 + _ ≤ _; exact Nat.le_of_eq rfl) (hb hby at_276) (fun _ _ => ⟨rfl, e36, (by decide : ((1 + 2) + 1) + 0 ≤ _), (by decide : ((4 + 8) + 6) + 0 ≤ _)⟩)
          dsimp only [Pt.U, Pt.locs, Pt.cells, Pt.slots] at X37 l37 y37 z37 st37 hQ37
          rw [l37, y37, z37] at X37
          obtain ⟨rfl, Nq37, e37⟩ := hQ37
          have N37 := Fr.app N36 Nq37
          refine own_by st37 ?_
          show own_Go p e below s _ _ (T37.setTop (mkF m 279 #[.val (.int pp), .val (.long c0), .second, .val (.long c1), .second, .val (.long c2), .second, .val (.long c3), .second, .val (.int (1 : Int32)), .val (.ref b18), .val (.int lo), .unset] [(.int (1 : Int32))]))
          refine own_by (fun tz kz => XS.ifNo X37.here hx rfl (hb hby at_279) rfl ((if0 _ _).trans (feq (by decide : ¬ (1 : Int32) = (0 : Int32))).1) kz) ?_
          show own_Go p e below s _ _ (T37.setTop (mkF m 282 #[.val (.int pp), .val (.long c0), .second, .val (.long c1), .second, .val (.long c2), .second, .val (.long c3), .second, .val (.int (1 : Int32)), .val (.ref b18), .val (.int lo), .unset] []))
          refine own_by (fun tz kz => XS.iconst X37.here hx rfl (hb hby at_282) kz) ?_
          show own_Go p e below s _ _ (T37.setTop (mkF m 283 #[.val (.int pp), .val (.long c0), .second, .val (.long c1), .second, .val (.long c2), .second, .val (.long c3), .second, .val (.int (1 : Int32)), .val (.ref b18), .val (.int lo), .unset] [(.int (1 : Int32))]))
          refine own_by (fun tz kz => XS.goto X37.here hx rfl (pc0 := 283) (pc' := 287) rfl (hb hby at_283) (by decide) (by decide) kz) ?_
          show own_Go p e below s _ _ (T37.setTop (mkF m 287 #[.val (.int pp), .val (.long c0), .second, .val (.long c1), .second, .val (.long c2), .second, .val (.long c3), .second, .val (.int (1 : Int32)), .val (.ref b18), .val (.int lo), .unset] [(.int (1 : Int32))]))
          refine own_by (fun tz kz => XS.istore X37.here hx rfl (hb hby at_287) rfl (l' := #[.val (.int pp), .val (.long c0), .second, .val (.long c1), .second, .val (.long c2), .second, .val (.long c3), .second, .val (.int (1 : Int32)), .val (.ref b18), .val (.int lo), .val (.int (1 : Int32))]) rfl kz) ?_
          exact J289 _ _ X37 e37 N37 _ (by simp [own_all, hc223_34])
      show own_Go p e below s _ _ (T26.setTop (mkF m 129 #[.val (.int pp), .val (.long c0), .second, .val (.long c1), .second, .val (.long c2), .second, .val (.long c3), .second, .val (.int (1 : Int32)), .val (.ref b18), .unset, .unset] []))
      refine own_by (fun tz kz => XS.iload X26.here hx rfl (hb hby at_129) rfl  kz) ?_
      show own_Go p e below s _ _ (T26.setTop (mkF m 131 #[.val (.int pp), .val (.long c0), .second, .val (.long c1), .second, .val (.long c2), .second, .val (.long c3), .second, .val (.int (1 : Int32)), .val (.ref b18), .unset, .unset] [(.int (1 : Int32))]))
      refine own_by (fun tz kz => XS.ifNo X26.here hx rfl (hb hby at_131) rfl ((if0 _ _).trans (tlt (by decide : (0 : Int32) < (1 : Int32))).2.2.2) kz) ?_
      show own_Go p e below s _ _ (T26.setTop (mkF m 134 #[.val (.int pp), .val (.long c0), .second, .val (.long c1), .second, .val (.long c2), .second, .val (.long c3), .second, .val (.int (1 : Int32)), .val (.ref b18), .unset, .unset] []))
      refine own_by (fun tz kz => XS.iconst X26.here hx rfl (hb hby at_134) kz) ?_
      show own_Go p e below s _ _ (T26.setTop (mkF m 135 #[.val (.int pp), .val (.long c0), .second, .val (.long c1), .second, .val (.long c2), .second, .val (.long c3), .second, .val (.int (1 : Int32)), .val (.ref b18), .unset, .unset] [(.int (1 : Int32))]))
      refine own_by (fun tz kz => XS.goto X26.here hx rfl (pc0 := 135) (pc' := 139) rfl (hb hby at_135) (by decide) (by decide) kz) ?_
      show own_Go p e below s _ _ (T26.setTop (mkF m 139 #[.val (.int pp), .val (.long c0), .second, .val (.long c1), .second, .val (.long c2), .second, .val (.long c3), .second, .val (.int (1 : Int32)), .val (.ref b18), .unset, .unset] [(.int (1 : Int32))]))
      refine own_by (fun tz kz => XS.lloadN X26.here hx rfl (hb hby at_139) rfl kz) ?_
      show own_Go p e below s _ _ (T26.setTop (mkF m 140 #[.val (.int pp), .val (.long c0), .second, .val (.long c1), .second, .val (.long c2), .second, .val (.long c3), .second, .val (.int (1 : Int32)), .val (.ref b18), .unset, .unset] [(.long c0), (.int (1 : Int32))]))
      obtain ⟨_, _, ⟨T38, L38, k38, n38⟩, -, X38, ⟨Lc38, hQ38, l38, y38, z38⟩, st38⟩ := Jvm.LawKit.callS X26 hx (y := (⟨"com/example/liftwise/liftwise/eval/arithmetic/SidesIsExactPinLaw", "lowerFine", "(ZJ)Z"⟩ : MethodName)) hown (mvT hZ (hw _ (List.mem_of_getElem? (i := 14) rfl))) (mvT hZ (hw _ (List.mem_of_getElem? (i := 15) rfl))) (mvT hZ (hw _ (List.mem_of_getElem? (i := 16) rfl))) (mvT hZ (hw _ (List.mem_of_getElem? (i := 17) rfl))) (by decide) (backOf (W := 0) (rm_lowerFine l Z a0 hw [] (1 : Int32) c0 LF0 T26.heap n0 hLF0) hZ (hw _ (List.mem_of_getElem? (i := 17) rfl)) (hw _ (List.mem_of_getElem? (i := 16) rfl)) (by decide) (by decide)) (g := (mkF m 140 #[.val (.int pp), .val (.long c0), .second, .val (.long c1), .second, .val (.long c2), .second, .val (.long c3), .second, .val (.int (1 : Int32)), .val (.ref b18), .unset, .unset] [(.long c0), (.int (1 : Int32))])) rfl (by rw [hml]; rfl) (argsL := [(.int (1 : Int32)), (.long c0)]) (rest := []) (lenOf pd_1 rfl) rfl (by show 2 * 0 + _ ≤ _; exact Nat.le_of_eq rfl) (hb hby at_140) (fun _ _ => ⟨rfl, e26, (by decide : ((1 + 2) + 1) + 0 ≤ _), (by decide : ((4 + 8) + 6) + 0 ≤ _)⟩)
      dsimp only [Pt.U, Pt.locs, Pt.cells, Pt.slots] at X38 l38 y38 z38 st38 hQ38
      rw [l38, y38, z38] at X38
      obtain ⟨rfl, Nq38, e38⟩ := hQ38
      have N38 := Fr.app N26 Nq38
      refine own_by st38 ?_
      show own_Go p e below s _ _ (T38.setTop (mkF m 143 #[.val (.int pp), .val (.long c0), .second, .val (.long c1), .second, .val (.long c2), .second, .val (.long c3), .second, .val (.int (1 : Int32)), .val (.ref b18), .unset, .unset] [(.int LF0)]))
      by_cases hc143_39 : LF0 = (0 : Int32)
      · refine own_by (fun tz kz => XS.ifYes X38.here hx rfl (pc0 := 143) (pc' := 206) rfl (hb hby at_143) rfl ((if0 _ _).trans (teq hc143_39).1) (by decide) (by decide) kz) ?_
        show own_Go p e below s _ _ (T38.setTop (mkF m 206 #[.val (.int pp), .val (.long c0), .second, .val (.long c1), .second, .val (.long c2), .second, .val (.long c3), .second, .val (.int (1 : Int32)), .val (.ref b18), .unset, .unset] []))
        refine own_by (fun tz kz => XS.iconst X38.here hx rfl (hb hby at_206) kz) ?_
        show own_Go p e below s _ _ (T38.setTop (mkF m 207 #[.val (.int pp), .val (.long c0), .second, .val (.long c1), .second, .val (.long c2), .second, .val (.long c3), .second, .val (.int (1 : Int32)), .val (.ref b18), .unset, .unset] [(.int (0 : Int32))]))
        refine own_by (fun tz kz => XS.istore X38.here hx rfl (hb hby at_207) rfl (l' := #[.val (.int pp), .val (.long c0), .second, .val (.long c1), .second, .val (.long c2), .second, .val (.long c3), .second, .val (.int (1 : Int32)), .val (.ref b18), .val (.int (0 : Int32)), .unset]) rfl kz) ?_
        exact J209 _ _ X38 e38 N38 _ (by simp [own_all, hc143_39])
      · refine own_by (fun tz kz => XS.ifNo X38.here hx rfl (hb hby at_143) rfl ((if0 _ _).trans (feq hc143_39).1) kz) ?_
        show own_Go p e below s _ _ (T38.setTop (mkF m 146 #[.val (.int pp), .val (.long c0), .second, .val (.long c1), .second, .val (.long c2), .second, .val (.long c3), .second, .val (.int (1 : Int32)), .val (.ref b18), .unset, .unset] []))
        refine own_by (fun tz kz => XS.iload X38.here hx rfl (hb hby at_146) rfl  kz) ?_
        show own_Go p e below s _ _ (T38.setTop (mkF m 148 #[.val (.int pp), .val (.long c0), .second, .val (.long c1), .second, .val (.long c2), .second, .val (.long c3), .second, .val (.int (1 : Int32)), .val (.ref b18), .unset, .unset] [(.int (1 : Int32))]))
        refine own_by (fun tz kz => XS.iconst X38.here hx rfl (hb hby at_148) kz) ?_
        show own_Go p e below s _ _ (T38.setTop (mkF m 149 #[.val (.int pp), .val (.long c0), .second, .val (.long c1), .second, .val (.long c2), .second, .val (.long c3), .second, .val (.int (1 : Int32)), .val (.ref b18), .unset, .unset] [(.int (1 : Int32)), (.int (1 : Int32))]))
        refine own_by (fun tz kz => XS.icmpYes X38.here hx rfl (pc0 := 149) (pc' := 156) rfl (hb hby at_149) rfl (flt (by decide : ¬ (1 : Int32) < (1 : Int32))).2.2.2 (by decide) (by decide) kz) ?_
        show own_Go p e below s _ _ (T38.setTop (mkF m 156 #[.val (.int pp), .val (.long c0), .second, .val (.long c1), .second, .val (.long c2), .second, .val (.long c3), .second, .val (.int (1 : Int32)), .val (.ref b18), .unset, .unset] []))
        refine own_by (fun tz kz => XS.iconst X38.here hx rfl (hb hby at_156) kz) ?_
        show own_Go p e below s _ _ (T38.setTop (mkF m 157 #[.val (.int pp), .val (.long c0), .second, .val (.long c1), .second, .val (.long c2), .second, .val (.long c3), .second, .val (.int (1 : Int32)), .val (.ref b18), .unset, .unset] [(.int (0 : Int32))]))
        refine own_by (fun tz kz => XS.lloadN X38.here hx rfl (hb hby at_157) rfl kz) ?_
        show own_Go p e below s _ _ (T38.setTop (mkF m 158 #[.val (.int pp), .val (.long c0), .second, .val (.long c1), .second, .val (.long c2), .second, .val (.long c3), .second, .val (.int (1 : Int32)), .val (.ref b18), .unset, .unset] [(.long c1), (.int (0 : Int32))]))
        obtain ⟨_, _, ⟨T40, L40, k40, n40⟩, -, X40, ⟨Lc40, hQ40, l40, y40, z40⟩, st40⟩ := Jvm.LawKit.callS X38 hx (y := (⟨"com/example/liftwise/liftwise/eval/arithmetic/SidesIsExactPinLaw", "lowerFine", "(ZJ)Z"⟩ : MethodName)) hown (mvT hZ (hw _ (List.mem_of_getElem? (i := 14) rfl))) (mvT hZ (hw _ (List.mem_of_getElem? (i := 15) rfl))) (mvT hZ (hw _ (List.mem_of_getElem? (i := 16) rfl))) (mvT hZ (hw _ (List.mem_of_getElem? (i := 17) rfl))) (by decide) (backOf (W := 0) (rm_lowerFine l Z a0 hw [] (0 : Int32) c1 (1 : Int32) T26.heap n0 (own_lf0 _)) hZ (hw _ (List.mem_of_getElem? (i := 17) rfl)) (hw _ (List.mem_of_getElem? (i := 16) rfl)) (by decide) (by decide)) (g := (mkF m 158 #[.val (.int pp), .val (.long c0), .second, .val (.long c1), .second, .val (.long c2), .second, .val (.long c3), .second, .val (.int (1 : Int32)), .val (.ref b18), .unset, .unset] [(.long c1), (.int (0 : Int32))])) rfl (by rw [hml]; rfl) (argsL := [(.int (0 : Int32)), (.long c1)]) (rest := []) (lenOf pd_1 rfl) rfl (by show 2 * 0 + _ ≤ _; exact Nat.le_of_eq rfl) (hb hby at_158) (fun _ _ => ⟨rfl, e38, (by decide : ((1 + 2) + 1) + 0 ≤ _), (by decide : ((4 + 8) + 6) + 0 ≤ _)⟩)
        dsimp only [Pt.U, Pt.locs, Pt.cells, Pt.slots] at X40 l40 y40 z40 st40 hQ40
        rw [l40, y40, z40] at X40
        obtain ⟨rfl, Nq40, e40⟩ := hQ40
        have N40 := Fr.app N38 Nq40
        refine own_by st40 ?_
        show own_Go p e below s _ _ (T40.setTop (mkF m 161 #[.val (.int pp), .val (.long c0), .second, .val (.long c1), .second, .val (.long c2), .second, .val (.long c3), .second, .val (.int (1 : Int32)), .val (.ref b18), .unset, .unset] [(.int (1 : Int32))]))
        refine own_by (fun tz kz => XS.ifNo X40.here hx rfl (hb hby at_161) rfl ((if0 _ _).trans (feq (by decide : ¬ (1 : Int32) = (0 : Int32))).1) kz) ?_
        show own_Go p e below s _ _ (T40.setTop (mkF m 164 #[.val (.int pp), .val (.long c0), .second, .val (.long c1), .second, .val (.long c2), .second, .val (.long c3), .second, .val (.int (1 : Int32)), .val (.ref b18), .unset, .unset] []))
        refine own_by (fun tz kz => XS.iload X40.here hx rfl (hb hby at_164) rfl  kz) ?_
        show own_Go p e below s _ _ (T40.setTop (mkF m 166 #[.val (.int pp), .val (.long c0), .second, .val (.long c1), .second, .val (.long c2), .second, .val (.long c3), .second, .val (.int (1 : Int32)), .val (.ref b18), .unset, .unset] [(.int (1 : Int32))]))
        refine own_by (fun tz kz => XS.iconst X40.here hx rfl (hb hby at_166) kz) ?_
        show own_Go p e below s _ _ (T40.setTop (mkF m 167 #[.val (.int pp), .val (.long c0), .second, .val (.long c1), .second, .val (.long c2), .second, .val (.long c3), .second, .val (.int (1 : Int32)), .val (.ref b18), .unset, .unset] [(.int (2 : Int32)), (.int (1 : Int32))]))
        refine own_by (fun tz kz => XS.icmpYes X40.here hx rfl (pc0 := 167) (pc' := 174) rfl (hb hby at_167) rfl (flt (by decide : ¬ (2 : Int32) < (1 : Int32))).2.2.2 (by decide) (by decide) kz) ?_
        show own_Go p e below s _ _ (T40.setTop (mkF m 174 #[.val (.int pp), .val (.long c0), .second, .val (.long c1), .second, .val (.long c2), .second, .val (.long c3), .second, .val (.int (1 : Int32)), .val (.ref b18), .unset, .unset] []))
        refine own_by (fun tz kz => XS.iconst X40.here hx rfl (hb hby at_174) kz) ?_
        show own_Go p e below s _ _ (T40.setTop (mkF m 175 #[.val (.int pp), .val (.long c0), .second, .val (.long c1), .second, .val (.long c2), .second, .val (.long c3), .second, .val (.int (1 : Int32)), .val (.ref b18), .unset, .unset] [(.int (0 : Int32))]))
        refine own_by (fun tz kz => XS.lload X40.here hx rfl (hb hby at_175) rfl kz) ?_
        show own_Go p e below s _ _ (T40.setTop (mkF m 177 #[.val (.int pp), .val (.long c0), .second, .val (.long c1), .second, .val (.long c2), .second, .val (.long c3), .second, .val (.int (1 : Int32)), .val (.ref b18), .unset, .unset] [(.long c2), (.int (0 : Int32))]))
        obtain ⟨_, _, ⟨T41, L41, k41, n41⟩, -, X41, ⟨Lc41, hQ41, l41, y41, z41⟩, st41⟩ := Jvm.LawKit.callS X40 hx (y := (⟨"com/example/liftwise/liftwise/eval/arithmetic/SidesIsExactPinLaw", "lowerFine", "(ZJ)Z"⟩ : MethodName)) hown (mvT hZ (hw _ (List.mem_of_getElem? (i := 14) rfl))) (mvT hZ (hw _ (List.mem_of_getElem? (i := 15) rfl))) (mvT hZ (hw _ (List.mem_of_getElem? (i := 16) rfl))) (mvT hZ (hw _ (List.mem_of_getElem? (i := 17) rfl))) (by decide) (backOf (W := 0) (rm_lowerFine l Z a0 hw [] (0 : Int32) c2 (1 : Int32) T26.heap n0 (own_lf0 _)) hZ (hw _ (List.mem_of_getElem? (i := 17) rfl)) (hw _ (List.mem_of_getElem? (i := 16) rfl)) (by decide) (by decide)) (g := (mkF m 177 #[.val (.int pp), .val (.long c0), .second, .val (.long c1), .second, .val (.long c2), .second, .val (.long c3), .second, .val (.int (1 : Int32)), .val (.ref b18), .unset, .unset] [(.long c2), (.int (0 : Int32))])) rfl (by rw [hml]; rfl) (argsL := [(.int (0 : Int32)), (.long c2)]) (rest := []) (lenOf pd_1 rfl) rfl (by show 2 * 0 + _ ≤ _; exact Nat.le_of_eq rfl) (hb hby at_177) (fun _ _ => ⟨rfl, e40, (by decide : ((1 + 2) + 1) + 0 ≤ _), (by decide : ((4 + 8) + 6) + 0 ≤ _)⟩)
        dsimp only [Pt.U, Pt.locs, Pt.cells, Pt.slots] at X41 l41 y41 z41 st41 hQ41
        rw [l41, y41, z41] at X41
        obtain ⟨rfl, Nq41, e41⟩ := hQ41
        have N41 := Fr.app N40 Nq41
        refine own_by st41 ?_
        show own_Go p e below s _ _ (T41.setTop (mkF m 180 #[.val (.int pp), .val (.long c0), .second, .val (.long c1), .second, .val (.long c2), .second, .val (.long c3), .second, .val (.int (1 : Int32)), .val (.ref b18), .unset, .unset] [(.int (1 : Int32))]))
        refine own_by (fun tz kz => XS.ifNo X41.here hx rfl (hb hby at_180) rfl ((if0 _ _).trans (feq (by decide : ¬ (1 : Int32) = (0 : Int32))).1) kz) ?_
        show own_Go p e below s _ _ (T41.setTop (mkF m 183 #[.val (.int pp), .val (.long c0), .second, .val (.long c1), .second, .val (.long c2), .second, .val (.long c3), .second, .val (.int (1 : Int32)), .val (.ref b18), .unset, .unset] []))
        refine own_by (fun tz kz => XS.iload X41.here hx rfl (hb hby at_183) rfl  kz) ?_
        show own_Go p e below s _ _ (T41.setTop (mkF m 185 #[.val (.int pp), .val (.long c0), .second, .val (.long c1), .second, .val (.long c2), .second, .val (.long c3), .second, .val (.int (1 : Int32)), .val (.ref b18), .unset, .unset] [(.int (1 : Int32))]))
        refine own_by (fun tz kz => XS.iconst X41.here hx rfl (hb hby at_185) kz) ?_
        show own_Go p e below s _ _ (T41.setTop (mkF m 186 #[.val (.int pp), .val (.long c0), .second, .val (.long c1), .second, .val (.long c2), .second, .val (.long c3), .second, .val (.int (1 : Int32)), .val (.ref b18), .unset, .unset] [(.int (3 : Int32)), (.int (1 : Int32))]))
        refine own_by (fun tz kz => XS.icmpYes X41.here hx rfl (pc0 := 186) (pc' := 193) rfl (hb hby at_186) rfl (flt (by decide : ¬ (3 : Int32) < (1 : Int32))).2.2.2 (by decide) (by decide) kz) ?_
        show own_Go p e below s _ _ (T41.setTop (mkF m 193 #[.val (.int pp), .val (.long c0), .second, .val (.long c1), .second, .val (.long c2), .second, .val (.long c3), .second, .val (.int (1 : Int32)), .val (.ref b18), .unset, .unset] []))
        refine own_by (fun tz kz => XS.iconst X41.here hx rfl (hb hby at_193) kz) ?_
        show own_Go p e below s _ _ (T41.setTop (mkF m 194 #[.val (.int pp), .val (.long c0), .second, .val (.long c1), .second, .val (.long c2), .second, .val (.long c3), .second, .val (.int (1 : Int32)), .val (.ref b18), .unset, .unset] [(.int (0 : Int32))]))
        refine own_by (fun tz kz => XS.lload X41.here hx rfl (hb hby at_194) rfl kz) ?_
        show own_Go p e below s _ _ (T41.setTop (mkF m 196 #[.val (.int pp), .val (.long c0), .second, .val (.long c1), .second, .val (.long c2), .second, .val (.long c3), .second, .val (.int (1 : Int32)), .val (.ref b18), .unset, .unset] [(.long c3), (.int (0 : Int32))]))
        obtain ⟨_, _, ⟨T42, L42, k42, n42⟩, -, X42, ⟨Lc42, hQ42, l42, y42, z42⟩, st42⟩ := Jvm.LawKit.callS X41 hx (y := (⟨"com/example/liftwise/liftwise/eval/arithmetic/SidesIsExactPinLaw", "lowerFine", "(ZJ)Z"⟩ : MethodName)) hown (mvT hZ (hw _ (List.mem_of_getElem? (i := 14) rfl))) (mvT hZ (hw _ (List.mem_of_getElem? (i := 15) rfl))) (mvT hZ (hw _ (List.mem_of_getElem? (i := 16) rfl))) (mvT hZ (hw _ (List.mem_of_getElem? (i := 17) rfl))) (by decide) (backOf (W := 0) (rm_lowerFine l Z a0 hw [] (0 : Int32) c3 (1 : Int32) T26.heap n0 (own_lf0 _)) hZ (hw _ (List.mem_of_getElem? (i := 17) rfl)) (hw _ (List.mem_of_getElem? (i := 16) rfl)) (by decide) (by decide)) (g := (mkF m 196 #[.val (.int pp), .val (.long c0), .second, .val (.long c1), .second, .val (.long c2), .second, .val (.long c3), .second, .val (.int (1 : Int32)), .val (.ref b18), .unset, .unset] [(.long c3), (.int (0 : Int32))])) rfl (by rw [hml]; rfl) (argsL := [(.int (0 : Int32)), (.long c3)]) (rest := []) (lenOf pd_1 rfl) rfl (by show 2 * 0 + _ ≤ _; exact Nat.le_of_eq rfl) (hb hby at_196) (fun _ _ => ⟨rfl, e41, (by decide : ((1 + 2) + 1) + 0 ≤ _), (by decide : ((4 + 8) + 6) + 0 ≤ _)⟩)
        dsimp only [Pt.U, Pt.locs, Pt.cells, Pt.slots] at X42 l42 y42 z42 st42 hQ42
        rw [l42, y42, z42] at X42
        obtain ⟨rfl, Nq42, e42⟩ := hQ42
        have N42 := Fr.app N41 Nq42
        refine own_by st42 ?_
        show own_Go p e below s _ _ (T42.setTop (mkF m 199 #[.val (.int pp), .val (.long c0), .second, .val (.long c1), .second, .val (.long c2), .second, .val (.long c3), .second, .val (.int (1 : Int32)), .val (.ref b18), .unset, .unset] [(.int (1 : Int32))]))
        refine own_by (fun tz kz => XS.ifNo X42.here hx rfl (hb hby at_199) rfl ((if0 _ _).trans (feq (by decide : ¬ (1 : Int32) = (0 : Int32))).1) kz) ?_
        show own_Go p e below s _ _ (T42.setTop (mkF m 202 #[.val (.int pp), .val (.long c0), .second, .val (.long c1), .second, .val (.long c2), .second, .val (.long c3), .second, .val (.int (1 : Int32)), .val (.ref b18), .unset, .unset] []))
        refine own_by (fun tz kz => XS.iconst X42.here hx rfl (hb hby at_202) kz) ?_
        show own_Go p e below s _ _ (T42.setTop (mkF m 203 #[.val (.int pp), .val (.long c0), .second, .val (.long c1), .second, .val (.long c2), .second, .val (.long c3), .second, .val (.int (1 : Int32)), .val (.ref b18), .unset, .unset] [(.int (1 : Int32))]))
        refine own_by (fun tz kz => XS.goto X42.here hx rfl (pc0 := 203) (pc' := 207) rfl (hb hby at_203) (by decide) (by decide) kz) ?_
        show own_Go p e below s _ _ (T42.setTop (mkF m 207 #[.val (.int pp), .val (.long c0), .second, .val (.long c1), .second, .val (.long c2), .second, .val (.long c3), .second, .val (.int (1 : Int32)), .val (.ref b18), .unset, .unset] [(.int (1 : Int32))]))
        refine own_by (fun tz kz => XS.istore X42.here hx rfl (hb hby at_207) rfl (l' := #[.val (.int pp), .val (.long c0), .second, .val (.long c1), .second, .val (.long c2), .second, .val (.long c3), .second, .val (.int (1 : Int32)), .val (.ref b18), .val (.int (1 : Int32)), .unset]) rfl kz) ?_
        exact J209 _ _ X42 e42 N42 _ (by simp [own_all, hc143_39])
  · show own_Go p e below s _ _ (s₁.setTop (mkF m 8 #[.val (.int pp), .val (.long c0), .second, .val (.long c1), .second, .val (.long c2), .second, .val (.long c3), .second, .val (.int (2 : Int32)), .unset, .unset, .unset] []))
    refine own_by (fun tz kz => XS.iload X0.here hx rfl (hb hby at_8) rfl  kz) ?_
    show own_Go p e below s _ _ (s₁.setTop (mkF m 10 #[.val (.int pp), .val (.long c0), .second, .val (.long c1), .second, .val (.long c2), .second, .val (.long c3), .second, .val (.int (2 : Int32)), .unset, .unset, .unset] [(.int (2 : Int32))]))
    refine own_by (fun tz kz => XS.ifNo X0.here hx rfl (hb hby at_10) rfl ((if0 _ _).trans (tlt (by decide : (0 : Int32) < (2 : Int32))).2.2.2) kz) ?_
    show own_Go p e below s _ _ (s₁.setTop (mkF m 13 #[.val (.int pp), .val (.long c0), .second, .val (.long c1), .second, .val (.long c2), .second, .val (.long c3), .second, .val (.int (2 : Int32)), .unset, .unset, .unset] []))
    refine own_by (fun tz kz => XS.lloadN X0.here hx rfl (hb hby at_13) rfl kz) ?_
    show own_Go p e below s _ _ (s₁.setTop (mkF m 14 #[.val (.int pp), .val (.long c0), .second, .val (.long c1), .second, .val (.long c2), .second, .val (.long c3), .second, .val (.int (2 : Int32)), .unset, .unset, .unset] [(.long c0)]))
    refine own_by (fun tz kz => XS.lconst X0.here hx rfl (hb hby at_14) kz) ?_
    show own_Go p e below s _ _ (s₁.setTop (mkF m 15 #[.val (.int pp), .val (.long c0), .second, .val (.long c1), .second, .val (.long c2), .second, .val (.long c3), .second, .val (.int (2 : Int32)), .unset, .unset, .unset] [(.long (0 : Int64)), (.long c0)]))
    refine own_by (fun tz kz => XS.lcmp X0.here hx rfl (hb hby at_15) rfl kz) ?_
    show own_Go p e below s _ _ (s₁.setTop (mkF m 16 #[.val (.int pp), .val (.long c0), .second, .val (.long c1), .second, .val (.long c2), .second, .val (.long c3), .second, .val (.int (2 : Int32)), .unset, .unset, .unset] [(.int (lcmpW c0 (0 : Int64)))]))
    by_cases hc16_43 : c0 = (0 : Int64)
    · refine own_by (fun tz kz => XS.ifYes X0.here hx rfl (pc0 := 16) (pc' := 57) rfl (hb hby at_16) rfl ((if0 _ _).trans (teq ((lw_eq c0 (0 : Int64)).mpr hc16_43)).1) (by decide) (by decide) kz) ?_
      show own_Go p e below s _ _ (s₁.setTop (mkF m 57 #[.val (.int pp), .val (.long c0), .second, .val (.long c1), .second, .val (.long c2), .second, .val (.long c3), .second, .val (.int (2 : Int32)), .unset, .unset, .unset] []))
      refine own_by (fun tz kz => XS.iconst X0.here hx rfl (hb hby at_57) kz) ?_
      show own_Go p e below s _ _ (s₁.setTop (mkF m 58 #[.val (.int pp), .val (.long c0), .second, .val (.long c1), .second, .val (.long c2), .second, .val (.long c3), .second, .val (.int (2 : Int32)), .unset, .unset, .unset] [(.int (1 : Int32))]))
      refine own_retI X0 hx hlk (t := .boolean) hret (by simp) rfl (hb hby at_58) ?_ (by decide) (by decide)
      exact ⟨rfl, N0⟩
    · refine own_by (fun tz kz => XS.ifNo X0.here hx rfl (hb hby at_16) rfl ((if0 _ _).trans (feq (fun q => hc16_43 ((lw_eq c0 (0 : Int64)).mp q))).1) kz) ?_
      show own_Go p e below s _ _ (s₁.setTop (mkF m 19 #[.val (.int pp), .val (.long c0), .second, .val (.long c1), .second, .val (.long c2), .second, .val (.long c3), .second, .val (.int (2 : Int32)), .unset, .unset, .unset] []))
      refine own_by (fun tz kz => XS.iload X0.here hx rfl (hb hby at_19) rfl  kz) ?_
      show own_Go p e below s _ _ (s₁.setTop (mkF m 21 #[.val (.int pp), .val (.long c0), .second, .val (.long c1), .second, .val (.long c2), .second, .val (.long c3), .second, .val (.int (2 : Int32)), .unset, .unset, .unset] [(.int (2 : Int32))]))
      refine own_by (fun tz kz => XS.iconst X0.here hx rfl (hb hby at_21) kz) ?_
      show own_Go p e below s _ _ (s₁.setTop (mkF m 22 #[.val (.int pp), .val (.long c0), .second, .val (.long c1), .second, .val (.long c2), .second, .val (.long c3), .second, .val (.int (2 : Int32)), .unset, .unset, .unset] [(.int (1 : Int32)), (.int (2 : Int32))]))
      refine own_by (fun tz kz => XS.icmpNo X0.here hx rfl (hb hby at_22) rfl (tlt (by decide : (1 : Int32) < (2 : Int32))).2.2.2 kz) ?_
      show own_Go p e below s _ _ (s₁.setTop (mkF m 25 #[.val (.int pp), .val (.long c0), .second, .val (.long c1), .second, .val (.long c2), .second, .val (.long c3), .second, .val (.int (2 : Int32)), .unset, .unset, .unset] []))
      refine own_by (fun tz kz => XS.lloadN X0.here hx rfl (hb hby at_25) rfl kz) ?_
      show own_Go p e below s _ _ (s₁.setTop (mkF m 26 #[.val (.int pp), .val (.long c0), .second, .val (.long c1), .second, .val (.long c2), .second, .val (.long c3), .second, .val (.int (2 : Int32)), .unset, .unset, .unset] [(.long c1)]))
      refine own_by (fun tz kz => XS.lconst X0.here hx rfl (hb hby at_26) kz) ?_
      show own_Go p e below s _ _ (s₁.setTop (mkF m 27 #[.val (.int pp), .val (.long c0), .second, .val (.long c1), .second, .val (.long c2), .second, .val (.long c3), .second, .val (.int (2 : Int32)), .unset, .unset, .unset] [(.long (0 : Int64)), (.long c1)]))
      refine own_by (fun tz kz => XS.lcmp X0.here hx rfl (hb hby at_27) rfl kz) ?_
      show own_Go p e below s _ _ (s₁.setTop (mkF m 28 #[.val (.int pp), .val (.long c0), .second, .val (.long c1), .second, .val (.long c2), .second, .val (.long c3), .second, .val (.int (2 : Int32)), .unset, .unset, .unset] [(.int (lcmpW c1 (0 : Int64)))]))
      by_cases hc28_44 : c1 = (0 : Int64)
      · refine own_by (fun tz kz => XS.ifYes X0.here hx rfl (pc0 := 28) (pc' := 57) rfl (hb hby at_28) rfl ((if0 _ _).trans (teq ((lw_eq c1 (0 : Int64)).mpr hc28_44)).1) (by decide) (by decide) kz) ?_
        show own_Go p e below s _ _ (s₁.setTop (mkF m 57 #[.val (.int pp), .val (.long c0), .second, .val (.long c1), .second, .val (.long c2), .second, .val (.long c3), .second, .val (.int (2 : Int32)), .unset, .unset, .unset] []))
        refine own_by (fun tz kz => XS.iconst X0.here hx rfl (hb hby at_57) kz) ?_
        show own_Go p e below s _ _ (s₁.setTop (mkF m 58 #[.val (.int pp), .val (.long c0), .second, .val (.long c1), .second, .val (.long c2), .second, .val (.long c3), .second, .val (.int (2 : Int32)), .unset, .unset, .unset] [(.int (1 : Int32))]))
        refine own_retI X0 hx hlk (t := .boolean) hret (by simp) rfl (hb hby at_58) ?_ (by decide) (by decide)
        exact ⟨rfl, N0⟩
      · refine own_by (fun tz kz => XS.ifNo X0.here hx rfl (hb hby at_28) rfl ((if0 _ _).trans (feq (fun q => hc28_44 ((lw_eq c1 (0 : Int64)).mp q))).1) kz) ?_
        show own_Go p e below s _ _ (s₁.setTop (mkF m 31 #[.val (.int pp), .val (.long c0), .second, .val (.long c1), .second, .val (.long c2), .second, .val (.long c3), .second, .val (.int (2 : Int32)), .unset, .unset, .unset] []))
        refine own_by (fun tz kz => XS.iload X0.here hx rfl (hb hby at_31) rfl  kz) ?_
        show own_Go p e below s _ _ (s₁.setTop (mkF m 33 #[.val (.int pp), .val (.long c0), .second, .val (.long c1), .second, .val (.long c2), .second, .val (.long c3), .second, .val (.int (2 : Int32)), .unset, .unset, .unset] [(.int (2 : Int32))]))
        refine own_by (fun tz kz => XS.iconst X0.here hx rfl (hb hby at_33) kz) ?_
        show own_Go p e below s _ _ (s₁.setTop (mkF m 34 #[.val (.int pp), .val (.long c0), .second, .val (.long c1), .second, .val (.long c2), .second, .val (.long c3), .second, .val (.int (2 : Int32)), .unset, .unset, .unset] [(.int (2 : Int32)), (.int (2 : Int32))]))
        refine own_by (fun tz kz => XS.icmpYes X0.here hx rfl (pc0 := 34) (pc' := 44) rfl (hb hby at_34) rfl (flt (by decide : ¬ (2 : Int32) < (2 : Int32))).2.2.2 (by decide) (by decide) kz) ?_
        show own_Go p e below s _ _ (s₁.setTop (mkF m 44 #[.val (.int pp), .val (.long c0), .second, .val (.long c1), .second, .val (.long c2), .second, .val (.long c3), .second, .val (.int (2 : Int32)), .unset, .unset, .unset] []))
        refine own_by (fun tz kz => XS.iload X0.here hx rfl (hb hby at_44) rfl  kz) ?_
        show own_Go p e below s _ _ (s₁.setTop (mkF m 46 #[.val (.int pp), .val (.long c0), .second, .val (.long c1), .second, .val (.long c2), .second, .val (.long c3), .second, .val (.int (2 : Int32)), .unset, .unset, .unset] [(.int (2 : Int32))]))
        refine own_by (fun tz kz => XS.iconst X0.here hx rfl (hb hby at_46) kz) ?_
        show own_Go p e below s _ _ (s₁.setTop (mkF m 47 #[.val (.int pp), .val (.long c0), .second, .val (.long c1), .second, .val (.long c2), .second, .val (.long c3), .second, .val (.int (2 : Int32)), .unset, .unset, .unset] [(.int (3 : Int32)), (.int (2 : Int32))]))
        refine own_by (fun tz kz => XS.icmpYes X0.here hx rfl (pc0 := 47) (pc' := 59) rfl (hb hby at_47) rfl (flt (by decide : ¬ (3 : Int32) < (2 : Int32))).2.2.2 (by decide) (by decide) kz) ?_
        show own_Go p e below s _ _ (s₁.setTop (mkF m 59 #[.val (.int pp), .val (.long c0), .second, .val (.long c1), .second, .val (.long c2), .second, .val (.long c3), .second, .val (.int (2 : Int32)), .unset, .unset, .unset] []))
        obtain ⟨T45, h45, X45, e45, E45, A45, D45, -, st45⟩ := newO X0 hx hZ hown (hw _ (List.mem_of_getElem? (i := 1) rfl)) (hw _ (List.mem_of_getElem? (i := 2) rfl)) (hw _ (List.mem_of_getElem? (i := 3) rfl)) e0 (g := (mkF m 59 #[.val (.int pp), .val (.long c0), .second, .val (.long c1), .second, .val (.long c2), .second, .val (.long c3), .second, .val (.int (2 : Int32)), .unset, .unset, .unset] [])) rfl (hb hby at_59) (by decide) (by decide)
        obtain ⟨b45, g45⟩ : ∃ z, z = h0.size := ⟨_, rfl⟩
        rw [← g45] at A45 D45 st45
        have g_b45 : n0 ≤ b45 := by rw [g45]; exact O0.1 ▸ O0.2.1
        have sz_b45 : h0.size ≤ b45 := by rw [g45]; exact K0.1
        have O45 := O0.ext E45
        have K45 := K0.ext E45
        refine own_by st45 ?_
        have F45_lowerUnit : Fld Z h45 b45 "com/example/liftwise/liftwise/eval/arithmetic/Solver$Sides" "lowerUnit" "Z" (.int (0 : Int32)) := D45 (Or.inl (hw _ (List.mem_of_getElem? (i := 11) rfl))) (ty := .boolean) (by decide)
        have F45_upperUnit : Fld Z h45 b45 "com/example/liftwise/liftwise/eval/arithmetic/Solver$Sides" "upperUnit" "Z" (.int (0 : Int32)) := D45 (Or.inl (hw _ (List.mem_of_getElem? (i := 13) rfl))) (ty := .boolean) (by decide)
        have F45_lower : Fld Z h45 b45 "com/example/liftwise/liftwise/eval/arithmetic/Solver$Sides" "lower" "I" (.int (0 : Int32)) := D45 (Or.inl (hw _ (List.mem_of_getElem? (i := 71) rfl))) (ty := .int) (by decide)
        have F45_upper : Fld Z h45 b45 "com/example/liftwise/liftwise/eval/arithmetic/Solver$Sides" "upper" "I" (.int (0 : Int32)) := D45 (Or.inl (hw _ (List.mem_of_getElem? (i := 83) rfl))) (ty := .int) (by decide)
        show own_Go p e below s _ _ (T45.setTop (mkF m 62 #[.val (.int pp), .val (.long c0), .second, .val (.long c1), .second, .val (.long c2), .second, .val (.long c3), .second, .val (.int (2 : Int32)), .unset, .unset, .unset] [(.ref b45)]))
        refine own_by (fun tz kz => XS.dup X45.here hx rfl (hb hby at_62) rfl rfl kz) ?_
        show own_Go p e below s _ _ (T45.setTop (mkF m 63 #[.val (.int pp), .val (.long c0), .second, .val (.long c1), .second, .val (.long c2), .second, .val (.long c3), .second, .val (.int (2 : Int32)), .unset, .unset, .unset] [(.ref b45), (.ref b45)]))
        obtain ⟨_, _, ⟨T46, L46, k46, n46⟩, -, X46, ⟨Lc46, hQ46, l46, y46, z46⟩, st46⟩ := X45.specialBack hx (y := (⟨"com/example/liftwise/liftwise/eval/arithmetic/Solver$Sides", "<init>", "()V"⟩ : MethodName)) rfl hown (mvT hZ (hw _ (List.mem_of_getElem? (i := 4) rfl))) (mvT hZ (hw _ (List.mem_of_getElem? (i := 5) rfl))) (mvT hZ (hw _ (List.mem_of_getElem? (i := 6) rfl))) (by decide) (backOf (W := 1) (rm_Sinit l Z a0 hw [] b45 h45 n0 O45 A45 F45_lower F45_upper F45_lowerUnit F45_upperUnit g_b45) hZ (hw _ (List.mem_of_getElem? (i := 6) rfl)) (hw _ (List.mem_of_getElem? (i := 3) rfl)) (by decide) (by decide)) (g := (mkF m 63 #[.val (.int pp), .val (.long c0), .second, .val (.long c1), .second, .val (.long c2), .second, .val (.long c3), .second, .val (.int (2 : Int32)), .unset, .unset, .unset] [(.ref b45), (.ref b45)])) rfl (by rw [hml]; rfl) (Steps.refl _) (a := b45) (argsL := []) (rest := [(.ref b45)]) (lenOf pd_0 rfl) rfl (by show 2 * 0 + _ ≤ _; exact Nat.le_of_eq rfl) (hb hby at_63) (fun _ _ => ⟨rfl, e45, (by decide : 1 + 0 ≤ _), (by decide : 4 + 0 ≤ _)⟩)
        dsimp only [Pt.U, Pt.locs, Pt.cells, Pt.slots] at X46 l46 y46 z46 st46 hQ46
        rw [l46, y46, z46] at X46
        obtain ⟨rfl, Nq46, Kq46, Fa46, Fb46, Fc46, Fd46⟩ := hQ46
        have N46 := Fr.app N0 Nq46
        have e46 : T46.heap = T46.heap := rfl
        refine own_via st46 ?_
        have O46 := O45.keep Kq46 (allS g_b45 all0)
        have K46 := K45.trans Kq46 (allS (Or.inr sz_b45) all0)
        show own_Go p e below s _ _ (T46.setTop (mkF m 66 #[.val (.int pp), .val (.long c0), .second, .val (.long c1), .second, .val (.long c2), .second, .val (.long c3), .second, .val (.int (2 : Int32)), .unset, .unset, .unset] [(.ref b45)]))
        refine own_by (fun tz kz => XS.astore X46.here hx rfl (hb hby at_66) rfl rfl (l' := #[.val (.int pp), .val (.long c0), .second, .val (.long c1), .second, .val (.long c2), .second, .val (.long c3), .second, .val (.int (2 : Int32)), .val (.ref b45), .unset, .unset]) rfl kz) ?_
        show own_Go p e below s _ _ (T46.setTop (mkF m 68 #[.val (.int pp), .val (.long c0), .second, .val (.long c1), .second, .val (.long c2), .second, .val (.long c3), .second, .val (.int (2 : Int32)), .val (.ref b45), .unset, .unset] []))
        refine own_by (fun tz kz => XS.iload X46.here hx rfl (hb hby at_68) rfl  kz) ?_
        show own_Go p e below s _ _ (T46.setTop (mkF m 70 #[.val (.int pp), .val (.long c0), .second, .val (.long c1), .second, .val (.long c2), .second, .val (.long c3), .second, .val (.int (2 : Int32)), .val (.ref b45), .unset, .unset] [(.int (2 : Int32))]))
        refine own_by (fun tz kz => XS.ifNo X46.here hx rfl (hb hby at_70) rfl ((if0 _ _).trans (tlt (by decide : (0 : Int32) < (2 : Int32))).2.2.2) kz) ?_
        show own_Go p e below s _ _ (T46.setTop (mkF m 73 #[.val (.int pp), .val (.long c0), .second, .val (.long c1), .second, .val (.long c2), .second, .val (.long c3), .second, .val (.int (2 : Int32)), .val (.ref b45), .unset, .unset] []))
        refine own_by (fun tz kz => XS.aload X46.here hx rfl (hb hby at_73) rfl rfl kz) ?_
        show own_Go p e below s _ _ (T46.setTop (mkF m 75 #[.val (.int pp), .val (.long c0), .second, .val (.long c1), .second, .val (.long c2), .second, .val (.long c3), .second, .val (.int (2 : Int32)), .val (.ref b45), .unset, .unset] [(.ref b45)]))
        refine own_by (fun tz kz => XS.lloadN X46.here hx rfl (hb hby at_75) rfl kz) ?_
        show own_Go p e below s _ _ (T46.setTop (mkF m 76 #[.val (.int pp), .val (.long c0), .second, .val (.long c1), .second, .val (.long c2), .second, .val (.long c3), .second, .val (.int (2 : Int32)), .val (.ref b45), .unset, .unset] [(.long c0), (.ref b45)]))
        obtain ⟨_, _, ⟨T47, L47, k47, n47⟩, -, X47, ⟨Lc47, hQ47, l47, y47, z47⟩, st47⟩ := Jvm.LawKit.callS X46 hx (y := (⟨"java/math/BigInteger", "valueOf", "(J)Ljava/math/BigInteger;"⟩ : MethodName)) hown (mvT hZ (hw _ (List.mem_of_getElem? (i := 26) rfl))) (mvT hZ (hw _ (List.mem_of_getElem? (i := 27) rfl))) (mvT hZ (hw _ (List.mem_of_getElem? (i := 28) rfl))) (mvT hZ (hw _ (List.mem_of_getElem? (i := 29) rfl))) (by decide) (backOf (W := 1) (rm_valueOf l Z a0 hw [] c0 pa na pc nc T46.heap n0 O46 S_pos S_neg T_pos T_neg hc16_43) hZ (hw _ (List.mem_of_getElem? (i := 29) rfl)) (hw _ (List.mem_of_getElem? (i := 28) rfl)) (by decide) (by decide)) (g := (mkF m 76 #[.val (.int pp), .val (.long c0), .second, .val (.long c1), .second, .val (.long c2), .second, .val (.long c3), .second, .val (.int (2 : Int32)), .val (.ref b45), .unset, .unset] [(.long c0), (.ref b45)])) rfl (by rw [hml]; rfl) (argsL := [(.long c0)]) (rest := [(.ref b45)]) (lenOf pd_3 rfl) rfl (by show 2 * 0 + _ ≤ _; exact Nat.le_of_eq rfl) (hb hby at_76) (fun _ _ => ⟨rfl, e46, (by decide : 1 + 2 ≤ _), (by decide : 4 + 8 ≤ _)⟩)
        dsimp only [Pt.U, Pt.locs, Pt.cells, Pt.slots] at X47 l47 y47 z47 st47 hQ47
        rw [l47, y47, z47] at X47
        obtain ⟨o47, rfl, Nq47, Kq47, Bq47⟩ := hQ47
        have N47 := Fr.app N46 Nq47
        have e47 : T47.heap = T47.heap := rfl
        refine own_by st47 ?_
        have O47 := O46.keep Kq47 all0
        have K47 := K46.trans Kq47 all0
        show own_Go p e below s _ _ (T47.setTop (mkF m 79 #[.val (.int pp), .val (.long c0), .second, .val (.long c1), .second, .val (.long c2), .second, .val (.long c3), .second, .val (.int (2 : Int32)), .val (.ref b45), .unset, .unset] [(.ref o47), (.ref b45)]))
        have f48 := ((A45.keep Kq46).keep Kq47)
        have f49 := (Fa46.keep Kq47 nin0)
        have f50 := (Fb46.keep Kq47 nin0)
        have f51 := (Fc46.keep Kq47 nin0)
        have f52 := (Fd46.keep Kq47 nin0)
        obtain ⟨cq53, kq53, q53a, q53b, q53c⟩ := isOf hZ e47 f48
        obtain ⟨_, _, ⟨T53, L53, k53, n53⟩, -, X53, ⟨Lc53, hQ53, l53, y53, z53⟩, st53⟩ := X47.virtualBack hx (y := (⟨"com/example/liftwise/liftwise/eval/arithmetic/Solver$Sides", "add", "(Ljava/math/BigInteger;)V"⟩ : MethodName)) (z := (⟨"com/example/liftwise/liftwise/eval/arithmetic/Solver$Sides", "add", "(Ljava/math/BigInteger;)V"⟩ : MethodName)) hown (mvT hZ (hw _ (List.mem_of_getElem? (i := 49) rfl))) (mvT hZ (hw _ (List.mem_of_getElem? (i := 50) rfl))) (notFace_of_selects (args := #[]) (mvT hZ (hw _ (List.mem_of_getElem? (i := 52) rfl)))) (mvT hZ (hw _ (List.mem_of_getElem? (i := 52) rfl))) (mvT hZ (hw _ (List.mem_of_getElem? (i := 51) rfl))) (by decide) (backOf (W := 0) (rm_add l Z a0 hw [] b45 o47 one om ko (own_sg c0) (own_un c0) (0 : Int32) (0 : Int32) (1 : Int32) (1 : Int32) (own_up c0 (0 : Int32)) (own_dn c0 (0 : Int32)) (own_lu c0 (1 : Int32)) (own_uu c0 (1 : Int32)) T47.heap n0 O47 S_ONE E_one Fs_one Fm_one V_one f48 f49 f50 f51 f52 g_b45 Bq47 (own_sg_or _) (own_un_or _) (Or.inr rfl) (Or.inr rfl) rfl rfl rfl rfl) hZ (hw _ (List.mem_of_getElem? (i := 53) rfl)) (hw _ (List.mem_of_getElem? (i := 3) rfl)) (by decide) (by decide)) q53a q53c (g := (mkF m 79 #[.val (.int pp), .val (.long c0), .second, .val (.long c1), .second, .val (.long c2), .second, .val (.long c3), .second, .val (.int (2 : Int32)), .val (.ref b45), .unset, .unset] [(.ref o47), (.ref b45)])) rfl (by rw [hml]; rfl) (Steps.refl _) (argsL := [(.ref o47)]) (rest := []) (lenOf pd_5 rfl) rfl (by show 2 * 0 + _ ≤ _; exact Nat.le_of_eq rfl) (hb hby at_79) (fun _ _ => ⟨rfl, e47, (by decide : (1 + 2) + 1 ≤ _), (by decide : (4 + 8) + 6 ≤ _)⟩)
        dsimp only [Pt.U, Pt.locs, Pt.cells, Pt.slots] at X53 l53 y53 z53 st53 hQ53
        rw [l53, y53, z53] at X53
        obtain ⟨rfl, Nq53, Kq53, Fa53, Fb53, Fc53, Fd53⟩ := hQ53
        have N53 := Fr.app N47 Nq53
        have e53 : T53.heap = T53.heap := rfl
        refine own_via st53 ?_
        have O53 := O47.keep Kq53 (allS g_b45 all0)
        have K53 := K47.trans Kq53 (allS (Or.inr sz_b45) all0)
        show own_Go p e below s _ _ (T53.setTop (mkF m 82 #[.val (.int pp), .val (.long c0), .second, .val (.long c1), .second, .val (.long c2), .second, .val (.long c3), .second, .val (.int (2 : Int32)), .val (.ref b45), .unset, .unset] []))
        refine own_by (fun tz kz => XS.iload X53.here hx rfl (hb hby at_82) rfl  kz) ?_
        show own_Go p e below s _ _ (T53.setTop (mkF m 84 #[.val (.int pp), .val (.long c0), .second, .val (.long c1), .second, .val (.long c2), .second, .val (.long c3), .second, .val (.int (2 : Int32)), .val (.ref b45), .unset, .unset] [(.int (2 : Int32))]))
        refine own_by (fun tz kz => XS.iconst X53.here hx rfl (hb hby at_84) kz) ?_
        show own_Go p e below s _ _ (T53.setTop (mkF m 85 #[.val (.int pp), .val (.long c0), .second, .val (.long c1), .second, .val (.long c2), .second, .val (.long c3), .second, .val (.int (2 : Int32)), .val (.ref b45), .unset, .unset] [(.int (1 : Int32)), (.int (2 : Int32))]))
        refine own_by (fun tz kz => XS.icmpNo X53.here hx rfl (hb hby at_85) rfl (tlt (by decide : (1 : Int32) < (2 : Int32))).2.2.2 kz) ?_
        show own_Go p e below s _ _ (T53.setTop (mkF m 88 #[.val (.int pp), .val (.long c0), .second, .val (.long c1), .second, .val (.long c2), .second, .val (.long c3), .second, .val (.int (2 : Int32)), .val (.ref b45), .unset, .unset] []))
        refine own_by (fun tz kz => XS.aload X53.here hx rfl (hb hby at_88) rfl rfl kz) ?_
        show own_Go p e below s _ _ (T53.setTop (mkF m 90 #[.val (.int pp), .val (.long c0), .second, .val (.long c1), .second, .val (.long c2), .second, .val (.long c3), .second, .val (.int (2 : Int32)), .val (.ref b45), .unset, .unset] [(.ref b45)]))
        refine own_by (fun tz kz => XS.lloadN X53.here hx rfl (hb hby at_90) rfl kz) ?_
        show own_Go p e below s _ _ (T53.setTop (mkF m 91 #[.val (.int pp), .val (.long c0), .second, .val (.long c1), .second, .val (.long c2), .second, .val (.long c3), .second, .val (.int (2 : Int32)), .val (.ref b45), .unset, .unset] [(.long c1), (.ref b45)]))
        obtain ⟨_, _, ⟨T54, L54, k54, n54⟩, -, X54, ⟨Lc54, hQ54, l54, y54, z54⟩, st54⟩ := Jvm.LawKit.callS X53 hx (y := (⟨"java/math/BigInteger", "valueOf", "(J)Ljava/math/BigInteger;"⟩ : MethodName)) hown (mvT hZ (hw _ (List.mem_of_getElem? (i := 26) rfl))) (mvT hZ (hw _ (List.mem_of_getElem? (i := 27) rfl))) (mvT hZ (hw _ (List.mem_of_getElem? (i := 28) rfl))) (mvT hZ (hw _ (List.mem_of_getElem? (i := 29) rfl))) (by decide) (backOf (W := 1) (rm_valueOf l Z a0 hw [] c1 pa na pc nc T53.heap n0 O53 S_pos S_neg T_pos T_neg hc28_44) hZ (hw _ (List.mem_of_getElem? (i := 29) rfl)) (hw _ (List.mem_of_getElem? (i := 28) rfl)) (by decide) (by decide)) (g := (mkF m 91 #[.val (.int pp), .val (.long c0), .second, .val (.long c1), .second, .val (.long c2), .second, .val (.long c3), .second, .val (.int (2 : Int32)), .val (.ref b45), .unset, .unset] [(.long c1), (.ref b45)])) rfl (by rw [hml]; rfl) (argsL := [(.long c1)]) (rest := [(.ref b45)]) (lenOf pd_3 rfl) rfl (by show 2 * 0 + _ ≤ _; exact Nat.le_of_eq rfl) (hb hby at_91) (fun _ _ => ⟨rfl, e53, (by decide : ((1 + 2) + 1) + 2 ≤ _), (by decide : ((4 + 8) + 6) + 8 ≤ _)⟩)
        dsimp only [Pt.U, Pt.locs, Pt.cells, Pt.slots] at X54 l54 y54 z54 st54 hQ54
        rw [l54, y54, z54] at X54
        obtain ⟨o54, rfl, Nq54, Kq54, Bq54⟩ := hQ54
        have N54 := Fr.app N53 Nq54
        have e54 : T54.heap = T54.heap := rfl
        refine own_by st54 ?_
        have O54 := O53.keep Kq54 all0
        have K54 := K53.trans Kq54 all0
        show own_Go p e below s _ _ (T54.setTop (mkF m 94 #[.val (.int pp), .val (.long c0), .second, .val (.long c1), .second, .val (.long c2), .second, .val (.long c3), .second, .val (.int (2 : Int32)), .val (.ref b45), .unset, .unset] [(.ref o54), (.ref b45)]))
        have f55 := ((f48.keep Kq53).keep Kq54)
        have f56 := (Fa53.keep Kq54 nin0)
        have f57 := (Fb53.keep Kq54 nin0)
        have f58 := (Fc53.keep Kq54 nin0)
        have f59 := (Fd53.keep Kq54 nin0)
        obtain ⟨cq60, kq60, q60a, q60b, q60c⟩ := isOf hZ e54 f55
        obtain ⟨_, _, ⟨T60, L60, k60, n60⟩, -, X60, ⟨Lc60, hQ60, l60, y60, z60⟩, st60⟩ := X54.virtualBack hx (y := (⟨"com/example/liftwise/liftwise/eval/arithmetic/Solver$Sides", "add", "(Ljava/math/BigInteger;)V"⟩ : MethodName)) (z := (⟨"com/example/liftwise/liftwise/eval/arithmetic/Solver$Sides", "add", "(Ljava/math/BigInteger;)V"⟩ : MethodName)) hown (mvT hZ (hw _ (List.mem_of_getElem? (i := 49) rfl))) (mvT hZ (hw _ (List.mem_of_getElem? (i := 50) rfl))) (notFace_of_selects (args := #[]) (mvT hZ (hw _ (List.mem_of_getElem? (i := 52) rfl)))) (mvT hZ (hw _ (List.mem_of_getElem? (i := 52) rfl))) (mvT hZ (hw _ (List.mem_of_getElem? (i := 51) rfl))) (by decide) (backOf (W := 0) (rm_add l Z a0 hw [] b45 o54 one om ko (own_sg c1) (own_un c1) (own_up c0 (0 : Int32)) (own_dn c0 (0 : Int32)) (own_lu c0 (1 : Int32)) (own_uu c0 (1 : Int32)) (own_up c1 (own_up c0 (0 : Int32))) (own_dn c1 (own_dn c0 (0 : Int32))) (own_lu c1 (own_lu c0 (1 : Int32))) (own_uu c1 (own_uu c0 (1 : Int32))) T54.heap n0 O54 S_ONE E_one Fs_one Fm_one V_one f55 f56 f57 f58 f59 g_b45 Bq54 (own_sg_or _) (own_un_or _) (own_lu_or c0 (Or.inr rfl)) (own_uu_or c0 (Or.inr rfl)) rfl rfl rfl rfl) hZ (hw _ (List.mem_of_getElem? (i := 53) rfl)) (hw _ (List.mem_of_getElem? (i := 3) rfl)) (by decide) (by decide)) q60a q60c (g := (mkF m 94 #[.val (.int pp), .val (.long c0), .second, .val (.long c1), .second, .val (.long c2), .second, .val (.long c3), .second, .val (.int (2 : Int32)), .val (.ref b45), .unset, .unset] [(.ref o54), (.ref b45)])) rfl (by rw [hml]; rfl) (Steps.refl _) (argsL := [(.ref o54)]) (rest := []) (lenOf pd_5 rfl) rfl (by show 2 * 0 + _ ≤ _; exact Nat.le_of_eq rfl) (hb hby at_94) (fun _ _ => ⟨rfl, e54, (by decide : (((1 + 2) + 1) + 2) + 1 ≤ _), (by decide : (((4 + 8) + 6) + 8) + 6 ≤ _)⟩)
        dsimp only [Pt.U, Pt.locs, Pt.cells, Pt.slots] at X60 l60 y60 z60 st60 hQ60
        rw [l60, y60, z60] at X60
        obtain ⟨rfl, Nq60, Kq60, Fa60, Fb60, Fc60, Fd60⟩ := hQ60
        have N60 := Fr.app N54 Nq60
        have e60 : T60.heap = T60.heap := rfl
        refine own_via st60 ?_
        have O60 := O54.keep Kq60 (allS g_b45 all0)
        have K60 := K54.trans Kq60 (allS (Or.inr sz_b45) all0)
        show own_Go p e below s _ _ (T60.setTop (mkF m 97 #[.val (.int pp), .val (.long c0), .second, .val (.long c1), .second, .val (.long c2), .second, .val (.long c3), .second, .val (.int (2 : Int32)), .val (.ref b45), .unset, .unset] []))
        refine own_by (fun tz kz => XS.iload X60.here hx rfl (hb hby at_97) rfl  kz) ?_
        show own_Go p e below s _ _ (T60.setTop (mkF m 99 #[.val (.int pp), .val (.long c0), .second, .val (.long c1), .second, .val (.long c2), .second, .val (.long c3), .second, .val (.int (2 : Int32)), .val (.ref b45), .unset, .unset] [(.int (2 : Int32))]))
        refine own_by (fun tz kz => XS.iconst X60.here hx rfl (hb hby at_99) kz) ?_
        show own_Go p e below s _ _ (T60.setTop (mkF m 100 #[.val (.int pp), .val (.long c0), .second, .val (.long c1), .second, .val (.long c2), .second, .val (.long c3), .second, .val (.int (2 : Int32)), .val (.ref b45), .unset, .unset] [(.int (2 : Int32)), (.int (2 : Int32))]))
        refine own_by (fun tz kz => XS.icmpYes X60.here hx rfl (pc0 := 100) (pc' := 113) rfl (hb hby at_100) rfl (flt (by decide : ¬ (2 : Int32) < (2 : Int32))).2.2.2 (by decide) (by decide) kz) ?_
        show own_Go p e below s _ _ (T60.setTop (mkF m 113 #[.val (.int pp), .val (.long c0), .second, .val (.long c1), .second, .val (.long c2), .second, .val (.long c3), .second, .val (.int (2 : Int32)), .val (.ref b45), .unset, .unset] []))
        refine own_by (fun tz kz => XS.iload X60.here hx rfl (hb hby at_113) rfl  kz) ?_
        show own_Go p e below s _ _ (T60.setTop (mkF m 115 #[.val (.int pp), .val (.long c0), .second, .val (.long c1), .second, .val (.long c2), .second, .val (.long c3), .second, .val (.int (2 : Int32)), .val (.ref b45), .unset, .unset] [(.int (2 : Int32))]))
        refine own_by (fun tz kz => XS.iconst X60.here hx rfl (hb hby at_115) kz) ?_
        show own_Go p e below s _ _ (T60.setTop (mkF m 116 #[.val (.int pp), .val (.long c0), .second, .val (.long c1), .second, .val (.long c2), .second, .val (.long c3), .second, .val (.int (2 : Int32)), .val (.ref b45), .unset, .unset] [(.int (3 : Int32)), (.int (2 : Int32))]))
        refine own_by (fun tz kz => XS.icmpYes X60.here hx rfl (pc0 := 116) (pc' := 129) rfl (hb hby at_116) rfl (flt (by decide : ¬ (3 : Int32) < (2 : Int32))).2.2.2 (by decide) (by decide) kz) ?_
        have J209 : ∀ (Tj61 : State) (Lj61 : List Loc), Stand p l e room_1 s m #[(.int pp), (.long c0), (.long c1), (.long c2), (.long c3)] below meth c Tj61 Lj61 ((((1 + 2) + 1) + 2) + 1) ((((4 + 8) + 6) + 8) + 6) → Tj61.heap = T60.heap → Fr n0 Lj61 → ∀ lo : Int32, lo = own_all LF0 LF1 (1 : Int32) (1 : Int32) → own_Go p e below s (Q_rm0 n0) room_1 (Tj61.setTop (mkF m 209 #[.val (.int pp), .val (.long c0), .second, .val (.long c1), .second, .val (.long c2), .second, .val (.long c3), .second, .val (.int (2 : Int32)), .val (.ref b45), .val (.int lo), .unset] [])) := by
          intro Tj61 Lj61 Xj61 ej61 Nj61 lo hlo
          have J289 : ∀ (Tj62 : State) (Lj62 : List Loc), Stand p l e room_1 s m #[(.int pp), (.long c0), (.long c1), (.long c2), (.long c3)] below meth c Tj62 Lj62 ((((1 + 2) + 1) + 2) + 1) ((((4 + 8) + 6) + 8) + 6) → Tj62.heap = T60.heap → Fr n0 Lj62 → ∀ up : Int32, up = own_all UF0 UF1 (1 : Int32) (1 : Int32) → own_Go p e below s (Q_rm0 n0) room_1 (Tj62.setTop (mkF m 289 #[.val (.int pp), .val (.long c0), .second, .val (.long c1), .second, .val (.long c2), .second, .val (.long c3), .second, .val (.int (2 : Int32)), .val (.ref b45), .val (.int lo), .val (.int up)] [])) := by
            intro Tj62 Lj62 Xj62 ej62 Nj62 up hup
            show own_Go p e below s _ _ (Tj62.setTop (mkF m 289 #[.val (.int pp), .val (.long c0), .second, .val (.long c1), .second, .val (.long c2), .second, .val (.long c3), .second, .val (.int (2 : Int32)), .val (.ref b45), .val (.int lo), .val (.int up)] []))
            refine own_by (fun tz kz => XS.aload Xj62.here hx rfl (hb hby at_289) rfl rfl kz) ?_
            show own_Go p e below s _ _ (Tj62.setTop (mkF m 291 #[.val (.int pp), .val (.long c0), .second, .val (.long c1), .second, .val (.long c2), .second, .val (.long c3), .second, .val (.int (2 : Int32)), .val (.ref b45), .val (.int lo), .val (.int up)] [(.ref b45)]))
            have f63 := (f55.keep Kq60)
            obtain ⟨cq64, kq64, q64a, q64b, q64c⟩ := isOf hZ ej62 f63
            obtain ⟨_, _, ⟨T64, L64, k64, n64⟩, -, X64, ⟨Lc64, hQ64, l64, y64, z64⟩, st64⟩ := Xj62.virtualBack hx (y := (⟨"com/example/liftwise/liftwise/eval/arithmetic/Solver$Sides", "isExact", "()Z"⟩ : MethodName)) (z := (⟨"com/example/liftwise/liftwise/eval/arithmetic/Solver$Sides", "isExact", "()Z"⟩ : MethodName)) hown (mvT hZ (hw _ (List.mem_of_getElem? (i := 21) rfl))) (mvT hZ (hw _ (List.mem_of_getElem? (i := 22) rfl))) (notFace_of_selects (args := #[]) (mvT hZ (hw _ (List.mem_of_getElem? (i := 24) rfl)))) (mvT hZ (hw _ (List.mem_of_getElem? (i := 24) rfl))) (mvT hZ (hw _ (List.mem_of_getElem? (i := 23) rfl))) (by decide) (backOf (W := 0) (rm_exact l Z a0 hw [] b45 (own_lu c1 (own_lu c0 (1 : Int32))) (own_uu c1 (own_uu c0 (1 : Int32))) (if ¬ lo = (0 : Int32) ∨ ¬ up = (0 : Int32) then (1 : Int32) else (0 : Int32)) T60.heap n0 Fc60 Fd60 (own_ex ((own_rell2 c0 c1 c2 c3 hLF0 hc16_43 hLF1 hc28_44).trans hlo.symm) ((own_relu2 c0 c1 c2 c3 hUF0 hc16_43 hUF1 hc28_44).trans hup.symm))) hZ (hw _ (List.mem_of_getElem? (i := 25) rfl)) (hw _ (List.mem_of_getElem? (i := 3) rfl)) (by decide) (by decide)) q64a q64c (g := (mkF m 291 #[.val (.int pp), .val (.long c0), .second, .val (.long c1), .second, .val (.long c2), .second, .val (.long c3), .second, .val (.int (2 : Int32)), .val (.ref b45), .val (.int lo), .val (.int up)] [(.ref b45)])) rfl (by rw [hml]; rfl) (Steps.refl _) (argsL := []) (rest := []) (lenOf pd_2 rfl) rfl (by show 2 * 0 + _ ≤ _; exact Nat.le_of_eq rfl) (hb hby at_291) (fun _ _ => ⟨rfl, ej62, (by decide : ((((1 + 2) + 1) + 2) + 1) + 0 ≤ _), (by decide : ((((4 + 8) + 6) + 8) + 6) + 0 ≤ _)⟩)
            dsimp only [Pt.U, Pt.locs, Pt.cells, Pt.slots] at X64 l64 y64 z64 st64 hQ64
            rw [l64, y64, z64] at X64
            obtain ⟨rfl, Nq64, e64⟩ := hQ64
            have N64 := Fr.app Nj62 Nq64
            refine own_via st64 ?_
            show own_Go p e below s _ _ (T64.setTop (mkF m 294 #[.val (.int pp), .val (.long c0), .second, .val (.long c1), .second, .val (.long c2), .second, .val (.long c3), .second, .val (.int (2 : Int32)), .val (.ref b45), .val (.int lo), .val (.int up)] [(.int (if ¬ lo = (0 : Int32) ∨ ¬ up = (0 : Int32) then (1 : Int32) else (0 : Int32)))]))
            refine own_by (fun tz kz => XS.iload X64.here hx rfl (hb hby at_294) rfl  kz) ?_
            show own_Go p e below s _ _ (T64.setTop (mkF m 296 #[.val (.int pp), .val (.long c0), .second, .val (.long c1), .second, .val (.long c2), .second, .val (.long c3), .second, .val (.int (2 : Int32)), .val (.ref b45), .val (.int lo), .val (.int up)] [(.int lo), (.int (if ¬ lo = (0 : Int32) ∨ ¬ up = (0 : Int32) then (1 : Int32) else (0 : Int32)))]))
            by_cases hc296_65 : lo = (0 : Int32)
            · refine own_by (fun tz kz => XS.ifNo X64.here hx rfl (hb hby at_296) rfl ((if0 _ _).trans (teq hc296_65).2) kz) ?_
              show own_Go p e below s _ _ (T64.setTop (mkF m 299 #[.val (.int pp), .val (.long c0), .second, .val (.long c1), .second, .val (.long c2), .second, .val (.long c3), .second, .val (.int (2 : Int32)), .val (.ref b45), .val (.int lo), .val (.int up)] [(.int (if ¬ lo = (0 : Int32) ∨ ¬ up = (0 : Int32) then (1 : Int32) else (0 : Int32)))]))
              refine own_by (fun tz kz => XS.iload X64.here hx rfl (hb hby at_299) rfl  kz) ?_
              show own_Go p e below s _ _ (T64.setTop (mkF m 301 #[.val (.int pp), .val (.long c0), .second, .val (.long c1), .second, .val (.long c2), .second, .val (.long c3), .second, .val (.int (2 : Int32)), .val (.ref b45), .val (.int lo), .val (.int up)] [(.int up), (.int (if ¬ lo = (0 : Int32) ∨ ¬ up = (0 : Int32) then (1 : Int32) else (0 : Int32)))]))
              by_cases hc301_66 : up = (0 : Int32)
              · refine own_by (fun tz kz => XS.ifYes X64.here hx rfl (pc0 := 301) (pc' := 308) rfl (hb hby at_301) rfl ((if0 _ _).trans (teq hc301_66).1) (by decide) (by decide) kz) ?_
                show own_Go p e below s _ _ (T64.setTop (mkF m 308 #[.val (.int pp), .val (.long c0), .second, .val (.long c1), .second, .val (.long c2), .second, .val (.long c3), .second, .val (.int (2 : Int32)), .val (.ref b45), .val (.int lo), .val (.int up)] [(.int (if ¬ lo = (0 : Int32) ∨ ¬ up = (0 : Int32) then (1 : Int32) else (0 : Int32)))]))
                refine own_by (fun tz kz => XS.iconst X64.here hx rfl (hb hby at_308) kz) ?_
                show own_Go p e below s _ _ (T64.setTop (mkF m 309 #[.val (.int pp), .val (.long c0), .second, .val (.long c1), .second, .val (.long c2), .second, .val (.long c3), .second, .val (.int (2 : Int32)), .val (.ref b45), .val (.int lo), .val (.int up)] [(.int (0 : Int32)), (.int (if ¬ lo = (0 : Int32) ∨ ¬ up = (0 : Int32) then (1 : Int32) else (0 : Int32)))]))
                refine own_by (fun tz kz => XS.icmpNo X64.here hx rfl (hb hby at_309) rfl (teq (if_neg (fun q => q.elim (fun q => q hc296_65) (fun q => q hc301_66)))).2 kz) ?_
                show own_Go p e below s _ _ (T64.setTop (mkF m 312 #[.val (.int pp), .val (.long c0), .second, .val (.long c1), .second, .val (.long c2), .second, .val (.long c3), .second, .val (.int (2 : Int32)), .val (.ref b45), .val (.int lo), .val (.int up)] []))
                refine own_by (fun tz kz => XS.iconst X64.here hx rfl (hb hby at_312) kz) ?_
                show own_Go p e below s _ _ (T64.setTop (mkF m 313 #[.val (.int pp), .val (.long c0), .second, .val (.long c1), .second, .val (.long c2), .second, .val (.long c3), .second, .val (.int (2 : Int32)), .val (.ref b45), .val (.int lo), .val (.int up)] [(.int (1 : Int32))]))
                refine own_by (fun tz kz => XS.goto X64.here hx rfl (pc0 := 313) (pc' := 317) rfl (hb hby at_313) (by decide) (by decide) kz) ?_
                show own_Go p e below s _ _ (T64.setTop (mkF m 317 #[.val (.int pp), .val (.long c0), .second, .val (.long c1), .second, .val (.long c2), .second, .val (.long c3), .second, .val (.int (2 : Int32)), .val (.ref b45), .val (.int lo), .val (.int up)] [(.int (1 : Int32))]))
                refine own_retI X64 hx hlk (t := .boolean) hret (by simp) rfl (hb hby at_317) ?_ (by decide) (by decide)
                exact ⟨rfl, N64⟩
              · refine own_by (fun tz kz => XS.ifNo X64.here hx rfl (hb hby at_301) rfl ((if0 _ _).trans (feq hc301_66).1) kz) ?_
                show own_Go p e below s _ _ (T64.setTop (mkF m 304 #[.val (.int pp), .val (.long c0), .second, .val (.long c1), .second, .val (.long c2), .second, .val (.long c3), .second, .val (.int (2 : Int32)), .val (.ref b45), .val (.int lo), .val (.int up)] [(.int (if ¬ lo = (0 : Int32) ∨ ¬ up = (0 : Int32) then (1 : Int32) else (0 : Int32)))]))
                refine own_by (fun tz kz => XS.iconst X64.here hx rfl (hb hby at_304) kz) ?_
                show own_Go p e below s _ _ (T64.setTop (mkF m 305 #[.val (.int pp), .val (.long c0), .second, .val (.long c1), .second, .val (.long c2), .second, .val (.long c3), .second, .val (.int (2 : Int32)), .val (.ref b45), .val (.int lo), .val (.int up)] [(.int (1 : Int32)), (.int (if ¬ lo = (0 : Int32) ∨ ¬ up = (0 : Int32) then (1 : Int32) else (0 : Int32)))]))
                refine own_by (fun tz kz => XS.goto X64.here hx rfl (pc0 := 305) (pc' := 309) rfl (hb hby at_305) (by decide) (by decide) kz) ?_
                show own_Go p e below s _ _ (T64.setTop (mkF m 309 #[.val (.int pp), .val (.long c0), .second, .val (.long c1), .second, .val (.long c2), .second, .val (.long c3), .second, .val (.int (2 : Int32)), .val (.ref b45), .val (.int lo), .val (.int up)] [(.int (1 : Int32)), (.int (if ¬ lo = (0 : Int32) ∨ ¬ up = (0 : Int32) then (1 : Int32) else (0 : Int32)))]))
                refine own_by (fun tz kz => XS.icmpNo X64.here hx rfl (hb hby at_309) rfl (teq (if_pos (Or.inr hc301_66))).2 kz) ?_
                show own_Go p e below s _ _ (T64.setTop (mkF m 312 #[.val (.int pp), .val (.long c0), .second, .val (.long c1), .second, .val (.long c2), .second, .val (.long c3), .second, .val (.int (2 : Int32)), .val (.ref b45), .val (.int lo), .val (.int up)] []))
                refine own_by (fun tz kz => XS.iconst X64.here hx rfl (hb hby at_312) kz) ?_
                show own_Go p e below s _ _ (T64.setTop (mkF m 313 #[.val (.int pp), .val (.long c0), .second, .val (.long c1), .second, .val (.long c2), .second, .val (.long c3), .second, .val (.int (2 : Int32)), .val (.ref b45), .val (.int lo), .val (.int up)] [(.int (1 : Int32))]))
                refine own_by (fun tz kz => XS.goto X64.here hx rfl (pc0 := 313) (pc' := 317) rfl (hb hby at_313) (by decide) (by decide) kz) ?_
                show own_Go p e below s _ _ (T64.setTop (mkF m 317 #[.val (.int pp), .val (.long c0), .second, .val (.long c1), .second, .val (.long c2), .second, .val (.long c3), .second, .val (.int (2 : Int32)), .val (.ref b45), .val (.int lo), .val (.int up)] [(.int (1 : Int32))]))
                refine own_retI X64 hx hlk (t := .boolean) hret (by simp) rfl (hb hby at_317) ?_ (by decide) (by decide)
                exact ⟨rfl, N64⟩
            · refine own_by (fun tz kz => XS.ifYes X64.here hx rfl (pc0 := 296) (pc' := 304) rfl (hb hby at_296) rfl ((if0 _ _).trans (feq hc296_65).2) (by decide) (by decide) kz) ?_
              show own_Go p e below s _ _ (T64.setTop (mkF m 304 #[.val (.int pp), .val (.long c0), .second, .val (.long c1), .second, .val (.long c2), .second, .val (.long c3), .second, .val (.int (2 : Int32)), .val (.ref b45), .val (.int lo), .val (.int up)] [(.int (if ¬ lo = (0 : Int32) ∨ ¬ up = (0 : Int32) then (1 : Int32) else (0 : Int32)))]))
              refine own_by (fun tz kz => XS.iconst X64.here hx rfl (hb hby at_304) kz) ?_
              show own_Go p e below s _ _ (T64.setTop (mkF m 305 #[.val (.int pp), .val (.long c0), .second, .val (.long c1), .second, .val (.long c2), .second, .val (.long c3), .second, .val (.int (2 : Int32)), .val (.ref b45), .val (.int lo), .val (.int up)] [(.int (1 : Int32)), (.int (if ¬ lo = (0 : Int32) ∨ ¬ up = (0 : Int32) then (1 : Int32) else (0 : Int32)))]))
              refine own_by (fun tz kz => XS.goto X64.here hx rfl (pc0 := 305) (pc' := 309) rfl (hb hby at_305) (by decide) (by decide) kz) ?_
              show own_Go p e below s _ _ (T64.setTop (mkF m 309 #[.val (.int pp), .val (.long c0), .second, .val (.long c1), .second, .val (.long c2), .second, .val (.long c3), .second, .val (.int (2 : Int32)), .val (.ref b45), .val (.int lo), .val (.int up)] [(.int (1 : Int32)), (.int (if ¬ lo = (0 : Int32) ∨ ¬ up = (0 : Int32) then (1 : Int32) else (0 : Int32)))]))
              refine own_by (fun tz kz => XS.icmpNo X64.here hx rfl (hb hby at_309) rfl (teq (if_pos (Or.inl hc296_65))).2 kz) ?_
              show own_Go p e below s _ _ (T64.setTop (mkF m 312 #[.val (.int pp), .val (.long c0), .second, .val (.long c1), .second, .val (.long c2), .second, .val (.long c3), .second, .val (.int (2 : Int32)), .val (.ref b45), .val (.int lo), .val (.int up)] []))
              refine own_by (fun tz kz => XS.iconst X64.here hx rfl (hb hby at_312) kz) ?_
              show own_Go p e below s _ _ (T64.setTop (mkF m 313 #[.val (.int pp), .val (.long c0), .second, .val (.long c1), .second, .val (.long c2), .second, .val (.long c3), .second, .val (.int (2 : Int32)), .val (.ref b45), .val (.int lo), .val (.int up)] [(.int (1 : Int32))]))
              refine own_by (fun tz kz => XS.goto X64.here hx rfl (pc0 := 313) (pc' := 317) rfl (hb hby at_313) (by decide) (by decide) kz) ?_
              show own_Go p e below s _ _ (T64.setTop (mkF m 317 #[.val (.int pp), .val (.long c0), .second, .val (.long c1), .second, .val (.long c2), .second, .val (.long c3), .second, .val (.int (2 : Int32)), .val (.ref b45), .val (.int lo), .val (.int up)] [(.int (1 : Int32))]))
              refine own_retI X64 hx hlk (t := .boolean) hret (by simp) rfl (hb hby at_317) ?_ (by decide) (by decide)
              exact ⟨rfl, N64⟩
          show own_Go p e below s _ _ (Tj61.setTop (mkF m 209 #[.val (.int pp), .val (.long c0), .second, .val (.long c1), .second, .val (.long c2), .second, .val (.long c3), .second, .val (.int (2 : Int32)), .val (.ref b45), .val (.int lo), .unset] []))
          refine own_by (fun tz kz => XS.iload Xj61.here hx rfl (hb hby at_209) rfl  kz) ?_
          show own_Go p e below s _ _ (Tj61.setTop (mkF m 211 #[.val (.int pp), .val (.long c0), .second, .val (.long c1), .second, .val (.long c2), .second, .val (.long c3), .second, .val (.int (2 : Int32)), .val (.ref b45), .val (.int lo), .unset] [(.int (2 : Int32))]))
          refine own_by (fun tz kz => XS.ifNo Xj61.here hx rfl (hb hby at_211) rfl ((if0 _ _).trans (tlt (by decide : (0 : Int32) < (2 : Int32))).2.2.2) kz) ?_
          show own_Go p e below s _ _ (Tj61.setTop (mkF m 214 #[.val (.int pp), .val (.long c0), .second, .val (.long c1), .second, .val (.long c2), .second, .val (.long c3), .second, .val (.int (2 : Int32)), .val (.ref b45), .val (.int lo), .unset] []))
          refine own_by (fun tz kz => XS.iconst Xj61.here hx rfl (hb hby at_214) kz) ?_
          show own_Go p e below s _ _ (Tj61.setTop (mkF m 215 #[.val (.int pp), .val (.long c0), .second, .val (.long c1), .second, .val (.long c2), .second, .val (.long c3), .second, .val (.int (2 : Int32)), .val (.ref b45), .val (.int lo), .unset] [(.int (1 : Int32))]))
          refine own_by (fun tz kz => XS.goto Xj61.here hx rfl (pc0 := 215) (pc' := 219) rfl (hb hby at_215) (by decide) (by decide) kz) ?_
          show own_Go p e below s _ _ (Tj61.setTop (mkF m 219 #[.val (.int pp), .val (.long c0), .second, .val (.long c1), .second, .val (.long c2), .second, .val (.long c3), .second, .val (.int (2 : Int32)), .val (.ref b45), .val (.int lo), .unset] [(.int (1 : Int32))]))
          refine own_by (fun tz kz => XS.lloadN Xj61.here hx rfl (hb hby at_219) rfl kz) ?_
          show own_Go p e below s _ _ (Tj61.setTop (mkF m 220 #[.val (.int pp), .val (.long c0), .second, .val (.long c1), .second, .val (.long c2), .second, .val (.long c3), .second, .val (.int (2 : Int32)), .val (.ref b45), .val (.int lo), .unset] [(.long c0), (.int (1 : Int32))]))
          obtain ⟨_, _, ⟨T67, L67, k67, n67⟩, -, X67, ⟨Lc67, hQ67, l67, y67, z67⟩, st67⟩ := Jvm.LawKit.callS Xj61 hx (y := (⟨"com/example/liftwise/liftwise/eval/arithmetic/SidesIsExactPinLaw", "upperFine", "(ZJ)Z"⟩ : MethodName)) hown (mvT hZ (hw _ (List.mem_of_getElem? (i := 18) rfl))) (mvT hZ (hw _ (List.mem_of_getElem? (i := 19) rfl))) (mvT hZ (hw _ (List.mem_of_getElem? (i := 16) rfl))) (mvT hZ (hw _ (List.mem_of_getElem? (i := 20) rfl))) (by decide) (backOf (W := 0) (rm_upperFine l Z a0 hw [] (1 : Int32) c0 UF0 T60.heap n0 hUF0) hZ (hw _ (List.mem_of_getElem? (i := 20) rfl)) (hw _ (List.mem_of_getElem? (i := 16) rfl)) (by decide) (by decide)) (g := (mkF m 220 #[.val (.int pp), .val (.long c0), .second, .val (.long c1), .second, .val (.long c2), .second, .val (.long c3), .second, .val (.int (2 : Int32)), .val (.ref b45), .val (.int lo), .unset] [(.long c0), (.int (1 : Int32))])) rfl (by rw [hml]; rfl) (argsL := [(.int (1 : Int32)), (.long c0)]) (rest := []) (lenOf pd_1 rfl) rfl (by show 2 * 0 + _ ≤ _; exact Nat.le_of_eq rfl) (hb hby at_220) (fun _ _ => ⟨rfl, ej61, (by decide : ((((1 + 2) + 1) + 2) + 1) + 0 ≤ _), (by decide : ((((4 + 8) + 6) + 8) + 6) + 0 ≤ _)⟩)
          dsimp only [Pt.U, Pt.locs, Pt.cells, Pt.slots] at X67 l67 y67 z67 st67 hQ67
          rw [l67, y67, z67] at X67
          obtain ⟨rfl, Nq67, e67⟩ := hQ67
          have N67 := Fr.app Nj61 Nq67
          refine own_by st67 ?_
          show own_Go p e below s _ _ (T67.setTop (mkF m 223 #[.val (.int pp), .val (.long c0), .second, .val (.long c1), .second, .val (.long c2), .second, .val (.long c3), .second, .val (.int (2 : Int32)), .val (.ref b45), .val (.int lo), .unset] [(.int UF0)]))
          by_cases hc223_68 : UF0 = (0 : Int32)
          · refine own_by (fun tz kz => XS.ifYes X67.here hx rfl (pc0 := 223) (pc' := 286) rfl (hb hby at_223) rfl ((if0 _ _).trans (teq hc223_68).1) (by decide) (by decide) kz) ?_
            show own_Go p e below s _ _ (T67.setTop (mkF m 286 #[.val (.int pp), .val (.long c0), .second, .val (.long c1), .second, .val (.long c2), .second, .val (.long c3), .second, .val (.int (2 : Int32)), .val (.ref b45), .val (.int lo), .unset] []))
            refine own_by (fun tz kz => XS.iconst X67.here hx rfl (hb hby at_286) kz) ?_
            show own_Go p e below s _ _ (T67.setTop (mkF m 287 #[.val (.int pp), .val (.long c0), .second, .val (.long c1), .second, .val (.long c2), .second, .val (.long c3), .second, .val (.int (2 : Int32)), .val (.ref b45), .val (.int lo), .unset] [(.int (0 : Int32))]))
            refine own_by (fun tz kz => XS.istore X67.here hx rfl (hb hby at_287) rfl (l' := #[.val (.int pp), .val (.long c0), .second, .val (.long c1), .second, .val (.long c2), .second, .val (.long c3), .second, .val (.int (2 : Int32)), .val (.ref b45), .val (.int lo), .val (.int (0 : Int32))]) rfl kz) ?_
            exact J289 _ _ X67 e67 N67 _ (by simp [own_all, hc223_68])
          · refine own_by (fun tz kz => XS.ifNo X67.here hx rfl (hb hby at_223) rfl ((if0 _ _).trans (feq hc223_68).1) kz) ?_
            show own_Go p e below s _ _ (T67.setTop (mkF m 226 #[.val (.int pp), .val (.long c0), .second, .val (.long c1), .second, .val (.long c2), .second, .val (.long c3), .second, .val (.int (2 : Int32)), .val (.ref b45), .val (.int lo), .unset] []))
            refine own_by (fun tz kz => XS.iload X67.here hx rfl (hb hby at_226) rfl  kz) ?_
            show own_Go p e below s _ _ (T67.setTop (mkF m 228 #[.val (.int pp), .val (.long c0), .second, .val (.long c1), .second, .val (.long c2), .second, .val (.long c3), .second, .val (.int (2 : Int32)), .val (.ref b45), .val (.int lo), .unset] [(.int (2 : Int32))]))
            refine own_by (fun tz kz => XS.iconst X67.here hx rfl (hb hby at_228) kz) ?_
            show own_Go p e below s _ _ (T67.setTop (mkF m 229 #[.val (.int pp), .val (.long c0), .second, .val (.long c1), .second, .val (.long c2), .second, .val (.long c3), .second, .val (.int (2 : Int32)), .val (.ref b45), .val (.int lo), .unset] [(.int (1 : Int32)), (.int (2 : Int32))]))
            refine own_by (fun tz kz => XS.icmpNo X67.here hx rfl (hb hby at_229) rfl (tlt (by decide : (1 : Int32) < (2 : Int32))).2.2.2 kz) ?_
            show own_Go p e below s _ _ (T67.setTop (mkF m 232 #[.val (.int pp), .val (.long c0), .second, .val (.long c1), .second, .val (.long c2), .second, .val (.long c3), .second, .val (.int (2 : Int32)), .val (.ref b45), .val (.int lo), .unset] []))
            refine own_by (fun tz kz => XS.iconst X67.here hx rfl (hb hby at_232) kz) ?_
            show own_Go p e below s _ _ (T67.setTop (mkF m 233 #[.val (.int pp), .val (.long c0), .second, .val (.long c1), .second, .val (.long c2), .second, .val (.long c3), .second, .val (.int (2 : Int32)), .val (.ref b45), .val (.int lo), .unset] [(.int (1 : Int32))]))
            refine own_by (fun tz kz => XS.goto X67.here hx rfl (pc0 := 233) (pc' := 237) rfl (hb hby at_233) (by decide) (by decide) kz) ?_
            show own_Go p e below s _ _ (T67.setTop (mkF m 237 #[.val (.int pp), .val (.long c0), .second, .val (.long c1), .second, .val (.long c2), .second, .val (.long c3), .second, .val (.int (2 : Int32)), .val (.ref b45), .val (.int lo), .unset] [(.int (1 : Int32))]))
            refine own_by (fun tz kz => XS.lloadN X67.here hx rfl (hb hby at_237) rfl kz) ?_
            show own_Go p e below s _ _ (T67.setTop (mkF m 238 #[.val (.int pp), .val (.long c0), .second, .val (.long c1), .second, .val (.long c2), .second, .val (.long c3), .second, .val (.int (2 : Int32)), .val (.ref b45), .val (.int lo), .unset] [(.long c1), (.int (1 : Int32))]))
            obtain ⟨_, _, ⟨T69, L69, k69, n69⟩, -, X69, ⟨Lc69, hQ69, l69, y69, z69⟩, st69⟩ := Jvm.LawKit.callS X67 hx (y := (⟨"com/example/liftwise/liftwise/eval/arithmetic/SidesIsExactPinLaw", "upperFine", "(ZJ)Z"⟩ : MethodName)) hown (mvT hZ (hw _ (List.mem_of_getElem? (i := 18) rfl))) (mvT hZ (hw _ (List.mem_of_getElem? (i := 19) rfl))) (mvT hZ (hw _ (List.mem_of_getElem? (i := 16) rfl))) (mvT hZ (hw _ (List.mem_of_getElem? (i := 20) rfl))) (by decide) (backOf (W := 0) (rm_upperFine l Z a0 hw [] (1 : Int32) c1 UF1 T60.heap n0 hUF1) hZ (hw _ (List.mem_of_getElem? (i := 20) rfl)) (hw _ (List.mem_of_getElem? (i := 16) rfl)) (by decide) (by decide)) (g := (mkF m 238 #[.val (.int pp), .val (.long c0), .second, .val (.long c1), .second, .val (.long c2), .second, .val (.long c3), .second, .val (.int (2 : Int32)), .val (.ref b45), .val (.int lo), .unset] [(.long c1), (.int (1 : Int32))])) rfl (by rw [hml]; rfl) (argsL := [(.int (1 : Int32)), (.long c1)]) (rest := []) (lenOf pd_1 rfl) rfl (by show 2 * 0 + _ ≤ _; exact Nat.le_of_eq rfl) (hb hby at_238) (fun _ _ => ⟨rfl, e67, (by decide : ((((1 + 2) + 1) + 2) + 1) + 0 ≤ _), (by decide : ((((4 + 8) + 6) + 8) + 6) + 0 ≤ _)⟩)
            dsimp only [Pt.U, Pt.locs, Pt.cells, Pt.slots] at X69 l69 y69 z69 st69 hQ69
            rw [l69, y69, z69] at X69
            obtain ⟨rfl, Nq69, e69⟩ := hQ69
            have N69 := Fr.app N67 Nq69
            refine own_by st69 ?_
            show own_Go p e below s _ _ (T69.setTop (mkF m 241 #[.val (.int pp), .val (.long c0), .second, .val (.long c1), .second, .val (.long c2), .second, .val (.long c3), .second, .val (.int (2 : Int32)), .val (.ref b45), .val (.int lo), .unset] [(.int UF1)]))
            by_cases hc241_70 : UF1 = (0 : Int32)
            · refine own_by (fun tz kz => XS.ifYes X69.here hx rfl (pc0 := 241) (pc' := 286) rfl (hb hby at_241) rfl ((if0 _ _).trans (teq hc241_70).1) (by decide) (by decide) kz) ?_
              show own_Go p e below s _ _ (T69.setTop (mkF m 286 #[.val (.int pp), .val (.long c0), .second, .val (.long c1), .second, .val (.long c2), .second, .val (.long c3), .second, .val (.int (2 : Int32)), .val (.ref b45), .val (.int lo), .unset] []))
              refine own_by (fun tz kz => XS.iconst X69.here hx rfl (hb hby at_286) kz) ?_
              show own_Go p e below s _ _ (T69.setTop (mkF m 287 #[.val (.int pp), .val (.long c0), .second, .val (.long c1), .second, .val (.long c2), .second, .val (.long c3), .second, .val (.int (2 : Int32)), .val (.ref b45), .val (.int lo), .unset] [(.int (0 : Int32))]))
              refine own_by (fun tz kz => XS.istore X69.here hx rfl (hb hby at_287) rfl (l' := #[.val (.int pp), .val (.long c0), .second, .val (.long c1), .second, .val (.long c2), .second, .val (.long c3), .second, .val (.int (2 : Int32)), .val (.ref b45), .val (.int lo), .val (.int (0 : Int32))]) rfl kz) ?_
              exact J289 _ _ X69 e69 N69 _ (by simp [own_all, hc223_68, hc241_70])
            · refine own_by (fun tz kz => XS.ifNo X69.here hx rfl (hb hby at_241) rfl ((if0 _ _).trans (feq hc241_70).1) kz) ?_
              show own_Go p e below s _ _ (T69.setTop (mkF m 244 #[.val (.int pp), .val (.long c0), .second, .val (.long c1), .second, .val (.long c2), .second, .val (.long c3), .second, .val (.int (2 : Int32)), .val (.ref b45), .val (.int lo), .unset] []))
              refine own_by (fun tz kz => XS.iload X69.here hx rfl (hb hby at_244) rfl  kz) ?_
              show own_Go p e below s _ _ (T69.setTop (mkF m 246 #[.val (.int pp), .val (.long c0), .second, .val (.long c1), .second, .val (.long c2), .second, .val (.long c3), .second, .val (.int (2 : Int32)), .val (.ref b45), .val (.int lo), .unset] [(.int (2 : Int32))]))
              refine own_by (fun tz kz => XS.iconst X69.here hx rfl (hb hby at_246) kz) ?_
              show own_Go p e below s _ _ (T69.setTop (mkF m 247 #[.val (.int pp), .val (.long c0), .second, .val (.long c1), .second, .val (.long c2), .second, .val (.long c3), .second, .val (.int (2 : Int32)), .val (.ref b45), .val (.int lo), .unset] [(.int (2 : Int32)), (.int (2 : Int32))]))
              refine own_by (fun tz kz => XS.icmpYes X69.here hx rfl (pc0 := 247) (pc' := 254) rfl (hb hby at_247) rfl (flt (by decide : ¬ (2 : Int32) < (2 : Int32))).2.2.2 (by decide) (by decide) kz) ?_
              show own_Go p e below s _ _ (T69.setTop (mkF m 254 #[.val (.int pp), .val (.long c0), .second, .val (.long c1), .second, .val (.long c2), .second, .val (.long c3), .second, .val (.int (2 : Int32)), .val (.ref b45), .val (.int lo), .unset] []))
              refine own_by (fun tz kz => XS.iconst X69.here hx rfl (hb hby at_254) kz) ?_
              show own_Go p e below s _ _ (T69.setTop (mkF m 255 #[.val (.int pp), .val (.long c0), .second, .val (.long c1), .second, .val (.long c2), .second, .val (.long c3), .second, .val (.int (2 : Int32)), .val (.ref b45), .val (.int lo), .unset] [(.int (0 : Int32))]))
              refine own_by (fun tz kz => XS.lload X69.here hx rfl (hb hby at_255) rfl kz) ?_
              show own_Go p e below s _ _ (T69.setTop (mkF m 257 #[.val (.int pp), .val (.long c0), .second, .val (.long c1), .second, .val (.long c2), .second, .val (.long c3), .second, .val (.int (2 : Int32)), .val (.ref b45), .val (.int lo), .unset] [(.long c2), (.int (0 : Int32))]))
              obtain ⟨_, _, ⟨T71, L71, k71, n71⟩, -, X71, ⟨Lc71, hQ71, l71, y71, z71⟩, st71⟩ := Jvm.LawKit.callS X69 hx (y := (⟨"com/example/liftwise/liftwise/eval/arithmetic/SidesIsExactPinLaw", "upperFine", "(ZJ)Z"⟩ : MethodName)) hown (mvT hZ (hw _ (List.mem_of_getElem? (i := 18) rfl))) (mvT hZ (hw _ (List.mem_of_getElem? (i := 19) rfl))) (mvT hZ (hw _ (List.mem_of_getElem? (i := 16) rfl))) (mvT hZ (hw _ (List.mem_of_getElem? (i := 20) rfl))) (by decide) (backOf (W := 0) (rm_upperFine l Z a0 hw [] (0 : Int32) c2 (1 : Int32) T60.heap n0 (own_uf0 _)) hZ (hw _ (List.mem_of_getElem? (i := 20) rfl)) (hw _ (List.mem_of_getElem? (i := 16) rfl)) (by decide) (by decide)) (g := (mkF m 257 #[.val (.int pp), .val (.long c0), .second, .val (.long c1), .second, .val (.long c2), .second, .val (.long c3), .second, .val (.int (2 : Int32)), .val (.ref b45), .val (.int lo), .unset] [(.long c2), (.int (0 : Int32))])) rfl (by rw [hml]; rfl) (argsL := [(.int (0 : Int32)), (.long c2)]) (rest := []) (lenOf pd_1 rfl) rfl (by show 2 * 0 + _ ≤ _; exact Nat.le_of_eq rfl) (hb hby at_257) (fun _ _ => ⟨rfl, e69, (by decide : ((((1 + 2) + 1) + 2) + 1) + 0 ≤ _), (by decide : ((((4 + 8) + 6) + 8) + 6) + 0 ≤ _)⟩)
              dsimp only [Pt.U, Pt.locs, Pt.cells, Pt.slots] at X71 l71 y71 z71 st71 hQ71
              rw [l71, y71, z71] at X71
              obtain ⟨rfl, Nq71, e71⟩ := hQ71
              have N71 := Fr.app N69 Nq71
              refine own_by st71 ?_
              show own_Go p e below s _ _ (T71.setTop (mkF m 260 #[.val (.int pp), .val (.long c0), .second, .val (.long c1), .second, .val (.long c2), .second, .val (.long c3), .second, .val (.int (2 : Int32)), .val (.ref b45), .val (.int lo), .unset] [(.int (1 : Int32))]))
              refine own_by (fun tz kz => XS.ifNo X71.here hx rfl (hb hby at_260) rfl ((if0 _ _).trans (feq (by decide : ¬ (1 : Int32) = (0 : Int32))).1) kz) ?_
              show own_Go p e below s _ _ (T71.setTop (mkF m 263 #[.val (.int pp), .val (.long c0), .second, .val (.long c1), .second, .val (.long c2), .second, .val (.long c3), .second, .val (.int (2 : Int32)), .val (.ref b45), .val (.int lo), .unset] []))
              refine own_by (fun tz kz => XS.iload X71.here hx rfl (hb hby at_263) rfl  kz) ?_
              show own_Go p e below s _ _ (T71.setTop (mkF m 265 #[.val (.int pp), .val (.long c0), .second, .val (.long c1), .second, .val (.long c2), .second, .val (.long c3), .second, .val (.int (2 : Int32)), .val (.ref b45), .val (.int lo), .unset] [(.int (2 : Int32))]))
              refine own_by (fun tz kz => XS.iconst X71.here hx rfl (hb hby at_265) kz) ?_
              show own_Go p e below s _ _ (T71.setTop (mkF m 266 #[.val (.int pp), .val (.long c0), .second, .val (.long c1), .second, .val (.long c2), .second, .val (.long c3), .second, .val (.int (2 : Int32)), .val (.ref b45), .val (.int lo), .unset] [(.int (3 : Int32)), (.int (2 : Int32))]))
              refine own_by (fun tz kz => XS.icmpYes X71.here hx rfl (pc0 := 266) (pc' := 273) rfl (hb hby at_266) rfl (flt (by decide : ¬ (3 : Int32) < (2 : Int32))).2.2.2 (by decide) (by decide) kz) ?_
              show own_Go p e below s _ _ (T71.setTop (mkF m 273 #[.val (.int pp), .val (.long c0), .second, .val (.long c1), .second, .val (.long c2), .second, .val (.long c3), .second, .val (.int (2 : Int32)), .val (.ref b45), .val (.int lo), .unset] []))
              refine own_by (fun tz kz => XS.iconst X71.here hx rfl (hb hby at_273) kz) ?_
              show own_Go p e below s _ _ (T71.setTop (mkF m 274 #[.val (.int pp), .val (.long c0), .second, .val (.long c1), .second, .val (.long c2), .second, .val (.long c3), .second, .val (.int (2 : Int32)), .val (.ref b45), .val (.int lo), .unset] [(.int (0 : Int32))]))
              refine own_by (fun tz kz => XS.lload X71.here hx rfl (hb hby at_274) rfl kz) ?_
              show own_Go p e below s _ _ (T71.setTop (mkF m 276 #[.val (.int pp), .val (.long c0), .second, .val (.long c1), .second, .val (.long c2), .second, .val (.long c3), .second, .val (.int (2 : Int32)), .val (.ref b45), .val (.int lo), .unset] [(.long c3), (.int (0 : Int32))]))
              obtain ⟨_, _, ⟨T72, L72, k72, n72⟩, -, X72, ⟨Lc72, hQ72, l72, y72, z72⟩, st72⟩ := Jvm.LawKit.callS X71 hx (y := (⟨"com/example/liftwise/liftwise/eval/arithmetic/SidesIsExactPinLaw", "upperFine", "(ZJ)Z"⟩ : MethodName)) hown (mvT hZ (hw _ (List.mem_of_getElem? (i := 18) rfl))) (mvT hZ (hw _ (List.mem_of_getElem? (i := 19) rfl))) (mvT hZ (hw _ (List.mem_of_getElem? (i := 16) rfl))) (mvT hZ (hw _ (List.mem_of_getElem? (i := 20) rfl))) (by decide) (backOf (W := 0) (rm_upperFine l Z a0 hw [] (0 : Int32) c3 (1 : Int32) T60.heap n0 (own_uf0 _)) hZ (hw _ (List.mem_of_getElem? (i := 20) rfl)) (hw _ (List.mem_of_getElem? (i := 16) rfl)) (by decide) (by decide)) (g := (mkF m 276 #[.val (.int pp), .val (.long c0), .second, .val (.long c1), .second, .val (.long c2), .second, .val (.long c3), .second, .val (.int (2 : Int32)), .val (.ref b45), .val (.int lo), .unset] [(.long c3), (.int (0 : Int32))])) rfl (by rw [hml]; rfl) (argsL := [(.int (0 : Int32)), (.long c3)]) (rest := []) (lenOf pd_1 rfl) rfl (by show 2 * 0 + _ ≤ _; exact Nat.le_of_eq rfl) (hb hby at_276) (fun _ _ => ⟨rfl, e71, (by decide : ((((1 + 2) + 1) + 2) + 1) + 0 ≤ _), (by decide : ((((4 + 8) + 6) + 8) + 6) + 0 ≤ _)⟩)
              dsimp only [Pt.U, Pt.locs, Pt.cells, Pt.slots] at X72 l72 y72 z72 st72 hQ72
              rw [l72, y72, z72] at X72
              obtain ⟨rfl, Nq72, e72⟩ := hQ72
              have N72 := Fr.app N71 Nq72
              refine own_by st72 ?_
              show own_Go p e below s _ _ (T72.setTop (mkF m 279 #[.val (.int pp), .val (.long c0), .second, .val (.long c1), .second, .val (.long c2), .second, .val (.long c3), .second, .val (.int (2 : Int32)), .val (.ref b45), .val (.int lo), .unset] [(.int (1 : Int32))]))
              refine own_by (fun tz kz => XS.ifNo X72.here hx rfl (hb hby at_279) rfl ((if0 _ _).trans (feq (by decide : ¬ (1 : Int32) = (0 : Int32))).1) kz) ?_
              show own_Go p e below s _ _ (T72.setTop (mkF m 282 #[.val (.int pp), .val (.long c0), .second, .val (.long c1), .second, .val (.long c2), .second, .val (.long c3), .second, .val (.int (2 : Int32)), .val (.ref b45), .val (.int lo), .unset] []))
              refine own_by (fun tz kz => XS.iconst X72.here hx rfl (hb hby at_282) kz) ?_
              show own_Go p e below s _ _ (T72.setTop (mkF m 283 #[.val (.int pp), .val (.long c0), .second, .val (.long c1), .second, .val (.long c2), .second, .val (.long c3), .second, .val (.int (2 : Int32)), .val (.ref b45), .val (.int lo), .unset] [(.int (1 : Int32))]))
              refine own_by (fun tz kz => XS.goto X72.here hx rfl (pc0 := 283) (pc' := 287) rfl (hb hby at_283) (by decide) (by decide) kz) ?_
              show own_Go p e below s _ _ (T72.setTop (mkF m 287 #[.val (.int pp), .val (.long c0), .second, .val (.long c1), .second, .val (.long c2), .second, .val (.long c3), .second, .val (.int (2 : Int32)), .val (.ref b45), .val (.int lo), .unset] [(.int (1 : Int32))]))
              refine own_by (fun tz kz => XS.istore X72.here hx rfl (hb hby at_287) rfl (l' := #[.val (.int pp), .val (.long c0), .second, .val (.long c1), .second, .val (.long c2), .second, .val (.long c3), .second, .val (.int (2 : Int32)), .val (.ref b45), .val (.int lo), .val (.int (1 : Int32))]) rfl kz) ?_
              exact J289 _ _ X72 e72 N72 _ (by simp [own_all, hc223_68, hc241_70])
        show own_Go p e below s _ _ (T60.setTop (mkF m 129 #[.val (.int pp), .val (.long c0), .second, .val (.long c1), .second, .val (.long c2), .second, .val (.long c3), .second, .val (.int (2 : Int32)), .val (.ref b45), .unset, .unset] []))
        refine own_by (fun tz kz => XS.iload X60.here hx rfl (hb hby at_129) rfl  kz) ?_
        show own_Go p e below s _ _ (T60.setTop (mkF m 131 #[.val (.int pp), .val (.long c0), .second, .val (.long c1), .second, .val (.long c2), .second, .val (.long c3), .second, .val (.int (2 : Int32)), .val (.ref b45), .unset, .unset] [(.int (2 : Int32))]))
        refine own_by (fun tz kz => XS.ifNo X60.here hx rfl (hb hby at_131) rfl ((if0 _ _).trans (tlt (by decide : (0 : Int32) < (2 : Int32))).2.2.2) kz) ?_
        show own_Go p e below s _ _ (T60.setTop (mkF m 134 #[.val (.int pp), .val (.long c0), .second, .val (.long c1), .second, .val (.long c2), .second, .val (.long c3), .second, .val (.int (2 : Int32)), .val (.ref b45), .unset, .unset] []))
        refine own_by (fun tz kz => XS.iconst X60.here hx rfl (hb hby at_134) kz) ?_
        show own_Go p e below s _ _ (T60.setTop (mkF m 135 #[.val (.int pp), .val (.long c0), .second, .val (.long c1), .second, .val (.long c2), .second, .val (.long c3), .second, .val (.int (2 : Int32)), .val (.ref b45), .unset, .unset] [(.int (1 : Int32))]))
        refine own_by (fun tz kz => XS.goto X60.here hx rfl (pc0 := 135) (pc' := 139) rfl (hb hby at_135) (by decide) (by decide) kz) ?_
        show own_Go p e below s _ _ (T60.setTop (mkF m 139 #[.val (.int pp), .val (.long c0), .second, .val (.long c1), .second, .val (.long c2), .second, .val (.long c3), .second, .val (.int (2 : Int32)), .val (.ref b45), .unset, .unset] [(.int (1 : Int32))]))
        refine own_by (fun tz kz => XS.lloadN X60.here hx rfl (hb hby at_139) rfl kz) ?_
        show own_Go p e below s _ _ (T60.setTop (mkF m 140 #[.val (.int pp), .val (.long c0), .second, .val (.long c1), .second, .val (.long c2), .second, .val (.long c3), .second, .val (.int (2 : Int32)), .val (.ref b45), .unset, .unset] [(.long c0), (.int (1 : Int32))]))
        obtain ⟨_, _, ⟨T73, L73, k73, n73⟩, -, X73, ⟨Lc73, hQ73, l73, y73, z73⟩, st73⟩ := Jvm.LawKit.callS X60 hx (y := (⟨"com/example/liftwise/liftwise/eval/arithmetic/SidesIsExactPinLaw", "lowerFine", "(ZJ)Z"⟩ : MethodName)) hown (mvT hZ (hw _ (List.mem_of_getElem? (i := 14) rfl))) (mvT hZ (hw _ (List.mem_of_getElem? (i := 15) rfl))) (mvT hZ (hw _ (List.mem_of_getElem? (i := 16) rfl))) (mvT hZ (hw _ (List.mem_of_getElem? (i := 17) rfl))) (by decide) (backOf (W := 0) (rm_lowerFine l Z a0 hw [] (1 : Int32) c0 LF0 T60.heap n0 hLF0) hZ (hw _ (List.mem_of_getElem? (i := 17) rfl)) (hw _ (List.mem_of_getElem? (i := 16) rfl)) (by decide) (by decide)) (g := (mkF m 140 #[.val (.int pp), .val (.long c0), .second, .val (.long c1), .second, .val (.long c2), .second, .val (.long c3), .second, .val (.int (2 : Int32)), .val (.ref b45), .unset, .unset] [(.long c0), (.int (1 : Int32))])) rfl (by rw [hml]; rfl) (argsL := [(.int (1 : Int32)), (.long c0)]) (rest := []) (lenOf pd_1 rfl) rfl (by show 2 * 0 + _ ≤ _; exact Nat.le_of_eq rfl) (hb hby at_140) (fun _ _ => ⟨rfl, e60, (by decide : ((((1 + 2) + 1) + 2) + 1) + 0 ≤ _), (by decide : ((((4 + 8) + 6) + 8) + 6) + 0 ≤ _)⟩)
        dsimp only [Pt.U, Pt.locs, Pt.cells, Pt.slots] at X73 l73 y73 z73 st73 hQ73
        rw [l73, y73, z73] at X73
        obtain ⟨rfl, Nq73, e73⟩ := hQ73
        have N73 := Fr.app N60 Nq73
        refine own_by st73 ?_
        show own_Go p e below s _ _ (T73.setTop (mkF m 143 #[.val (.int pp), .val (.long c0), .second, .val (.long c1), .second, .val (.long c2), .second, .val (.long c3), .second, .val (.int (2 : Int32)), .val (.ref b45), .unset, .unset] [(.int LF0)]))
        by_cases hc143_74 : LF0 = (0 : Int32)
        · refine own_by (fun tz kz => XS.ifYes X73.here hx rfl (pc0 := 143) (pc' := 206) rfl (hb hby at_143) rfl ((if0 _ _).trans (teq hc143_74).1) (by decide) (by decide) kz) ?_
          show own_Go p e below s _ _ (T73.setTop (mkF m 206 #[.val (.int pp), .val (.long c0), .second, .val (.long c1), .second, .val (.long c2), .second, .val (.long c3), .second, .val (.int (2 : Int32)), .val (.ref b45), .unset, .unset] []))
          refine own_by (fun tz kz => XS.iconst X73.here hx rfl (hb hby at_206) kz) ?_
          show own_Go p e below s _ _ (T73.setTop (mkF m 207 #[.val (.int pp), .val (.long c0), .second, .val (.long c1), .second, .val (.long c2), .second, .val (.long c3), .second, .val (.int (2 : Int32)), .val (.ref b45), .unset, .unset] [(.int (0 : Int32))]))
          refine own_by (fun tz kz => XS.istore X73.here hx rfl (hb hby at_207) rfl (l' := #[.val (.int pp), .val (.long c0), .second, .val (.long c1), .second, .val (.long c2), .second, .val (.long c3), .second, .val (.int (2 : Int32)), .val (.ref b45), .val (.int (0 : Int32)), .unset]) rfl kz) ?_
          exact J209 _ _ X73 e73 N73 _ (by simp [own_all, hc143_74])
        · refine own_by (fun tz kz => XS.ifNo X73.here hx rfl (hb hby at_143) rfl ((if0 _ _).trans (feq hc143_74).1) kz) ?_
          show own_Go p e below s _ _ (T73.setTop (mkF m 146 #[.val (.int pp), .val (.long c0), .second, .val (.long c1), .second, .val (.long c2), .second, .val (.long c3), .second, .val (.int (2 : Int32)), .val (.ref b45), .unset, .unset] []))
          refine own_by (fun tz kz => XS.iload X73.here hx rfl (hb hby at_146) rfl  kz) ?_
          show own_Go p e below s _ _ (T73.setTop (mkF m 148 #[.val (.int pp), .val (.long c0), .second, .val (.long c1), .second, .val (.long c2), .second, .val (.long c3), .second, .val (.int (2 : Int32)), .val (.ref b45), .unset, .unset] [(.int (2 : Int32))]))
          refine own_by (fun tz kz => XS.iconst X73.here hx rfl (hb hby at_148) kz) ?_
          show own_Go p e below s _ _ (T73.setTop (mkF m 149 #[.val (.int pp), .val (.long c0), .second, .val (.long c1), .second, .val (.long c2), .second, .val (.long c3), .second, .val (.int (2 : Int32)), .val (.ref b45), .unset, .unset] [(.int (1 : Int32)), (.int (2 : Int32))]))
          refine own_by (fun tz kz => XS.icmpNo X73.here hx rfl (hb hby at_149) rfl (tlt (by decide : (1 : Int32) < (2 : Int32))).2.2.2 kz) ?_
          show own_Go p e below s _ _ (T73.setTop (mkF m 152 #[.val (.int pp), .val (.long c0), .second, .val (.long c1), .second, .val (.long c2), .second, .val (.long c3), .second, .val (.int (2 : Int32)), .val (.ref b45), .unset, .unset] []))
          refine own_by (fun tz kz => XS.iconst X73.here hx rfl (hb hby at_152) kz) ?_
          show own_Go p e below s _ _ (T73.setTop (mkF m 153 #[.val (.int pp), .val (.long c0), .second, .val (.long c1), .second, .val (.long c2), .second, .val (.long c3), .second, .val (.int (2 : Int32)), .val (.ref b45), .unset, .unset] [(.int (1 : Int32))]))
          refine own_by (fun tz kz => XS.goto X73.here hx rfl (pc0 := 153) (pc' := 157) rfl (hb hby at_153) (by decide) (by decide) kz) ?_
          show own_Go p e below s _ _ (T73.setTop (mkF m 157 #[.val (.int pp), .val (.long c0), .second, .val (.long c1), .second, .val (.long c2), .second, .val (.long c3), .second, .val (.int (2 : Int32)), .val (.ref b45), .unset, .unset] [(.int (1 : Int32))]))
          refine own_by (fun tz kz => XS.lloadN X73.here hx rfl (hb hby at_157) rfl kz) ?_
          show own_Go p e below s _ _ (T73.setTop (mkF m 158 #[.val (.int pp), .val (.long c0), .second, .val (.long c1), .second, .val (.long c2), .second, .val (.long c3), .second, .val (.int (2 : Int32)), .val (.ref b45), .unset, .unset] [(.long c1), (.int (1 : Int32))]))
          obtain ⟨_, _, ⟨T75, L75, k75, n75⟩, -, X75, ⟨Lc75, hQ75, l75, y75, z75⟩, st75⟩ := Jvm.LawKit.callS X73 hx (y := (⟨"com/example/liftwise/liftwise/eval/arithmetic/SidesIsExactPinLaw", "lowerFine", "(ZJ)Z"⟩ : MethodName)) hown (mvT hZ (hw _ (List.mem_of_getElem? (i := 14) rfl))) (mvT hZ (hw _ (List.mem_of_getElem? (i := 15) rfl))) (mvT hZ (hw _ (List.mem_of_getElem? (i := 16) rfl))) (mvT hZ (hw _ (List.mem_of_getElem? (i := 17) rfl))) (by decide) (backOf (W := 0) (rm_lowerFine l Z a0 hw [] (1 : Int32) c1 LF1 T60.heap n0 hLF1) hZ (hw _ (List.mem_of_getElem? (i := 17) rfl)) (hw _ (List.mem_of_getElem? (i := 16) rfl)) (by decide) (by decide)) (g := (mkF m 158 #[.val (.int pp), .val (.long c0), .second, .val (.long c1), .second, .val (.long c2), .second, .val (.long c3), .second, .val (.int (2 : Int32)), .val (.ref b45), .unset, .unset] [(.long c1), (.int (1 : Int32))])) rfl (by rw [hml]; rfl) (argsL := [(.int (1 : Int32)), (.long c1)]) (rest := []) (lenOf pd_1 rfl) rfl (by show 2 * 0 + _ ≤ _; exact Nat.le_of_eq rfl) (hb hby at_158) (fun _ _ => ⟨rfl, e73, (by decide : ((((1 + 2) + 1) + 2) + 1) + 0 ≤ _), (by decide : ((((4 + 8) + 6) + 8) + 6) + 0 ≤ _)⟩)
          dsimp only [Pt.U, Pt.locs, Pt.cells, Pt.slots] at X75 l75 y75 z75 st75 hQ75
          rw [l75, y75, z75] at X75
          obtain ⟨rfl, Nq75, e75⟩ := hQ75
          have N75 := Fr.app N73 Nq75
          refine own_by st75 ?_
          show own_Go p e below s _ _ (T75.setTop (mkF m 161 #[.val (.int pp), .val (.long c0), .second, .val (.long c1), .second, .val (.long c2), .second, .val (.long c3), .second, .val (.int (2 : Int32)), .val (.ref b45), .unset, .unset] [(.int LF1)]))
          by_cases hc161_76 : LF1 = (0 : Int32)
          · refine own_by (fun tz kz => XS.ifYes X75.here hx rfl (pc0 := 161) (pc' := 206) rfl (hb hby at_161) rfl ((if0 _ _).trans (teq hc161_76).1) (by decide) (by decide) kz) ?_
            show own_Go p e below s _ _ (T75.setTop (mkF m 206 #[.val (.int pp), .val (.long c0), .second, .val (.long c1), .second, .val (.long c2), .second, .val (.long c3), .second, .val (.int (2 : Int32)), .val (.ref b45), .unset, .unset] []))
            refine own_by (fun tz kz => XS.iconst X75.here hx rfl (hb hby at_206) kz) ?_
            show own_Go p e below s _ _ (T75.setTop (mkF m 207 #[.val (.int pp), .val (.long c0), .second, .val (.long c1), .second, .val (.long c2), .second, .val (.long c3), .second, .val (.int (2 : Int32)), .val (.ref b45), .unset, .unset] [(.int (0 : Int32))]))
            refine own_by (fun tz kz => XS.istore X75.here hx rfl (hb hby at_207) rfl (l' := #[.val (.int pp), .val (.long c0), .second, .val (.long c1), .second, .val (.long c2), .second, .val (.long c3), .second, .val (.int (2 : Int32)), .val (.ref b45), .val (.int (0 : Int32)), .unset]) rfl kz) ?_
            exact J209 _ _ X75 e75 N75 _ (by simp [own_all, hc143_74, hc161_76])
          · refine own_by (fun tz kz => XS.ifNo X75.here hx rfl (hb hby at_161) rfl ((if0 _ _).trans (feq hc161_76).1) kz) ?_
            show own_Go p e below s _ _ (T75.setTop (mkF m 164 #[.val (.int pp), .val (.long c0), .second, .val (.long c1), .second, .val (.long c2), .second, .val (.long c3), .second, .val (.int (2 : Int32)), .val (.ref b45), .unset, .unset] []))
            refine own_by (fun tz kz => XS.iload X75.here hx rfl (hb hby at_164) rfl  kz) ?_
            show own_Go p e below s _ _ (T75.setTop (mkF m 166 #[.val (.int pp), .val (.long c0), .second, .val (.long c1), .second, .val (.long c2), .second, .val (.long c3), .second, .val (.int (2 : Int32)), .val (.ref b45), .unset, .unset] [(.int (2 : Int32))]))
            refine own_by (fun tz kz => XS.iconst X75.here hx rfl (hb hby at_166) kz) ?_
            show own_Go p e below s _ _ (T75.setTop (mkF m 167 #[.val (.int pp), .val (.long c0), .second, .val (.long c1), .second, .val (.long c2), .second, .val (.long c3), .second, .val (.int (2 : Int32)), .val (.ref b45), .unset, .unset] [(.int (2 : Int32)), (.int (2 : Int32))]))
            refine own_by (fun tz kz => XS.icmpYes X75.here hx rfl (pc0 := 167) (pc' := 174) rfl (hb hby at_167) rfl (flt (by decide : ¬ (2 : Int32) < (2 : Int32))).2.2.2 (by decide) (by decide) kz) ?_
            show own_Go p e below s _ _ (T75.setTop (mkF m 174 #[.val (.int pp), .val (.long c0), .second, .val (.long c1), .second, .val (.long c2), .second, .val (.long c3), .second, .val (.int (2 : Int32)), .val (.ref b45), .unset, .unset] []))
            refine own_by (fun tz kz => XS.iconst X75.here hx rfl (hb hby at_174) kz) ?_
            show own_Go p e below s _ _ (T75.setTop (mkF m 175 #[.val (.int pp), .val (.long c0), .second, .val (.long c1), .second, .val (.long c2), .second, .val (.long c3), .second, .val (.int (2 : Int32)), .val (.ref b45), .unset, .unset] [(.int (0 : Int32))]))
            refine own_by (fun tz kz => XS.lload X75.here hx rfl (hb hby at_175) rfl kz) ?_
            show own_Go p e below s _ _ (T75.setTop (mkF m 177 #[.val (.int pp), .val (.long c0), .second, .val (.long c1), .second, .val (.long c2), .second, .val (.long c3), .second, .val (.int (2 : Int32)), .val (.ref b45), .unset, .unset] [(.long c2), (.int (0 : Int32))]))
            obtain ⟨_, _, ⟨T77, L77, k77, n77⟩, -, X77, ⟨Lc77, hQ77, l77, y77, z77⟩, st77⟩ := Jvm.LawKit.callS X75 hx (y := (⟨"com/example/liftwise/liftwise/eval/arithmetic/SidesIsExactPinLaw", "lowerFine", "(ZJ)Z"⟩ : MethodName)) hown (mvT hZ (hw _ (List.mem_of_getElem? (i := 14) rfl))) (mvT hZ (hw _ (List.mem_of_getElem? (i := 15) rfl))) (mvT hZ (hw _ (List.mem_of_getElem? (i := 16) rfl))) (mvT hZ (hw _ (List.mem_of_getElem? (i := 17) rfl))) (by decide) (backOf (W := 0) (rm_lowerFine l Z a0 hw [] (0 : Int32) c2 (1 : Int32) T60.heap n0 (own_lf0 _)) hZ (hw _ (List.mem_of_getElem? (i := 17) rfl)) (hw _ (List.mem_of_getElem? (i := 16) rfl)) (by decide) (by decide)) (g := (mkF m 177 #[.val (.int pp), .val (.long c0), .second, .val (.long c1), .second, .val (.long c2), .second, .val (.long c3), .second, .val (.int (2 : Int32)), .val (.ref b45), .unset, .unset] [(.long c2), (.int (0 : Int32))])) rfl (by rw [hml]; rfl) (argsL := [(.int (0 : Int32)), (.long c2)]) (rest := []) (lenOf pd_1 rfl) rfl (by show 2 * 0 + _ ≤ _; exact Nat.le_of_eq rfl) (hb hby at_177) (fun _ _ => ⟨rfl, e75, (by decide : ((((1 + 2) + 1) + 2) + 1) + 0 ≤ _), (by decide : ((((4 + 8) + 6) + 8) + 6) + 0 ≤ _)⟩)
            dsimp only [Pt.U, Pt.locs, Pt.cells, Pt.slots] at X77 l77 y77 z77 st77 hQ77
            rw [l77, y77, z77] at X77
            obtain ⟨rfl, Nq77, e77⟩ := hQ77
            have N77 := Fr.app N75 Nq77
            refine own_by st77 ?_
            show own_Go p e below s _ _ (T77.setTop (mkF m 180 #[.val (.int pp), .val (.long c0), .second, .val (.long c1), .second, .val (.long c2), .second, .val (.long c3), .second, .val (.int (2 : Int32)), .val (.ref b45), .unset, .unset] [(.int (1 : Int32))]))
            refine own_by (fun tz kz => XS.ifNo X77.here hx rfl (hb hby at_180) rfl ((if0 _ _).trans (feq (by decide : ¬ (1 : Int32) = (0 : Int32))).1) kz) ?_
            show own_Go p e below s _ _ (T77.setTop (mkF m 183 #[.val (.int pp), .val (.long c0), .second, .val (.long c1), .second, .val (.long c2), .second, .val (.long c3), .second, .val (.int (2 : Int32)), .val (.ref b45), .unset, .unset] []))
            refine own_by (fun tz kz => XS.iload X77.here hx rfl (hb hby at_183) rfl  kz) ?_
            show own_Go p e below s _ _ (T77.setTop (mkF m 185 #[.val (.int pp), .val (.long c0), .second, .val (.long c1), .second, .val (.long c2), .second, .val (.long c3), .second, .val (.int (2 : Int32)), .val (.ref b45), .unset, .unset] [(.int (2 : Int32))]))
            refine own_by (fun tz kz => XS.iconst X77.here hx rfl (hb hby at_185) kz) ?_
            show own_Go p e below s _ _ (T77.setTop (mkF m 186 #[.val (.int pp), .val (.long c0), .second, .val (.long c1), .second, .val (.long c2), .second, .val (.long c3), .second, .val (.int (2 : Int32)), .val (.ref b45), .unset, .unset] [(.int (3 : Int32)), (.int (2 : Int32))]))
            refine own_by (fun tz kz => XS.icmpYes X77.here hx rfl (pc0 := 186) (pc' := 193) rfl (hb hby at_186) rfl (flt (by decide : ¬ (3 : Int32) < (2 : Int32))).2.2.2 (by decide) (by decide) kz) ?_
            show own_Go p e below s _ _ (T77.setTop (mkF m 193 #[.val (.int pp), .val (.long c0), .second, .val (.long c1), .second, .val (.long c2), .second, .val (.long c3), .second, .val (.int (2 : Int32)), .val (.ref b45), .unset, .unset] []))
            refine own_by (fun tz kz => XS.iconst X77.here hx rfl (hb hby at_193) kz) ?_
            show own_Go p e below s _ _ (T77.setTop (mkF m 194 #[.val (.int pp), .val (.long c0), .second, .val (.long c1), .second, .val (.long c2), .second, .val (.long c3), .second, .val (.int (2 : Int32)), .val (.ref b45), .unset, .unset] [(.int (0 : Int32))]))
            refine own_by (fun tz kz => XS.lload X77.here hx rfl (hb hby at_194) rfl kz) ?_
            show own_Go p e below s _ _ (T77.setTop (mkF m 196 #[.val (.int pp), .val (.long c0), .second, .val (.long c1), .second, .val (.long c2), .second, .val (.long c3), .second, .val (.int (2 : Int32)), .val (.ref b45), .unset, .unset] [(.long c3), (.int (0 : Int32))]))
            obtain ⟨_, _, ⟨T78, L78, k78, n78⟩, -, X78, ⟨Lc78, hQ78, l78, y78, z78⟩, st78⟩ := Jvm.LawKit.callS X77 hx (y := (⟨"com/example/liftwise/liftwise/eval/arithmetic/SidesIsExactPinLaw", "lowerFine", "(ZJ)Z"⟩ : MethodName)) hown (mvT hZ (hw _ (List.mem_of_getElem? (i := 14) rfl))) (mvT hZ (hw _ (List.mem_of_getElem? (i := 15) rfl))) (mvT hZ (hw _ (List.mem_of_getElem? (i := 16) rfl))) (mvT hZ (hw _ (List.mem_of_getElem? (i := 17) rfl))) (by decide) (backOf (W := 0) (rm_lowerFine l Z a0 hw [] (0 : Int32) c3 (1 : Int32) T60.heap n0 (own_lf0 _)) hZ (hw _ (List.mem_of_getElem? (i := 17) rfl)) (hw _ (List.mem_of_getElem? (i := 16) rfl)) (by decide) (by decide)) (g := (mkF m 196 #[.val (.int pp), .val (.long c0), .second, .val (.long c1), .second, .val (.long c2), .second, .val (.long c3), .second, .val (.int (2 : Int32)), .val (.ref b45), .unset, .unset] [(.long c3), (.int (0 : Int32))])) rfl (by rw [hml]; rfl) (argsL := [(.int (0 : Int32)), (.long c3)]) (rest := []) (lenOf pd_1 rfl) rfl (by show 2 * 0 + _ ≤ _; exact Nat.le_of_eq rfl) (hb hby at_196) (fun _ _ => ⟨rfl, e77, (by decide : ((((1 + 2) + 1) + 2) + 1) + 0 ≤ _), (by decide : ((((4 + 8) + 6) + 8) + 6) + 0 ≤ _)⟩)
            dsimp only [Pt.U, Pt.locs, Pt.cells, Pt.slots] at X78 l78 y78 z78 st78 hQ78
            rw [l78, y78, z78] at X78
            obtain ⟨rfl, Nq78, e78⟩ := hQ78
            have N78 := Fr.app N77 Nq78
            refine own_by st78 ?_
            show own_Go p e below s _ _ (T78.setTop (mkF m 199 #[.val (.int pp), .val (.long c0), .second, .val (.long c1), .second, .val (.long c2), .second, .val (.long c3), .second, .val (.int (2 : Int32)), .val (.ref b45), .unset, .unset] [(.int (1 : Int32))]))
            refine own_by (fun tz kz => XS.ifNo X78.here hx rfl (hb hby at_199) rfl ((if0 _ _).trans (feq (by decide : ¬ (1 : Int32) = (0 : Int32))).1) kz) ?_
            show own_Go p e below s _ _ (T78.setTop (mkF m 202 #[.val (.int pp), .val (.long c0), .second, .val (.long c1), .second, .val (.long c2), .second, .val (.long c3), .second, .val (.int (2 : Int32)), .val (.ref b45), .unset, .unset] []))
            refine own_by (fun tz kz => XS.iconst X78.here hx rfl (hb hby at_202) kz) ?_
            show own_Go p e below s _ _ (T78.setTop (mkF m 203 #[.val (.int pp), .val (.long c0), .second, .val (.long c1), .second, .val (.long c2), .second, .val (.long c3), .second, .val (.int (2 : Int32)), .val (.ref b45), .unset, .unset] [(.int (1 : Int32))]))
            refine own_by (fun tz kz => XS.goto X78.here hx rfl (pc0 := 203) (pc' := 207) rfl (hb hby at_203) (by decide) (by decide) kz) ?_
            show own_Go p e below s _ _ (T78.setTop (mkF m 207 #[.val (.int pp), .val (.long c0), .second, .val (.long c1), .second, .val (.long c2), .second, .val (.long c3), .second, .val (.int (2 : Int32)), .val (.ref b45), .unset, .unset] [(.int (1 : Int32))]))
            refine own_by (fun tz kz => XS.istore X78.here hx rfl (hb hby at_207) rfl (l' := #[.val (.int pp), .val (.long c0), .second, .val (.long c1), .second, .val (.long c2), .second, .val (.long c3), .second, .val (.int (2 : Int32)), .val (.ref b45), .val (.int (1 : Int32)), .unset]) rfl kz) ?_
            exact J209 _ _ X78 e78 N78 _ (by simp [own_all, hc143_74, hc161_76])
  · show own_Go p e below s _ _ (s₁.setTop (mkF m 8 #[.val (.int pp), .val (.long c0), .second, .val (.long c1), .second, .val (.long c2), .second, .val (.long c3), .second, .val (.int (3 : Int32)), .unset, .unset, .unset] []))
    refine own_by (fun tz kz => XS.iload X0.here hx rfl (hb hby at_8) rfl  kz) ?_
    show own_Go p e below s _ _ (s₁.setTop (mkF m 10 #[.val (.int pp), .val (.long c0), .second, .val (.long c1), .second, .val (.long c2), .second, .val (.long c3), .second, .val (.int (3 : Int32)), .unset, .unset, .unset] [(.int (3 : Int32))]))
    refine own_by (fun tz kz => XS.ifNo X0.here hx rfl (hb hby at_10) rfl ((if0 _ _).trans (tlt (by decide : (0 : Int32) < (3 : Int32))).2.2.2) kz) ?_
    show own_Go p e below s _ _ (s₁.setTop (mkF m 13 #[.val (.int pp), .val (.long c0), .second, .val (.long c1), .second, .val (.long c2), .second, .val (.long c3), .second, .val (.int (3 : Int32)), .unset, .unset, .unset] []))
    refine own_by (fun tz kz => XS.lloadN X0.here hx rfl (hb hby at_13) rfl kz) ?_
    show own_Go p e below s _ _ (s₁.setTop (mkF m 14 #[.val (.int pp), .val (.long c0), .second, .val (.long c1), .second, .val (.long c2), .second, .val (.long c3), .second, .val (.int (3 : Int32)), .unset, .unset, .unset] [(.long c0)]))
    refine own_by (fun tz kz => XS.lconst X0.here hx rfl (hb hby at_14) kz) ?_
    show own_Go p e below s _ _ (s₁.setTop (mkF m 15 #[.val (.int pp), .val (.long c0), .second, .val (.long c1), .second, .val (.long c2), .second, .val (.long c3), .second, .val (.int (3 : Int32)), .unset, .unset, .unset] [(.long (0 : Int64)), (.long c0)]))
    refine own_by (fun tz kz => XS.lcmp X0.here hx rfl (hb hby at_15) rfl kz) ?_
    show own_Go p e below s _ _ (s₁.setTop (mkF m 16 #[.val (.int pp), .val (.long c0), .second, .val (.long c1), .second, .val (.long c2), .second, .val (.long c3), .second, .val (.int (3 : Int32)), .unset, .unset, .unset] [(.int (lcmpW c0 (0 : Int64)))]))
    by_cases hc16_79 : c0 = (0 : Int64)
    · refine own_by (fun tz kz => XS.ifYes X0.here hx rfl (pc0 := 16) (pc' := 57) rfl (hb hby at_16) rfl ((if0 _ _).trans (teq ((lw_eq c0 (0 : Int64)).mpr hc16_79)).1) (by decide) (by decide) kz) ?_
      show own_Go p e below s _ _ (s₁.setTop (mkF m 57 #[.val (.int pp), .val (.long c0), .second, .val (.long c1), .second, .val (.long c2), .second, .val (.long c3), .second, .val (.int (3 : Int32)), .unset, .unset, .unset] []))
      refine own_by (fun tz kz => XS.iconst X0.here hx rfl (hb hby at_57) kz) ?_
      show own_Go p e below s _ _ (s₁.setTop (mkF m 58 #[.val (.int pp), .val (.long c0), .second, .val (.long c1), .second, .val (.long c2), .second, .val (.long c3), .second, .val (.int (3 : Int32)), .unset, .unset, .unset] [(.int (1 : Int32))]))
      refine own_retI X0 hx hlk (t := .boolean) hret (by simp) rfl (hb hby at_58) ?_ (by decide) (by decide)
      exact ⟨rfl, N0⟩
    · refine own_by (fun tz kz => XS.ifNo X0.here hx rfl (hb hby at_16) rfl ((if0 _ _).trans (feq (fun q => hc16_79 ((lw_eq c0 (0 : Int64)).mp q))).1) kz) ?_
      show own_Go p e below s _ _ (s₁.setTop (mkF m 19 #[.val (.int pp), .val (.long c0), .second, .val (.long c1), .second, .val (.long c2), .second, .val (.long c3), .second, .val (.int (3 : Int32)), .unset, .unset, .unset] []))
      refine own_by (fun tz kz => XS.iload X0.here hx rfl (hb hby at_19) rfl  kz) ?_
      show own_Go p e below s _ _ (s₁.setTop (mkF m 21 #[.val (.int pp), .val (.long c0), .second, .val (.long c1), .second, .val (.long c2), .second, .val (.long c3), .second, .val (.int (3 : Int32)), .unset, .unset, .unset] [(.int (3 : Int32))]))
      refine own_by (fun tz kz => XS.iconst X0.here hx rfl (hb hby at_21) kz) ?_
      show own_Go p e below s _ _ (s₁.setTop (mkF m 22 #[.val (.int pp), .val (.long c0), .second, .val (.long c1), .second, .val (.long c2), .second, .val (.long c3), .second, .val (.int (3 : Int32)), .unset, .unset, .unset] [(.int (1 : Int32)), (.int (3 : Int32))]))
      refine own_by (fun tz kz => XS.icmpNo X0.here hx rfl (hb hby at_22) rfl (tlt (by decide : (1 : Int32) < (3 : Int32))).2.2.2 kz) ?_
      show own_Go p e below s _ _ (s₁.setTop (mkF m 25 #[.val (.int pp), .val (.long c0), .second, .val (.long c1), .second, .val (.long c2), .second, .val (.long c3), .second, .val (.int (3 : Int32)), .unset, .unset, .unset] []))
      refine own_by (fun tz kz => XS.lloadN X0.here hx rfl (hb hby at_25) rfl kz) ?_
      show own_Go p e below s _ _ (s₁.setTop (mkF m 26 #[.val (.int pp), .val (.long c0), .second, .val (.long c1), .second, .val (.long c2), .second, .val (.long c3), .second, .val (.int (3 : Int32)), .unset, .unset, .unset] [(.long c1)]))
      refine own_by (fun tz kz => XS.lconst X0.here hx rfl (hb hby at_26) kz) ?_
      show own_Go p e below s _ _ (s₁.setTop (mkF m 27 #[.val (.int pp), .val (.long c0), .second, .val (.long c1), .second, .val (.long c2), .second, .val (.long c3), .second, .val (.int (3 : Int32)), .unset, .unset, .unset] [(.long (0 : Int64)), (.long c1)]))
      refine own_by (fun tz kz => XS.lcmp X0.here hx rfl (hb hby at_27) rfl kz) ?_
      show own_Go p e below s _ _ (s₁.setTop (mkF m 28 #[.val (.int pp), .val (.long c0), .second, .val (.long c1), .second, .val (.long c2), .second, .val (.long c3), .second, .val (.int (3 : Int32)), .unset, .unset, .unset] [(.int (lcmpW c1 (0 : Int64)))]))
      by_cases hc28_80 : c1 = (0 : Int64)
      · refine own_by (fun tz kz => XS.ifYes X0.here hx rfl (pc0 := 28) (pc' := 57) rfl (hb hby at_28) rfl ((if0 _ _).trans (teq ((lw_eq c1 (0 : Int64)).mpr hc28_80)).1) (by decide) (by decide) kz) ?_
        show own_Go p e below s _ _ (s₁.setTop (mkF m 57 #[.val (.int pp), .val (.long c0), .second, .val (.long c1), .second, .val (.long c2), .second, .val (.long c3), .second, .val (.int (3 : Int32)), .unset, .unset, .unset] []))
        refine own_by (fun tz kz => XS.iconst X0.here hx rfl (hb hby at_57) kz) ?_
        show own_Go p e below s _ _ (s₁.setTop (mkF m 58 #[.val (.int pp), .val (.long c0), .second, .val (.long c1), .second, .val (.long c2), .second, .val (.long c3), .second, .val (.int (3 : Int32)), .unset, .unset, .unset] [(.int (1 : Int32))]))
        refine own_retI X0 hx hlk (t := .boolean) hret (by simp) rfl (hb hby at_58) ?_ (by decide) (by decide)
        exact ⟨rfl, N0⟩
      · refine own_by (fun tz kz => XS.ifNo X0.here hx rfl (hb hby at_28) rfl ((if0 _ _).trans (feq (fun q => hc28_80 ((lw_eq c1 (0 : Int64)).mp q))).1) kz) ?_
        show own_Go p e below s _ _ (s₁.setTop (mkF m 31 #[.val (.int pp), .val (.long c0), .second, .val (.long c1), .second, .val (.long c2), .second, .val (.long c3), .second, .val (.int (3 : Int32)), .unset, .unset, .unset] []))
        refine own_by (fun tz kz => XS.iload X0.here hx rfl (hb hby at_31) rfl  kz) ?_
        show own_Go p e below s _ _ (s₁.setTop (mkF m 33 #[.val (.int pp), .val (.long c0), .second, .val (.long c1), .second, .val (.long c2), .second, .val (.long c3), .second, .val (.int (3 : Int32)), .unset, .unset, .unset] [(.int (3 : Int32))]))
        refine own_by (fun tz kz => XS.iconst X0.here hx rfl (hb hby at_33) kz) ?_
        show own_Go p e below s _ _ (s₁.setTop (mkF m 34 #[.val (.int pp), .val (.long c0), .second, .val (.long c1), .second, .val (.long c2), .second, .val (.long c3), .second, .val (.int (3 : Int32)), .unset, .unset, .unset] [(.int (2 : Int32)), (.int (3 : Int32))]))
        refine own_by (fun tz kz => XS.icmpNo X0.here hx rfl (hb hby at_34) rfl (tlt (by decide : (2 : Int32) < (3 : Int32))).2.2.2 kz) ?_
        show own_Go p e below s _ _ (s₁.setTop (mkF m 37 #[.val (.int pp), .val (.long c0), .second, .val (.long c1), .second, .val (.long c2), .second, .val (.long c3), .second, .val (.int (3 : Int32)), .unset, .unset, .unset] []))
        refine own_by (fun tz kz => XS.lload X0.here hx rfl (hb hby at_37) rfl kz) ?_
        show own_Go p e below s _ _ (s₁.setTop (mkF m 39 #[.val (.int pp), .val (.long c0), .second, .val (.long c1), .second, .val (.long c2), .second, .val (.long c3), .second, .val (.int (3 : Int32)), .unset, .unset, .unset] [(.long c2)]))
        refine own_by (fun tz kz => XS.lconst X0.here hx rfl (hb hby at_39) kz) ?_
        show own_Go p e below s _ _ (s₁.setTop (mkF m 40 #[.val (.int pp), .val (.long c0), .second, .val (.long c1), .second, .val (.long c2), .second, .val (.long c3), .second, .val (.int (3 : Int32)), .unset, .unset, .unset] [(.long (0 : Int64)), (.long c2)]))
        refine own_by (fun tz kz => XS.lcmp X0.here hx rfl (hb hby at_40) rfl kz) ?_
        show own_Go p e below s _ _ (s₁.setTop (mkF m 41 #[.val (.int pp), .val (.long c0), .second, .val (.long c1), .second, .val (.long c2), .second, .val (.long c3), .second, .val (.int (3 : Int32)), .unset, .unset, .unset] [(.int (lcmpW c2 (0 : Int64)))]))
        by_cases hc41_81 : c2 = (0 : Int64)
        · refine own_by (fun tz kz => XS.ifYes X0.here hx rfl (pc0 := 41) (pc' := 57) rfl (hb hby at_41) rfl ((if0 _ _).trans (teq ((lw_eq c2 (0 : Int64)).mpr hc41_81)).1) (by decide) (by decide) kz) ?_
          show own_Go p e below s _ _ (s₁.setTop (mkF m 57 #[.val (.int pp), .val (.long c0), .second, .val (.long c1), .second, .val (.long c2), .second, .val (.long c3), .second, .val (.int (3 : Int32)), .unset, .unset, .unset] []))
          refine own_by (fun tz kz => XS.iconst X0.here hx rfl (hb hby at_57) kz) ?_
          show own_Go p e below s _ _ (s₁.setTop (mkF m 58 #[.val (.int pp), .val (.long c0), .second, .val (.long c1), .second, .val (.long c2), .second, .val (.long c3), .second, .val (.int (3 : Int32)), .unset, .unset, .unset] [(.int (1 : Int32))]))
          refine own_retI X0 hx hlk (t := .boolean) hret (by simp) rfl (hb hby at_58) ?_ (by decide) (by decide)
          exact ⟨rfl, N0⟩
        · refine own_by (fun tz kz => XS.ifNo X0.here hx rfl (hb hby at_41) rfl ((if0 _ _).trans (feq (fun q => hc41_81 ((lw_eq c2 (0 : Int64)).mp q))).1) kz) ?_
          show own_Go p e below s _ _ (s₁.setTop (mkF m 44 #[.val (.int pp), .val (.long c0), .second, .val (.long c1), .second, .val (.long c2), .second, .val (.long c3), .second, .val (.int (3 : Int32)), .unset, .unset, .unset] []))
          refine own_by (fun tz kz => XS.iload X0.here hx rfl (hb hby at_44) rfl  kz) ?_
          show own_Go p e below s _ _ (s₁.setTop (mkF m 46 #[.val (.int pp), .val (.long c0), .second, .val (.long c1), .second, .val (.long c2), .second, .val (.long c3), .second, .val (.int (3 : Int32)), .unset, .unset, .unset] [(.int (3 : Int32))]))
          refine own_by (fun tz kz => XS.iconst X0.here hx rfl (hb hby at_46) kz) ?_
          show own_Go p e below s _ _ (s₁.setTop (mkF m 47 #[.val (.int pp), .val (.long c0), .second, .val (.long c1), .second, .val (.long c2), .second, .val (.long c3), .second, .val (.int (3 : Int32)), .unset, .unset, .unset] [(.int (3 : Int32)), (.int (3 : Int32))]))
          refine own_by (fun tz kz => XS.icmpYes X0.here hx rfl (pc0 := 47) (pc' := 59) rfl (hb hby at_47) rfl (flt (by decide : ¬ (3 : Int32) < (3 : Int32))).2.2.2 (by decide) (by decide) kz) ?_
          show own_Go p e below s _ _ (s₁.setTop (mkF m 59 #[.val (.int pp), .val (.long c0), .second, .val (.long c1), .second, .val (.long c2), .second, .val (.long c3), .second, .val (.int (3 : Int32)), .unset, .unset, .unset] []))
          obtain ⟨T82, h82, X82, e82, E82, A82, D82, -, st82⟩ := newO X0 hx hZ hown (hw _ (List.mem_of_getElem? (i := 1) rfl)) (hw _ (List.mem_of_getElem? (i := 2) rfl)) (hw _ (List.mem_of_getElem? (i := 3) rfl)) e0 (g := (mkF m 59 #[.val (.int pp), .val (.long c0), .second, .val (.long c1), .second, .val (.long c2), .second, .val (.long c3), .second, .val (.int (3 : Int32)), .unset, .unset, .unset] [])) rfl (hb hby at_59) (by decide) (by decide)
          obtain ⟨b82, g82⟩ : ∃ z, z = h0.size := ⟨_, rfl⟩
          rw [← g82] at A82 D82 st82
          have g_b82 : n0 ≤ b82 := by rw [g82]; exact O0.1 ▸ O0.2.1
          have sz_b82 : h0.size ≤ b82 := by rw [g82]; exact K0.1
          have O82 := O0.ext E82
          have K82 := K0.ext E82
          refine own_by st82 ?_
          have F82_lowerUnit : Fld Z h82 b82 "com/example/liftwise/liftwise/eval/arithmetic/Solver$Sides" "lowerUnit" "Z" (.int (0 : Int32)) := D82 (Or.inl (hw _ (List.mem_of_getElem? (i := 11) rfl))) (ty := .boolean) (by decide)
          have F82_upperUnit : Fld Z h82 b82 "com/example/liftwise/liftwise/eval/arithmetic/Solver$Sides" "upperUnit" "Z" (.int (0 : Int32)) := D82 (Or.inl (hw _ (List.mem_of_getElem? (i := 13) rfl))) (ty := .boolean) (by decide)
          have F82_lower : Fld Z h82 b82 "com/example/liftwise/liftwise/eval/arithmetic/Solver$Sides" "lower" "I" (.int (0 : Int32)) := D82 (Or.inl (hw _ (List.mem_of_getElem? (i := 71) rfl))) (ty := .int) (by decide)
          have F82_upper : Fld Z h82 b82 "com/example/liftwise/liftwise/eval/arithmetic/Solver$Sides" "upper" "I" (.int (0 : Int32)) := D82 (Or.inl (hw _ (List.mem_of_getElem? (i := 83) rfl))) (ty := .int) (by decide)
          show own_Go p e below s _ _ (T82.setTop (mkF m 62 #[.val (.int pp), .val (.long c0), .second, .val (.long c1), .second, .val (.long c2), .second, .val (.long c3), .second, .val (.int (3 : Int32)), .unset, .unset, .unset] [(.ref b82)]))
          refine own_by (fun tz kz => XS.dup X82.here hx rfl (hb hby at_62) rfl rfl kz) ?_
          show own_Go p e below s _ _ (T82.setTop (mkF m 63 #[.val (.int pp), .val (.long c0), .second, .val (.long c1), .second, .val (.long c2), .second, .val (.long c3), .second, .val (.int (3 : Int32)), .unset, .unset, .unset] [(.ref b82), (.ref b82)]))
          obtain ⟨_, _, ⟨T83, L83, k83, n83⟩, -, X83, ⟨Lc83, hQ83, l83, y83, z83⟩, st83⟩ := X82.specialBack hx (y := (⟨"com/example/liftwise/liftwise/eval/arithmetic/Solver$Sides", "<init>", "()V"⟩ : MethodName)) rfl hown (mvT hZ (hw _ (List.mem_of_getElem? (i := 4) rfl))) (mvT hZ (hw _ (List.mem_of_getElem? (i := 5) rfl))) (mvT hZ (hw _ (List.mem_of_getElem? (i := 6) rfl))) (by decide) (backOf (W := 1) (rm_Sinit l Z a0 hw [] b82 h82 n0 O82 A82 F82_lower F82_upper F82_lowerUnit F82_upperUnit g_b82) hZ (hw _ (List.mem_of_getElem? (i := 6) rfl)) (hw _ (List.mem_of_getElem? (i := 3) rfl)) (by decide) (by decide)) (g := (mkF m 63 #[.val (.int pp), .val (.long c0), .second, .val (.long c1), .second, .val (.long c2), .second, .val (.long c3), .second, .val (.int (3 : Int32)), .unset, .unset, .unset] [(.ref b82), (.ref b82)])) rfl (by rw [hml]; rfl) (Steps.refl _) (a := b82) (argsL := []) (rest := [(.ref b82)]) (lenOf pd_0 rfl) rfl (by show 2 * 0 + _ ≤ _; exact Nat.le_of_eq rfl) (hb hby at_63) (fun _ _ => ⟨rfl, e82, (by decide : 1 + 0 ≤ _), (by decide : 4 + 0 ≤ _)⟩)
          dsimp only [Pt.U, Pt.locs, Pt.cells, Pt.slots] at X83 l83 y83 z83 st83 hQ83
          rw [l83, y83, z83] at X83
          obtain ⟨rfl, Nq83, Kq83, Fa83, Fb83, Fc83, Fd83⟩ := hQ83
          have N83 := Fr.app N0 Nq83
          have e83 : T83.heap = T83.heap := rfl
          refine own_via st83 ?_
          have O83 := O82.keep Kq83 (allS g_b82 all0)
          have K83 := K82.trans Kq83 (allS (Or.inr sz_b82) all0)
          show own_Go p e below s _ _ (T83.setTop (mkF m 66 #[.val (.int pp), .val (.long c0), .second, .val (.long c1), .second, .val (.long c2), .second, .val (.long c3), .second, .val (.int (3 : Int32)), .unset, .unset, .unset] [(.ref b82)]))
          refine own_by (fun tz kz => XS.astore X83.here hx rfl (hb hby at_66) rfl rfl (l' := #[.val (.int pp), .val (.long c0), .second, .val (.long c1), .second, .val (.long c2), .second, .val (.long c3), .second, .val (.int (3 : Int32)), .val (.ref b82), .unset, .unset]) rfl kz) ?_
          show own_Go p e below s _ _ (T83.setTop (mkF m 68 #[.val (.int pp), .val (.long c0), .second, .val (.long c1), .second, .val (.long c2), .second, .val (.long c3), .second, .val (.int (3 : Int32)), .val (.ref b82), .unset, .unset] []))
          refine own_by (fun tz kz => XS.iload X83.here hx rfl (hb hby at_68) rfl  kz) ?_
          show own_Go p e below s _ _ (T83.setTop (mkF m 70 #[.val (.int pp), .val (.long c0), .second, .val (.long c1), .second, .val (.long c2), .second, .val (.long c3), .second, .val (.int (3 : Int32)), .val (.ref b82), .unset, .unset] [(.int (3 : Int32))]))
          refine own_by (fun tz kz => XS.ifNo X83.here hx rfl (hb hby at_70) rfl ((if0 _ _).trans (tlt (by decide : (0 : Int32) < (3 : Int32))).2.2.2) kz) ?_
          show own_Go p e below s _ _ (T83.setTop (mkF m 73 #[.val (.int pp), .val (.long c0), .second, .val (.long c1), .second, .val (.long c2), .second, .val (.long c3), .second, .val (.int (3 : Int32)), .val (.ref b82), .unset, .unset] []))
          refine own_by (fun tz kz => XS.aload X83.here hx rfl (hb hby at_73) rfl rfl kz) ?_
          show own_Go p e below s _ _ (T83.setTop (mkF m 75 #[.val (.int pp), .val (.long c0), .second, .val (.long c1), .second, .val (.long c2), .second, .val (.long c3), .second, .val (.int (3 : Int32)), .val (.ref b82), .unset, .unset] [(.ref b82)]))
          refine own_by (fun tz kz => XS.lloadN X83.here hx rfl (hb hby at_75) rfl kz) ?_
          show own_Go p e below s _ _ (T83.setTop (mkF m 76 #[.val (.int pp), .val (.long c0), .second, .val (.long c1), .second, .val (.long c2), .second, .val (.long c3), .second, .val (.int (3 : Int32)), .val (.ref b82), .unset, .unset] [(.long c0), (.ref b82)]))
          obtain ⟨_, _, ⟨T84, L84, k84, n84⟩, -, X84, ⟨Lc84, hQ84, l84, y84, z84⟩, st84⟩ := Jvm.LawKit.callS X83 hx (y := (⟨"java/math/BigInteger", "valueOf", "(J)Ljava/math/BigInteger;"⟩ : MethodName)) hown (mvT hZ (hw _ (List.mem_of_getElem? (i := 26) rfl))) (mvT hZ (hw _ (List.mem_of_getElem? (i := 27) rfl))) (mvT hZ (hw _ (List.mem_of_getElem? (i := 28) rfl))) (mvT hZ (hw _ (List.mem_of_getElem? (i := 29) rfl))) (by decide) (backOf (W := 1) (rm_valueOf l Z a0 hw [] c0 pa na pc nc T83.heap n0 O83 S_pos S_neg T_pos T_neg hc16_79) hZ (hw _ (List.mem_of_getElem? (i := 29) rfl)) (hw _ (List.mem_of_getElem? (i := 28) rfl)) (by decide) (by decide)) (g := (mkF m 76 #[.val (.int pp), .val (.long c0), .second, .val (.long c1), .second, .val (.long c2), .second, .val (.long c3), .second, .val (.int (3 : Int32)), .val (.ref b82), .unset, .unset] [(.long c0), (.ref b82)])) rfl (by rw [hml]; rfl) (argsL := [(.long c0)]) (rest := [(.ref b82)]) (lenOf pd_3 rfl) rfl (by show 2 * 0 + _ ≤ _; exact Nat.le_of_eq rfl) (hb hby at_76) (fun _ _ => ⟨rfl, e83, (by decide : 1 + 2 ≤ _), (by decide : 4 + 8 ≤ _)⟩)
          dsimp only [Pt.U, Pt.locs, Pt.cells, Pt.slots] at X84 l84 y84 z84 st84 hQ84
          rw [l84, y84, z84] at X84
          obtain ⟨o84, rfl, Nq84, Kq84, Bq84⟩ := hQ84
          have N84 := Fr.app N83 Nq84
          have e84 : T84.heap = T84.heap := rfl
          refine own_by st84 ?_
          have O84 := O83.keep Kq84 all0
          have K84 := K83.trans Kq84 all0
          show own_Go p e below s _ _ (T84.setTop (mkF m 79 #[.val (.int pp), .val (.long c0), .second, .val (.long c1), .second, .val (.long c2), .second, .val (.long c3), .second, .val (.int (3 : Int32)), .val (.ref b82), .unset, .unset] [(.ref o84), (.ref b82)]))
          have f85 := ((A82.keep Kq83).keep Kq84)
          have f86 := (Fa83.keep Kq84 nin0)
          have f87 := (Fb83.keep Kq84 nin0)
          have f88 := (Fc83.keep Kq84 nin0)
          have f89 := (Fd83.keep Kq84 nin0)
          obtain ⟨cq90, kq90, q90a, q90b, q90c⟩ := isOf hZ e84 f85
          obtain ⟨_, _, ⟨T90, L90, k90, n90⟩, -, X90, ⟨Lc90, hQ90, l90, y90, z90⟩, st90⟩ := X84.virtualBack hx (y := (⟨"com/example/liftwise/liftwise/eval/arithmetic/Solver$Sides", "add", "(Ljava/math/BigInteger;)V"⟩ : MethodName)) (z := (⟨"com/example/liftwise/liftwise/eval/arithmetic/Solver$Sides", "add", "(Ljava/math/BigInteger;)V"⟩ : MethodName)) hown (mvT hZ (hw _ (List.mem_of_getElem? (i := 49) rfl))) (mvT hZ (hw _ (List.mem_of_getElem? (i := 50) rfl))) (notFace_of_selects (args := #[]) (mvT hZ (hw _ (List.mem_of_getElem? (i := 52) rfl)))) (mvT hZ (hw _ (List.mem_of_getElem? (i := 52) rfl))) (mvT hZ (hw _ (List.mem_of_getElem? (i := 51) rfl))) (by decide) (backOf (W := 0) (rm_add l Z a0 hw [] b82 o84 one om ko (own_sg c0) (own_un c0) (0 : Int32) (0 : Int32) (1 : Int32) (1 : Int32) (own_up c0 (0 : Int32)) (own_dn c0 (0 : Int32)) (own_lu c0 (1 : Int32)) (own_uu c0 (1 : Int32)) T84.heap n0 O84 S_ONE E_one Fs_one Fm_one V_one f85 f86 f87 f88 f89 g_b82 Bq84 (own_sg_or _) (own_un_or _) (Or.inr rfl) (Or.inr rfl) rfl rfl rfl rfl) hZ (hw _ (List.mem_of_getElem? (i := 53) rfl)) (hw _ (List.mem_of_getElem? (i := 3) rfl)) (by decide) (by decide)) q90a q90c (g := (mkF m 79 #[.val (.int pp), .val (.long c0), .second, .val (.long c1), .second, .val (.long c2), .second, .val (.long c3), .second, .val (.int (3 : Int32)), .val (.ref b82), .unset, .unset] [(.ref o84), (.ref b82)])) rfl (by rw [hml]; rfl) (Steps.refl _) (argsL := [(.ref o84)]) (rest := []) (lenOf pd_5 rfl) rfl (by show 2 * 0 + _ ≤ _; exact Nat.le_of_eq rfl) (hb hby at_79) (fun _ _ => ⟨rfl, e84, (by decide : (1 + 2) + 1 ≤ _), (by decide : (4 + 8) + 6 ≤ _)⟩)
          dsimp only [Pt.U, Pt.locs, Pt.cells, Pt.slots] at X90 l90 y90 z90 st90 hQ90
          rw [l90, y90, z90] at X90
          obtain ⟨rfl, Nq90, Kq90, Fa90, Fb90, Fc90, Fd90⟩ := hQ90
          have N90 := Fr.app N84 Nq90
          have e90 : T90.heap = T90.heap := rfl
          refine own_via st90 ?_
          have O90 := O84.keep Kq90 (allS g_b82 all0)
          have K90 := K84.trans Kq90 (allS (Or.inr sz_b82) all0)
          show own_Go p e below s _ _ (T90.setTop (mkF m 82 #[.val (.int pp), .val (.long c0), .second, .val (.long c1), .second, .val (.long c2), .second, .val (.long c3), .second, .val (.int (3 : Int32)), .val (.ref b82), .unset, .unset] []))
          refine own_by (fun tz kz => XS.iload X90.here hx rfl (hb hby at_82) rfl  kz) ?_
          show own_Go p e below s _ _ (T90.setTop (mkF m 84 #[.val (.int pp), .val (.long c0), .second, .val (.long c1), .second, .val (.long c2), .second, .val (.long c3), .second, .val (.int (3 : Int32)), .val (.ref b82), .unset, .unset] [(.int (3 : Int32))]))
          refine own_by (fun tz kz => XS.iconst X90.here hx rfl (hb hby at_84) kz) ?_
          show own_Go p e below s _ _ (T90.setTop (mkF m 85 #[.val (.int pp), .val (.long c0), .second, .val (.long c1), .second, .val (.long c2), .second, .val (.long c3), .second, .val (.int (3 : Int32)), .val (.ref b82), .unset, .unset] [(.int (1 : Int32)), (.int (3 : Int32))]))
          refine own_by (fun tz kz => XS.icmpNo X90.here hx rfl (hb hby at_85) rfl (tlt (by decide : (1 : Int32) < (3 : Int32))).2.2.2 kz) ?_
          show own_Go p e below s _ _ (T90.setTop (mkF m 88 #[.val (.int pp), .val (.long c0), .second, .val (.long c1), .second, .val (.long c2), .second, .val (.long c3), .second, .val (.int (3 : Int32)), .val (.ref b82), .unset, .unset] []))
          refine own_by (fun tz kz => XS.aload X90.here hx rfl (hb hby at_88) rfl rfl kz) ?_
          show own_Go p e below s _ _ (T90.setTop (mkF m 90 #[.val (.int pp), .val (.long c0), .second, .val (.long c1), .second, .val (.long c2), .second, .val (.long c3), .second, .val (.int (3 : Int32)), .val (.ref b82), .unset, .unset] [(.ref b82)]))
          refine own_by (fun tz kz => XS.lloadN X90.here hx rfl (hb hby at_90) rfl kz) ?_
          show own_Go p e below s _ _ (T90.setTop (mkF m 91 #[.val (.int pp), .val (.long c0), .second, .val (.long c1), .second, .val (.long c2), .second, .val (.long c3), .second, .val (.int (3 : Int32)), .val (.ref b82), .unset, .unset] [(.long c1), (.ref b82)]))
          obtain ⟨_, _, ⟨T91, L91, k91, n91⟩, -, X91, ⟨Lc91, hQ91, l91, y91, z91⟩, st91⟩ := Jvm.LawKit.callS X90 hx (y := (⟨"java/math/BigInteger", "valueOf", "(J)Ljava/math/BigInteger;"⟩ : MethodName)) hown (mvT hZ (hw _ (List.mem_of_getElem? (i := 26) rfl))) (mvT hZ (hw _ (List.mem_of_getElem? (i := 27) rfl))) (mvT hZ (hw _ (List.mem_of_getElem? (i := 28) rfl))) (mvT hZ (hw _ (List.mem_of_getElem? (i := 29) rfl))) (by decide) (backOf (W := 1) (rm_valueOf l Z a0 hw [] c1 pa na pc nc T90.heap n0 O90 S_pos S_neg T_pos T_neg hc28_80) hZ (hw _ (List.mem_of_getElem? (i := 29) rfl)) (hw _ (List.mem_of_getElem? (i := 28) rfl)) (by decide) (by decide)) (g := (mkF m 91 #[.val (.int pp), .val (.long c0), .second, .val (.long c1), .second, .val (.long c2), .second, .val (.long c3), .second, .val (.int (3 : Int32)), .val (.ref b82), .unset, .unset] [(.long c1), (.ref b82)])) rfl (by rw [hml]; rfl) (argsL := [(.long c1)]) (rest := [(.ref b82)]) (lenOf pd_3 rfl) rfl (by show 2 * 0 + _ ≤ _; exact Nat.le_of_eq rfl) (hb hby at_91) (fun _ _ => ⟨rfl, e90, (by decide : ((1 + 2) + 1) + 2 ≤ _), (by decide : ((4 + 8) + 6) + 8 ≤ _)⟩)
          dsimp only [Pt.U, Pt.locs, Pt.cells, Pt.slots] at X91 l91 y91 z91 st91 hQ91
          rw [l91, y91, z91] at X91
          obtain ⟨o91, rfl, Nq91, Kq91, Bq91⟩ := hQ91
          have N91 := Fr.app N90 Nq91
          have e91 : T91.heap = T91.heap := rfl
          refine own_by st91 ?_
          have O91 := O90.keep Kq91 all0
          have K91 := K90.trans Kq91 all0
          show own_Go p e below s _ _ (T91.setTop (mkF m 94 #[.val (.int pp), .val (.long c0), .second, .val (.long c1), .second, .val (.long c2), .second, .val (.long c3), .second, .val (.int (3 : Int32)), .val (.ref b82), .unset, .unset] [(.ref o91), (.ref b82)]))
          have f92 := ((f85.keep Kq90).keep Kq91)
          have f93 := (Fa90.keep Kq91 nin0)
          have f94 := (Fb90.keep Kq91 nin0)
          have f95 := (Fc90.keep Kq91 nin0)
          have f96 := (Fd90.keep Kq91 nin0)
          obtain ⟨cq97, kq97, q97a, q97b, q97c⟩ := isOf hZ e91 f92
          obtain ⟨_, _, ⟨T97, L97, k97, n97⟩, -, X97, ⟨Lc97, hQ97, l97, y97, z97⟩, st97⟩ := X91.virtualBack hx (y := (⟨"com/example/liftwise/liftwise/eval/arithmetic/Solver$Sides", "add", "(Ljava/math/BigInteger;)V"⟩ : MethodName)) (z := (⟨"com/example/liftwise/liftwise/eval/arithmetic/Solver$Sides", "add", "(Ljava/math/BigInteger;)V"⟩ : MethodName)) hown (mvT hZ (hw _ (List.mem_of_getElem? (i := 49) rfl))) (mvT hZ (hw _ (List.mem_of_getElem? (i := 50) rfl))) (notFace_of_selects (args := #[]) (mvT hZ (hw _ (List.mem_of_getElem? (i := 52) rfl)))) (mvT hZ (hw _ (List.mem_of_getElem? (i := 52) rfl))) (mvT hZ (hw _ (List.mem_of_getElem? (i := 51) rfl))) (by decide) (backOf (W := 0) (rm_add l Z a0 hw [] b82 o91 one om ko (own_sg c1) (own_un c1) (own_up c0 (0 : Int32)) (own_dn c0 (0 : Int32)) (own_lu c0 (1 : Int32)) (own_uu c0 (1 : Int32)) (own_up c1 (own_up c0 (0 : Int32))) (own_dn c1 (own_dn c0 (0 : Int32))) (own_lu c1 (own_lu c0 (1 : Int32))) (own_uu c1 (own_uu c0 (1 : Int32))) T91.heap n0 O91 S_ONE E_one Fs_one Fm_one V_one f92 f93 f94 f95 f96 g_b82 Bq91 (own_sg_or _) (own_un_or _) (own_lu_or c0 (Or.inr rfl)) (own_uu_or c0 (Or.inr rfl)) rfl rfl rfl rfl) hZ (hw _ (List.mem_of_getElem? (i := 53) rfl)) (hw _ (List.mem_of_getElem? (i := 3) rfl)) (by decide) (by decide)) q97a q97c (g := (mkF m 94 #[.val (.int pp), .val (.long c0), .second, .val (.long c1), .second, .val (.long c2), .second, .val (.long c3), .second, .val (.int (3 : Int32)), .val (.ref b82), .unset, .unset] [(.ref o91), (.ref b82)])) rfl (by rw [hml]; rfl) (Steps.refl _) (argsL := [(.ref o91)]) (rest := []) (lenOf pd_5 rfl) rfl (by show 2 * 0 + _ ≤ _; exact Nat.le_of_eq rfl) (hb hby at_94) (fun _ _ => ⟨rfl, e91, (by decide : (((1 + 2) + 1) + 2) + 1 ≤ _), (by decide : (((4 + 8) + 6) + 8) + 6 ≤ _)⟩)
          dsimp only [Pt.U, Pt.locs, Pt.cells, Pt.slots] at X97 l97 y97 z97 st97 hQ97
          rw [l97, y97, z97] at X97
          obtain ⟨rfl, Nq97, Kq97, Fa97, Fb97, Fc97, Fd97⟩ := hQ97
          have N97 := Fr.app N91 Nq97
          have e97 : T97.heap = T97.heap := rfl
          refine own_via st97 ?_
          have O97 := O91.keep Kq97 (allS g_b82 all0)
          have K97 := K91.trans Kq97 (allS (Or.inr sz_b82) all0)
          show own_Go p e below s _ _ (T97.setTop (mkF m 97 #[.val (.int pp), .val (.long c0), .second, .val (.long c1), .second, .val (.long c2), .second, .val (.long c3), .second, .val (.int (3 : Int32)), .val (.ref b82), .unset, .unset] []))
          refine own_by (fun tz kz => XS.iload X97.here hx rfl (hb hby at_97) rfl  kz) ?_
          show own_Go p e below s _ _ (T97.setTop (mkF m 99 #[.val (.int pp), .val (.long c0), .second, .val (.long c1), .second, .val (.long c2), .second, .val (.long c3), .second, .val (.int (3 : Int32)), .val (.ref b82), .unset, .unset] [(.int (3 : Int32))]))
          refine own_by (fun tz kz => XS.iconst X97.here hx rfl (hb hby at_99) kz) ?_
          show own_Go p e below s _ _ (T97.setTop (mkF m 100 #[.val (.int pp), .val (.long c0), .second, .val (.long c1), .second, .val (.long c2), .second, .val (.long c3), .second, .val (.int (3 : Int32)), .val (.ref b82), .unset, .unset] [(.int (2 : Int32)), (.int (3 : Int32))]))
          refine own_by (fun tz kz => XS.icmpNo X97.here hx rfl (hb hby at_100) rfl (tlt (by decide : (2 : Int32) < (3 : Int32))).2.2.2 kz) ?_
          show own_Go p e below s _ _ (T97.setTop (mkF m 103 #[.val (.int pp), .val (.long c0), .second, .val (.long c1), .second, .val (.long c2), .second, .val (.long c3), .second, .val (.int (3 : Int32)), .val (.ref b82), .unset, .unset] []))
          refine own_by (fun tz kz => XS.aload X97.here hx rfl (hb hby at_103) rfl rfl kz) ?_
          show own_Go p e below s _ _ (T97.setTop (mkF m 105 #[.val (.int pp), .val (.long c0), .second, .val (.long c1), .second, .val (.long c2), .second, .val (.long c3), .second, .val (.int (3 : Int32)), .val (.ref b82), .unset, .unset] [(.ref b82)]))
          refine own_by (fun tz kz => XS.lload X97.here hx rfl (hb hby at_105) rfl kz) ?_
          show own_Go p e below s _ _ (T97.setTop (mkF m 107 #[.val (.int pp), .val (.long c0), .second, .val (.long c1), .second, .val (.long c2), .second, .val (.long c3), .second, .val (.int (3 : Int32)), .val (.ref b82), .unset, .unset] [(.long c2), (.ref b82)]))
          obtain ⟨_, _, ⟨T98, L98, k98, n98⟩, -, X98, ⟨Lc98, hQ98, l98, y98, z98⟩, st98⟩ := Jvm.LawKit.callS X97 hx (y := (⟨"java/math/BigInteger", "valueOf", "(J)Ljava/math/BigInteger;"⟩ : MethodName)) hown (mvT hZ (hw _ (List.mem_of_getElem? (i := 26) rfl))) (mvT hZ (hw _ (List.mem_of_getElem? (i := 27) rfl))) (mvT hZ (hw _ (List.mem_of_getElem? (i := 28) rfl))) (mvT hZ (hw _ (List.mem_of_getElem? (i := 29) rfl))) (by decide) (backOf (W := 1) (rm_valueOf l Z a0 hw [] c2 pa na pc nc T97.heap n0 O97 S_pos S_neg T_pos T_neg hc41_81) hZ (hw _ (List.mem_of_getElem? (i := 29) rfl)) (hw _ (List.mem_of_getElem? (i := 28) rfl)) (by decide) (by decide)) (g := (mkF m 107 #[.val (.int pp), .val (.long c0), .second, .val (.long c1), .second, .val (.long c2), .second, .val (.long c3), .second, .val (.int (3 : Int32)), .val (.ref b82), .unset, .unset] [(.long c2), (.ref b82)])) rfl (by rw [hml]; rfl) (argsL := [(.long c2)]) (rest := [(.ref b82)]) (lenOf pd_3 rfl) rfl (by show 2 * 0 + _ ≤ _; exact Nat.le_of_eq rfl) (hb hby at_107) (fun _ _ => ⟨rfl, e97, (by decide : ((((1 + 2) + 1) + 2) + 1) + 2 ≤ _), (by decide : ((((4 + 8) + 6) + 8) + 6) + 8 ≤ _)⟩)
          dsimp only [Pt.U, Pt.locs, Pt.cells, Pt.slots] at X98 l98 y98 z98 st98 hQ98
          rw [l98, y98, z98] at X98
          obtain ⟨o98, rfl, Nq98, Kq98, Bq98⟩ := hQ98
          have N98 := Fr.app N97 Nq98
          have e98 : T98.heap = T98.heap := rfl
          refine own_by st98 ?_
          have O98 := O97.keep Kq98 all0
          have K98 := K97.trans Kq98 all0
          show own_Go p e below s _ _ (T98.setTop (mkF m 110 #[.val (.int pp), .val (.long c0), .second, .val (.long c1), .second, .val (.long c2), .second, .val (.long c3), .second, .val (.int (3 : Int32)), .val (.ref b82), .unset, .unset] [(.ref o98), (.ref b82)]))
          have f99 := ((f92.keep Kq97).keep Kq98)
          have f100 := (Fa97.keep Kq98 nin0)
          have f101 := (Fb97.keep Kq98 nin0)
          have f102 := (Fc97.keep Kq98 nin0)
          have f103 := (Fd97.keep Kq98 nin0)
          obtain ⟨cq104, kq104, q104a, q104b, q104c⟩ := isOf hZ e98 f99
          obtain ⟨_, _, ⟨T104, L104, k104, n104⟩, -, X104, ⟨Lc104, hQ104, l104, y104, z104⟩, st104⟩ := X98.virtualBack hx (y := (⟨"com/example/liftwise/liftwise/eval/arithmetic/Solver$Sides", "add", "(Ljava/math/BigInteger;)V"⟩ : MethodName)) (z := (⟨"com/example/liftwise/liftwise/eval/arithmetic/Solver$Sides", "add", "(Ljava/math/BigInteger;)V"⟩ : MethodName)) hown (mvT hZ (hw _ (List.mem_of_getElem? (i := 49) rfl))) (mvT hZ (hw _ (List.mem_of_getElem? (i := 50) rfl))) (notFace_of_selects (args := #[]) (mvT hZ (hw _ (List.mem_of_getElem? (i := 52) rfl)))) (mvT hZ (hw _ (List.mem_of_getElem? (i := 52) rfl))) (mvT hZ (hw _ (List.mem_of_getElem? (i := 51) rfl))) (by decide) (backOf (W := 0) (rm_add l Z a0 hw [] b82 o98 one om ko (own_sg c2) (own_un c2) (own_up c1 (own_up c0 (0 : Int32))) (own_dn c1 (own_dn c0 (0 : Int32))) (own_lu c1 (own_lu c0 (1 : Int32))) (own_uu c1 (own_uu c0 (1 : Int32))) (own_up c2 (own_up c1 (own_up c0 (0 : Int32)))) (own_dn c2 (own_dn c1 (own_dn c0 (0 : Int32)))) (own_lu c2 (own_lu c1 (own_lu c0 (1 : Int32)))) (own_uu c2 (own_uu c1 (own_uu c0 (1 : Int32)))) T98.heap n0 O98 S_ONE E_one Fs_one Fm_one V_one f99 f100 f101 f102 f103 g_b82 Bq98 (own_sg_or _) (own_un_or _) (own_lu_or c1 (own_lu_or c0 (Or.inr rfl))) (own_uu_or c1 (own_uu_or c0 (Or.inr rfl))) rfl rfl rfl rfl) hZ (hw _ (List.mem_of_getElem? (i := 53) rfl)) (hw _ (List.mem_of_getElem? (i := 3) rfl)) (by decide) (by decide)) q104a q104c (g := (mkF m 110 #[.val (.int pp), .val (.long c0), .second, .val (.long c1), .second, .val (.long c2), .second, .val (.long c3), .second, .val (.int (3 : Int32)), .val (.ref b82), .unset, .unset] [(.ref o98), (.ref b82)])) rfl (by rw [hml]; rfl) (Steps.refl _) (argsL := [(.ref o98)]) (rest := []) (lenOf pd_5 rfl) rfl (by show 2 * 0 + _ ≤ _; exact Nat.le_of_eq rfl) (hb hby at_110) (fun _ _ => ⟨rfl, e98, (by decide : (((((1 + 2) + 1) + 2) + 1) + 2) + 1 ≤ _), (by decide : (((((4 + 8) + 6) + 8) + 6) + 8) + 6 ≤ _)⟩)
          dsimp only [Pt.U, Pt.locs, Pt.cells, Pt.slots] at X104 l104 y104 z104 st104 hQ104
          rw [l104, y104, z104] at X104
          obtain ⟨rfl, Nq104, Kq104, Fa104, Fb104, Fc104, Fd104⟩ := hQ104
          have N104 := Fr.app N98 Nq104
          have e104 : T104.heap = T104.heap := rfl
          refine own_via st104 ?_
          have O104 := O98.keep Kq104 (allS g_b82 all0)
          have K104 := K98.trans Kq104 (allS (Or.inr sz_b82) all0)
          show own_Go p e below s _ _ (T104.setTop (mkF m 113 #[.val (.int pp), .val (.long c0), .second, .val (.long c1), .second, .val (.long c2), .second, .val (.long c3), .second, .val (.int (3 : Int32)), .val (.ref b82), .unset, .unset] []))
          refine own_by (fun tz kz => XS.iload X104.here hx rfl (hb hby at_113) rfl  kz) ?_
          show own_Go p e below s _ _ (T104.setTop (mkF m 115 #[.val (.int pp), .val (.long c0), .second, .val (.long c1), .second, .val (.long c2), .second, .val (.long c3), .second, .val (.int (3 : Int32)), .val (.ref b82), .unset, .unset] [(.int (3 : Int32))]))
          refine own_by (fun tz kz => XS.iconst X104.here hx rfl (hb hby at_115) kz) ?_
          show own_Go p e below s _ _ (T104.setTop (mkF m 116 #[.val (.int pp), .val (.long c0), .second, .val (.long c1), .second, .val (.long c2), .second, .val (.long c3), .second, .val (.int (3 : Int32)), .val (.ref b82), .unset, .unset] [(.int (3 : Int32)), (.int (3 : Int32))]))
          refine own_by (fun tz kz => XS.icmpYes X104.here hx rfl (pc0 := 116) (pc' := 129) rfl (hb hby at_116) rfl (flt (by decide : ¬ (3 : Int32) < (3 : Int32))).2.2.2 (by decide) (by decide) kz) ?_
          have J209 : ∀ (Tj105 : State) (Lj105 : List Loc), Stand p l e room_1 s m #[(.int pp), (.long c0), (.long c1), (.long c2), (.long c3)] below meth c Tj105 Lj105 ((((((1 + 2) + 1) + 2) + 1) + 2) + 1) ((((((4 + 8) + 6) + 8) + 6) + 8) + 6) → Tj105.heap = T104.heap → Fr n0 Lj105 → ∀ lo : Int32, lo = own_all LF0 LF1 LF2 (1 : Int32) → own_Go p e below s (Q_rm0 n0) room_1 (Tj105.setTop (mkF m 209 #[.val (.int pp), .val (.long c0), .second, .val (.long c1), .second, .val (.long c2), .second, .val (.long c3), .second, .val (.int (3 : Int32)), .val (.ref b82), .val (.int lo), .unset] [])) := by
            intro Tj105 Lj105 Xj105 ej105 Nj105 lo hlo
            have J289 : ∀ (Tj106 : State) (Lj106 : List Loc), Stand p l e room_1 s m #[(.int pp), (.long c0), (.long c1), (.long c2), (.long c3)] below meth c Tj106 Lj106 ((((((1 + 2) + 1) + 2) + 1) + 2) + 1) ((((((4 + 8) + 6) + 8) + 6) + 8) + 6) → Tj106.heap = T104.heap → Fr n0 Lj106 → ∀ up : Int32, up = own_all UF0 UF1 UF2 (1 : Int32) → own_Go p e below s (Q_rm0 n0) room_1 (Tj106.setTop (mkF m 289 #[.val (.int pp), .val (.long c0), .second, .val (.long c1), .second, .val (.long c2), .second, .val (.long c3), .second, .val (.int (3 : Int32)), .val (.ref b82), .val (.int lo), .val (.int up)] [])) := by
              intro Tj106 Lj106 Xj106 ej106 Nj106 up hup
              show own_Go p e below s _ _ (Tj106.setTop (mkF m 289 #[.val (.int pp), .val (.long c0), .second, .val (.long c1), .second, .val (.long c2), .second, .val (.long c3), .second, .val (.int (3 : Int32)), .val (.ref b82), .val (.int lo), .val (.int up)] []))
              refine own_by (fun tz kz => XS.aload Xj106.here hx rfl (hb hby at_289) rfl rfl kz) ?_
              show own_Go p e below s _ _ (Tj106.setTop (mkF m 291 #[.val (.int pp), .val (.long c0), .second, .val (.long c1), .second, .val (.long c2), .second, .val (.long c3), .second, .val (.int (3 : Int32)), .val (.ref b82), .val (.int lo), .val (.int up)] [(.ref b82)]))
              have f107 := (f99.keep Kq104)
              obtain ⟨cq108, kq108, q108a, q108b, q108c⟩ := isOf hZ ej106 f107
              obtain ⟨_, _, ⟨T108, L108, k108, n108⟩, -, X108, ⟨Lc108, hQ108, l108, y108, z108⟩, st108⟩ := Xj106.virtualBack hx (y := (⟨"com/example/liftwise/liftwise/eval/arithmetic/Solver$Sides", "isExact", "()Z"⟩ : MethodName)) (z := (⟨"com/example/liftwise/liftwise/eval/arithmetic/Solver$Sides", "isExact", "()Z"⟩ : MethodName)) hown (mvT hZ (hw _ (List.mem_of_getElem? (i := 21) rfl))) (mvT hZ (hw _ (List.mem_of_getElem? (i := 22) rfl))) (notFace_of_selects (args := #[]) (mvT hZ (hw _ (List.mem_of_getElem? (i := 24) rfl)))) (mvT hZ (hw _ (List.mem_of_getElem? (i := 24) rfl))) (mvT hZ (hw _ (List.mem_of_getElem? (i := 23) rfl))) (by decide) (backOf (W := 0) (rm_exact l Z a0 hw [] b82 (own_lu c2 (own_lu c1 (own_lu c0 (1 : Int32)))) (own_uu c2 (own_uu c1 (own_uu c0 (1 : Int32)))) (if ¬ lo = (0 : Int32) ∨ ¬ up = (0 : Int32) then (1 : Int32) else (0 : Int32)) T104.heap n0 Fc104 Fd104 (own_ex ((own_rell3 c0 c1 c2 c3 hLF0 hc16_79 hLF1 hc28_80 hLF2 hc41_81).trans hlo.symm) ((own_relu3 c0 c1 c2 c3 hUF0 hc16_79 hUF1 hc28_80 hUF2 hc41_81).trans hup.symm))) hZ (hw _ (List.mem_of_getElem? (i := 25) rfl)) (hw _ (List.mem_of_getElem? (i := 3) rfl)) (by decide) (by decide)) q108a q108c (g := (mkF m 291 #[.val (.int pp), .val (.long c0), .second, .val (.long c1), .second, .val (.long c2), .second, .val (.long c3), .second, .val (.int (3 : Int32)), .val (.ref b82), .val (.int lo), .val (.int up)] [(.ref b82)])) rfl (by rw [hml]; rfl) (Steps.refl _) (argsL := []) (rest := []) (lenOf pd_2 rfl) rfl (by show 2 * 0 + _ ≤ _; exact Nat.le_of_eq rfl) (hb hby at_291) (fun _ _ => ⟨rfl, ej106, (by decide : ((((((1 + 2) + 1) + 2) + 1) + 2) + 1) + 0 ≤ _), (by decide : ((((((4 + 8) + 6) + 8) + 6) + 8) + 6) + 0 ≤ _)⟩)
              dsimp only [Pt.U, Pt.locs, Pt.cells, Pt.slots] at X108 l108 y108 z108 st108 hQ108
              rw [l108, y108, z108] at X108
              obtain ⟨rfl, Nq108, e108⟩ := hQ108
              have N108 := Fr.app Nj106 Nq108
              refine own_via st108 ?_
              show own_Go p e below s _ _ (T108.setTop (mkF m 294 #[.val (.int pp), .val (.long c0), .second, .val (.long c1), .second, .val (.long c2), .second, .val (.long c3), .second, .val (.int (3 : Int32)), .val (.ref b82), .val (.int lo), .val (.int up)] [(.int (if ¬ lo = (0 : Int32) ∨ ¬ up = (0 : Int32) then (1 : Int32) else (0 : Int32)))]))
              refine own_by (fun tz kz => XS.iload X108.here hx rfl (hb hby at_294) rfl  kz) ?_
              show own_Go p e below s _ _ (T108.setTop (mkF m 296 #[.val (.int pp), .val (.long c0), .second, .val (.long c1), .second, .val (.long c2), .second, .val (.long c3), .second, .val (.int (3 : Int32)), .val (.ref b82), .val (.int lo), .val (.int up)] [(.int lo), (.int (if ¬ lo = (0 : Int32) ∨ ¬ up = (0 : Int32) then (1 : Int32) else (0 : Int32)))]))
              by_cases hc296_109 : lo = (0 : Int32)
              · refine own_by (fun tz kz => XS.ifNo X108.here hx rfl (hb hby at_296) rfl ((if0 _ _).trans (teq hc296_109).2) kz) ?_
                show own_Go p e below s _ _ (T108.setTop (mkF m 299 #[.val (.int pp), .val (.long c0), .second, .val (.long c1), .second, .val (.long c2), .second, .val (.long c3), .second, .val (.int (3 : Int32)), .val (.ref b82), .val (.int lo), .val (.int up)] [(.int (if ¬ lo = (0 : Int32) ∨ ¬ up = (0 : Int32) then (1 : Int32) else (0 : Int32)))]))
                refine own_by (fun tz kz => XS.iload X108.here hx rfl (hb hby at_299) rfl  kz) ?_
                show own_Go p e below s _ _ (T108.setTop (mkF m 301 #[.val (.int pp), .val (.long c0), .second, .val (.long c1), .second, .val (.long c2), .second, .val (.long c3), .second, .val (.int (3 : Int32)), .val (.ref b82), .val (.int lo), .val (.int up)] [(.int up), (.int (if ¬ lo = (0 : Int32) ∨ ¬ up = (0 : Int32) then (1 : Int32) else (0 : Int32)))]))
                by_cases hc301_110 : up = (0 : Int32)
                · refine own_by (fun tz kz => XS.ifYes X108.here hx rfl (pc0 := 301) (pc' := 308) rfl (hb hby at_301) rfl ((if0 _ _).trans (teq hc301_110).1) (by decide) (by decide) kz) ?_
                  show own_Go p e below s _ _ (T108.setTop (mkF m 308 #[.val (.int pp), .val (.long c0), .second, .val (.long c1), .second, .val (.long c2), .second, .val (.long c3), .second, .val (.int (3 : Int32)), .val (.ref b82), .val (.int lo), .val (.int up)] [(.int (if ¬ lo = (0 : Int32) ∨ ¬ up = (0 : Int32) then (1 : Int32) else (0 : Int32)))]))
                  refine own_by (fun tz kz => XS.iconst X108.here hx rfl (hb hby at_308) kz) ?_
                  show own_Go p e below s _ _ (T108.setTop (mkF m 309 #[.val (.int pp), .val (.long c0), .second, .val (.long c1), .second, .val (.long c2), .second, .val (.long c3), .second, .val (.int (3 : Int32)), .val (.ref b82), .val (.int lo), .val (.int up)] [(.int (0 : Int32)), (.int (if ¬ lo = (0 : Int32) ∨ ¬ up = (0 : Int32) then (1 : Int32) else (0 : Int32)))]))
                  refine own_by (fun tz kz => XS.icmpNo X108.here hx rfl (hb hby at_309) rfl (teq (if_neg (fun q => q.elim (fun q => q hc296_109) (fun q => q hc301_110)))).2 kz) ?_
                  show own_Go p e below s _ _ (T108.setTop (mkF m 312 #[.val (.int pp), .val (.long c0), .second, .val (.long c1), .second, .val (.long c2), .second, .val (.long c3), .second, .val (.int (3 : Int32)), .val (.ref b82), .val (.int lo), .val (.int up)] []))
                  refine own_by (fun tz kz => XS.iconst X108.here hx rfl (hb hby at_312) kz) ?_
                  show own_Go p e below s _ _ (T108.setTop (mkF m 313 #[.val (.int pp), .val (.long c0), .second, .val (.long c1), .second, .val (.long c2), .second, .val (.long c3), .second, .val (.int (3 : Int32)), .val (.ref b82), .val (.int lo), .val (.int up)] [(.int (1 : Int32))]))
                  refine own_by (fun tz kz => XS.goto X108.here hx rfl (pc0 := 313) (pc' := 317) rfl (hb hby at_313) (by decide) (by decide) kz) ?_
                  show own_Go p e below s _ _ (T108.setTop (mkF m 317 #[.val (.int pp), .val (.long c0), .second, .val (.long c1), .second, .val (.long c2), .second, .val (.long c3), .second, .val (.int (3 : Int32)), .val (.ref b82), .val (.int lo), .val (.int up)] [(.int (1 : Int32))]))
                  refine own_retI X108 hx hlk (t := .boolean) hret (by simp) rfl (hb hby at_317) ?_ (by decide) (by decide)
                  exact ⟨rfl, N108⟩
                · refine own_by (fun tz kz => XS.ifNo X108.here hx rfl (hb hby at_301) rfl ((if0 _ _).trans (feq hc301_110).1) kz) ?_
                  show own_Go p e below s _ _ (T108.setTop (mkF m 304 #[.val (.int pp), .val (.long c0), .second, .val (.long c1), .second, .val (.long c2), .second, .val (.long c3), .second, .val (.int (3 : Int32)), .val (.ref b82), .val (.int lo), .val (.int up)] [(.int (if ¬ lo = (0 : Int32) ∨ ¬ up = (0 : Int32) then (1 : Int32) else (0 : Int32)))]))
                  refine own_by (fun tz kz => XS.iconst X108.here hx rfl (hb hby at_304) kz) ?_
                  show own_Go p e below s _ _ (T108.setTop (mkF m 305 #[.val (.int pp), .val (.long c0), .second, .val (.long c1), .second, .val (.long c2), .second, .val (.long c3), .second, .val (.int (3 : Int32)), .val (.ref b82), .val (.int lo), .val (.int up)] [(.int (1 : Int32)), (.int (if ¬ lo = (0 : Int32) ∨ ¬ up = (0 : Int32) then (1 : Int32) else (0 : Int32)))]))
                  refine own_by (fun tz kz => XS.goto X108.here hx rfl (pc0 := 305) (pc' := 309) rfl (hb hby at_305) (by decide) (by decide) kz) ?_
                  show own_Go p e below s _ _ (T108.setTop (mkF m 309 #[.val (.int pp), .val (.long c0), .second, .val (.long c1), .second, .val (.long c2), .second, .val (.long c3), .second, .val (.int (3 : Int32)), .val (.ref b82), .val (.int lo), .val (.int up)] [(.int (1 : Int32)), (.int (if ¬ lo = (0 : Int32) ∨ ¬ up = (0 : Int32) then (1 : Int32) else (0 : Int32)))]))
                  refine own_by (fun tz kz => XS.icmpNo X108.here hx rfl (hb hby at_309) rfl (teq (if_pos (Or.inr hc301_110))).2 kz) ?_
                  show own_Go p e below s _ _ (T108.setTop (mkF m 312 #[.val (.int pp), .val (.long c0), .second, .val (.long c1), .second, .val (.long c2), .second, .val (.long c3), .second, .val (.int (3 : Int32)), .val (.ref b82), .val (.int lo), .val (.int up)] []))
                  refine own_by (fun tz kz => XS.iconst X108.here hx rfl (hb hby at_312) kz) ?_
                  show own_Go p e below s _ _ (T108.setTop (mkF m 313 #[.val (.int pp), .val (.long c0), .second, .val (.long c1), .second, .val (.long c2), .second, .val (.long c3), .second, .val (.int (3 : Int32)), .val (.ref b82), .val (.int lo), .val (.int up)] [(.int (1 : Int32))]))
                  refine own_by (fun tz kz => XS.goto X108.here hx rfl (pc0 := 313) (pc' := 317) rfl (hb hby at_313) (by decide) (by decide) kz) ?_
                  show own_Go p e below s _ _ (T108.setTop (mkF m 317 #[.val (.int pp), .val (.long c0), .second, .val (.long c1), .second, .val (.long c2), .second, .val (.long c3), .second, .val (.int (3 : Int32)), .val (.ref b82), .val (.int lo), .val (.int up)] [(.int (1 : Int32))]))
                  refine own_retI X108 hx hlk (t := .boolean) hret (by simp) rfl (hb hby at_317) ?_ (by decide) (by decide)
                  exact ⟨rfl, N108⟩
              · refine own_by (fun tz kz => XS.ifYes X108.here hx rfl (pc0 := 296) (pc' := 304) rfl (hb hby at_296) rfl ((if0 _ _).trans (feq hc296_109).2) (by decide) (by decide) kz) ?_
                show own_Go p e below s _ _ (T108.setTop (mkF m 304 #[.val (.int pp), .val (.long c0), .second, .val (.long c1), .second, .val (.long c2), .second, .val (.long c3), .second, .val (.int (3 : Int32)), .val (.ref b82), .val (.int lo), .val (.int up)] [(.int (if ¬ lo = (0 : Int32) ∨ ¬ up = (0 : Int32) then (1 : Int32) else (0 : Int32)))]))
                refine own_by (fun tz kz => XS.iconst X108.here hx rfl (hb hby at_304) kz) ?_
                show own_Go p e below s _ _ (T108.setTop (mkF m 305 #[.val (.int pp), .val (.long c0), .second, .val (.long c1), .second, .val (.long c2), .second, .val (.long c3), .second, .val (.int (3 : Int32)), .val (.ref b82), .val (.int lo), .val (.int up)] [(.int (1 : Int32)), (.int (if ¬ lo = (0 : Int32) ∨ ¬ up = (0 : Int32) then (1 : Int32) else (0 : Int32)))]))
                refine own_by (fun tz kz => XS.goto X108.here hx rfl (pc0 := 305) (pc' := 309) rfl (hb hby at_305) (by decide) (by decide) kz) ?_
                show own_Go p e below s _ _ (T108.setTop (mkF m 309 #[.val (.int pp), .val (.long c0), .second, .val (.long c1), .second, .val (.long c2), .second, .val (.long c3), .second, .val (.int (3 : Int32)), .val (.ref b82), .val (.int lo), .val (.int up)] [(.int (1 : Int32)), (.int (if ¬ lo = (0 : Int32) ∨ ¬ up = (0 : Int32) then (1 : Int32) else (0 : Int32)))]))
                refine own_by (fun tz kz => XS.icmpNo X108.here hx rfl (hb hby at_309) rfl (teq (if_pos (Or.inl hc296_109))).2 kz) ?_
                show own_Go p e below s _ _ (T108.setTop (mkF m 312 #[.val (.int pp), .val (.long c0), .second, .val (.long c1), .second, .val (.long c2), .second, .val (.long c3), .second, .val (.int (3 : Int32)), .val (.ref b82), .val (.int lo), .val (.int up)] []))
                refine own_by (fun tz kz => XS.iconst X108.here hx rfl (hb hby at_312) kz) ?_
                show own_Go p e below s _ _ (T108.setTop (mkF m 313 #[.val (.int pp), .val (.long c0), .second, .val (.long c1), .second, .val (.long c2), .second, .val (.long c3), .second, .val (.int (3 : Int32)), .val (.ref b82), .val (.int lo), .val (.int up)] [(.int (1 : Int32))]))
                refine own_by (fun tz kz => XS.goto X108.here hx rfl (pc0 := 313) (pc' := 317) rfl (hb hby at_313) (by decide) (by decide) kz) ?_
                show own_Go p e below s _ _ (T108.setTop (mkF m 317 #[.val (.int pp), .val (.long c0), .second, .val (.long c1), .second, .val (.long c2), .second, .val (.long c3), .second, .val (.int (3 : Int32)), .val (.ref b82), .val (.int lo), .val (.int up)] [(.int (1 : Int32))]))
                refine own_retI X108 hx hlk (t := .boolean) hret (by simp) rfl (hb hby at_317) ?_ (by decide) (by decide)
                exact ⟨rfl, N108⟩
            show own_Go p e below s _ _ (Tj105.setTop (mkF m 209 #[.val (.int pp), .val (.long c0), .second, .val (.long c1), .second, .val (.long c2), .second, .val (.long c3), .second, .val (.int (3 : Int32)), .val (.ref b82), .val (.int lo), .unset] []))
            refine own_by (fun tz kz => XS.iload Xj105.here hx rfl (hb hby at_209) rfl  kz) ?_
            show own_Go p e below s _ _ (Tj105.setTop (mkF m 211 #[.val (.int pp), .val (.long c0), .second, .val (.long c1), .second, .val (.long c2), .second, .val (.long c3), .second, .val (.int (3 : Int32)), .val (.ref b82), .val (.int lo), .unset] [(.int (3 : Int32))]))
            refine own_by (fun tz kz => XS.ifNo Xj105.here hx rfl (hb hby at_211) rfl ((if0 _ _).trans (tlt (by decide : (0 : Int32) < (3 : Int32))).2.2.2) kz) ?_
            show own_Go p e below s _ _ (Tj105.setTop (mkF m 214 #[.val (.int pp), .val (.long c0), .second, .val (.long c1), .second, .val (.long c2), .second, .val (.long c3), .second, .val (.int (3 : Int32)), .val (.ref b82), .val (.int lo), .unset] []))
            refine own_by (fun tz kz => XS.iconst Xj105.here hx rfl (hb hby at_214) kz) ?_
            show own_Go p e below s _ _ (Tj105.setTop (mkF m 215 #[.val (.int pp), .val (.long c0), .second, .val (.long c1), .second, .val (.long c2), .second, .val (.long c3), .second, .val (.int (3 : Int32)), .val (.ref b82), .val (.int lo), .unset] [(.int (1 : Int32))]))
            refine own_by (fun tz kz => XS.goto Xj105.here hx rfl (pc0 := 215) (pc' := 219) rfl (hb hby at_215) (by decide) (by decide) kz) ?_
            show own_Go p e below s _ _ (Tj105.setTop (mkF m 219 #[.val (.int pp), .val (.long c0), .second, .val (.long c1), .second, .val (.long c2), .second, .val (.long c3), .second, .val (.int (3 : Int32)), .val (.ref b82), .val (.int lo), .unset] [(.int (1 : Int32))]))
            refine own_by (fun tz kz => XS.lloadN Xj105.here hx rfl (hb hby at_219) rfl kz) ?_
            show own_Go p e below s _ _ (Tj105.setTop (mkF m 220 #[.val (.int pp), .val (.long c0), .second, .val (.long c1), .second, .val (.long c2), .second, .val (.long c3), .second, .val (.int (3 : Int32)), .val (.ref b82), .val (.int lo), .unset] [(.long c0), (.int (1 : Int32))]))
            obtain ⟨_, _, ⟨T111, L111, k111, n111⟩, -, X111, ⟨Lc111, hQ111, l111, y111, z111⟩, st111⟩ := Jvm.LawKit.callS Xj105 hx (y := (⟨"com/example/liftwise/liftwise/eval/arithmetic/SidesIsExactPinLaw", "upperFine", "(ZJ)Z"⟩ : MethodName)) hown (mvT hZ (hw _ (List.mem_of_getElem? (i := 18) rfl))) (mvT hZ (hw _ (List.mem_of_getElem? (i := 19) rfl))) (mvT hZ (hw _ (List.mem_of_getElem? (i := 16) rfl))) (mvT hZ (hw _ (List.mem_of_getElem? (i := 20) rfl))) (by decide) (backOf (W := 0) (rm_upperFine l Z a0 hw [] (1 : Int32) c0 UF0 T104.heap n0 hUF0) hZ (hw _ (List.mem_of_getElem? (i := 20) rfl)) (hw _ (List.mem_of_getElem? (i := 16) rfl)) (by decide) (by decide)) (g := (mkF m 220 #[.val (.int pp), .val (.long c0), .second, .val (.long c1), .second, .val (.long c2), .second, .val (.long c3), .second, .val (.int (3 : Int32)), .val (.ref b82), .val (.int lo), .unset] [(.long c0), (.int (1 : Int32))])) rfl (by rw [hml]; rfl) (argsL := [(.int (1 : Int32)), (.long c0)]) (rest := []) (lenOf pd_1 rfl) rfl (by show 2 * 0 + _ ≤ _; exact Nat.le_of_eq rfl) (hb hby at_220) (fun _ _ => ⟨rfl, ej105, (by decide : ((((((1 + 2) + 1) + 2) + 1) + 2) + 1) + 0 ≤ _), (by decide : ((((((4 + 8) + 6) + 8) + 6) + 8) + 6) + 0 ≤ _)⟩)
            dsimp only [Pt.U, Pt.locs, Pt.cells, Pt.slots] at X111 l111 y111 z111 st111 hQ111
            rw [l111, y111, z111] at X111
            obtain ⟨rfl, Nq111, e111⟩ := hQ111
            have N111 := Fr.app Nj105 Nq111
            refine own_by st111 ?_
            show own_Go p e below s _ _ (T111.setTop (mkF m 223 #[.val (.int pp), .val (.long c0), .second, .val (.long c1), .second, .val (.long c2), .second, .val (.long c3), .second, .val (.int (3 : Int32)), .val (.ref b82), .val (.int lo), .unset] [(.int UF0)]))
            by_cases hc223_112 : UF0 = (0 : Int32)
            · refine own_by (fun tz kz => XS.ifYes X111.here hx rfl (pc0 := 223) (pc' := 286) rfl (hb hby at_223) rfl ((if0 _ _).trans (teq hc223_112).1) (by decide) (by decide) kz) ?_
              show own_Go p e below s _ _ (T111.setTop (mkF m 286 #[.val (.int pp), .val (.long c0), .second, .val (.long c1), .second, .val (.long c2), .second, .val (.long c3), .second, .val (.int (3 : Int32)), .val (.ref b82), .val (.int lo), .unset] []))
              refine own_by (fun tz kz => XS.iconst X111.here hx rfl (hb hby at_286) kz) ?_
              show own_Go p e below s _ _ (T111.setTop (mkF m 287 #[.val (.int pp), .val (.long c0), .second, .val (.long c1), .second, .val (.long c2), .second, .val (.long c3), .second, .val (.int (3 : Int32)), .val (.ref b82), .val (.int lo), .unset] [(.int (0 : Int32))]))
              refine own_by (fun tz kz => XS.istore X111.here hx rfl (hb hby at_287) rfl (l' := #[.val (.int pp), .val (.long c0), .second, .val (.long c1), .second, .val (.long c2), .second, .val (.long c3), .second, .val (.int (3 : Int32)), .val (.ref b82), .val (.int lo), .val (.int (0 : Int32))]) rfl kz) ?_
              exact J289 _ _ X111 e111 N111 _ (by simp [own_all, hc223_112])
            · refine own_by (fun tz kz => XS.ifNo X111.here hx rfl (hb hby at_223) rfl ((if0 _ _).trans (feq hc223_112).1) kz) ?_
              show own_Go p e below s _ _ (T111.setTop (mkF m 226 #[.val (.int pp), .val (.long c0), .second, .val (.long c1), .second, .val (.long c2), .second, .val (.long c3), .second, .val (.int (3 : Int32)), .val (.ref b82), .val (.int lo), .unset] []))
              refine own_by (fun tz kz => XS.iload X111.here hx rfl (hb hby at_226) rfl  kz) ?_
              show own_Go p e below s _ _ (T111.setTop (mkF m 228 #[.val (.int pp), .val (.long c0), .second, .val (.long c1), .second, .val (.long c2), .second, .val (.long c3), .second, .val (.int (3 : Int32)), .val (.ref b82), .val (.int lo), .unset] [(.int (3 : Int32))]))
              refine own_by (fun tz kz => XS.iconst X111.here hx rfl (hb hby at_228) kz) ?_
              show own_Go p e below s _ _ (T111.setTop (mkF m 229 #[.val (.int pp), .val (.long c0), .second, .val (.long c1), .second, .val (.long c2), .second, .val (.long c3), .second, .val (.int (3 : Int32)), .val (.ref b82), .val (.int lo), .unset] [(.int (1 : Int32)), (.int (3 : Int32))]))
              refine own_by (fun tz kz => XS.icmpNo X111.here hx rfl (hb hby at_229) rfl (tlt (by decide : (1 : Int32) < (3 : Int32))).2.2.2 kz) ?_
              show own_Go p e below s _ _ (T111.setTop (mkF m 232 #[.val (.int pp), .val (.long c0), .second, .val (.long c1), .second, .val (.long c2), .second, .val (.long c3), .second, .val (.int (3 : Int32)), .val (.ref b82), .val (.int lo), .unset] []))
              refine own_by (fun tz kz => XS.iconst X111.here hx rfl (hb hby at_232) kz) ?_
              show own_Go p e below s _ _ (T111.setTop (mkF m 233 #[.val (.int pp), .val (.long c0), .second, .val (.long c1), .second, .val (.long c2), .second, .val (.long c3), .second, .val (.int (3 : Int32)), .val (.ref b82), .val (.int lo), .unset] [(.int (1 : Int32))]))
              refine own_by (fun tz kz => XS.goto X111.here hx rfl (pc0 := 233) (pc' := 237) rfl (hb hby at_233) (by decide) (by decide) kz) ?_
              show own_Go p e below s _ _ (T111.setTop (mkF m 237 #[.val (.int pp), .val (.long c0), .second, .val (.long c1), .second, .val (.long c2), .second, .val (.long c3), .second, .val (.int (3 : Int32)), .val (.ref b82), .val (.int lo), .unset] [(.int (1 : Int32))]))
              refine own_by (fun tz kz => XS.lloadN X111.here hx rfl (hb hby at_237) rfl kz) ?_
              show own_Go p e below s _ _ (T111.setTop (mkF m 238 #[.val (.int pp), .val (.long c0), .second, .val (.long c1), .second, .val (.long c2), .second, .val (.long c3), .second, .val (.int (3 : Int32)), .val (.ref b82), .val (.int lo), .unset] [(.long c1), (.int (1 : Int32))]))
              obtain ⟨_, _, ⟨T113, L113, k113, n113⟩, -, X113, ⟨Lc113, hQ113, l113, y113, z113⟩, st113⟩ := Jvm.LawKit.callS X111 hx (y := (⟨"com/example/liftwise/liftwise/eval/arithmetic/SidesIsExactPinLaw", "upperFine", "(ZJ)Z"⟩ : MethodName)) hown (mvT hZ (hw _ (List.mem_of_getElem? (i := 18) rfl))) (mvT hZ (hw _ (List.mem_of_getElem? (i := 19) rfl))) (mvT hZ (hw _ (List.mem_of_getElem? (i := 16) rfl))) (mvT hZ (hw _ (List.mem_of_getElem? (i := 20) rfl))) (by decide) (backOf (W := 0) (rm_upperFine l Z a0 hw [] (1 : Int32) c1 UF1 T104.heap n0 hUF1) hZ (hw _ (List.mem_of_getElem? (i := 20) rfl)) (hw _ (List.mem_of_getElem? (i := 16) rfl)) (by decide) (by decide)) (g := (mkF m 238 #[.val (.int pp), .val (.long c0), .second, .val (.long c1), .second, .val (.long c2), .second, .val (.long c3), .second, .val (.int (3 : Int32)), .val (.ref b82), .val (.int lo), .unset] [(.long c1), (.int (1 : Int32))])) rfl (by rw [hml]; rfl) (argsL := [(.int (1 : Int32)), (.long c1)]) (rest := []) (lenOf pd_1 rfl) rfl (by show 2 * 0 + _ ≤ _; exact Nat.le_of_eq rfl) (hb hby at_238) (fun _ _ => ⟨rfl, e111, (by decide : ((((((1 + 2) + 1) + 2) + 1) + 2) + 1) + 0 ≤ _), (by decide : ((((((4 + 8) + 6) + 8) + 6) + 8) + 6) + 0 ≤ _)⟩)
              dsimp only [Pt.U, Pt.locs, Pt.cells, Pt.slots] at X113 l113 y113 z113 st113 hQ113
              rw [l113, y113, z113] at X113
              obtain ⟨rfl, Nq113, e113⟩ := hQ113
              have N113 := Fr.app N111 Nq113
              refine own_by st113 ?_
              show own_Go p e below s _ _ (T113.setTop (mkF m 241 #[.val (.int pp), .val (.long c0), .second, .val (.long c1), .second, .val (.long c2), .second, .val (.long c3), .second, .val (.int (3 : Int32)), .val (.ref b82), .val (.int lo), .unset] [(.int UF1)]))
              by_cases hc241_114 : UF1 = (0 : Int32)
              · refine own_by (fun tz kz => XS.ifYes X113.here hx rfl (pc0 := 241) (pc' := 286) rfl (hb hby at_241) rfl ((if0 _ _).trans (teq hc241_114).1) (by decide) (by decide) kz) ?_
                show own_Go p e below s _ _ (T113.setTop (mkF m 286 #[.val (.int pp), .val (.long c0), .second, .val (.long c1), .second, .val (.long c2), .second, .val (.long c3), .second, .val (.int (3 : Int32)), .val (.ref b82), .val (.int lo), .unset] []))
                refine own_by (fun tz kz => XS.iconst X113.here hx rfl (hb hby at_286) kz) ?_
                show own_Go p e below s _ _ (T113.setTop (mkF m 287 #[.val (.int pp), .val (.long c0), .second, .val (.long c1), .second, .val (.long c2), .second, .val (.long c3), .second, .val (.int (3 : Int32)), .val (.ref b82), .val (.int lo), .unset] [(.int (0 : Int32))]))
                refine own_by (fun tz kz => XS.istore X113.here hx rfl (hb hby at_287) rfl (l' := #[.val (.int pp), .val (.long c0), .second, .val (.long c1), .second, .val (.long c2), .second, .val (.long c3), .second, .val (.int (3 : Int32)), .val (.ref b82), .val (.int lo), .val (.int (0 : Int32))]) rfl kz) ?_
                exact J289 _ _ X113 e113 N113 _ (by simp [own_all, hc223_112, hc241_114])
              · refine own_by (fun tz kz => XS.ifNo X113.here hx rfl (hb hby at_241) rfl ((if0 _ _).trans (feq hc241_114).1) kz) ?_
                show own_Go p e below s _ _ (T113.setTop (mkF m 244 #[.val (.int pp), .val (.long c0), .second, .val (.long c1), .second, .val (.long c2), .second, .val (.long c3), .second, .val (.int (3 : Int32)), .val (.ref b82), .val (.int lo), .unset] []))
                refine own_by (fun tz kz => XS.iload X113.here hx rfl (hb hby at_244) rfl  kz) ?_
                show own_Go p e below s _ _ (T113.setTop (mkF m 246 #[.val (.int pp), .val (.long c0), .second, .val (.long c1), .second, .val (.long c2), .second, .val (.long c3), .second, .val (.int (3 : Int32)), .val (.ref b82), .val (.int lo), .unset] [(.int (3 : Int32))]))
                refine own_by (fun tz kz => XS.iconst X113.here hx rfl (hb hby at_246) kz) ?_
                show own_Go p e below s _ _ (T113.setTop (mkF m 247 #[.val (.int pp), .val (.long c0), .second, .val (.long c1), .second, .val (.long c2), .second, .val (.long c3), .second, .val (.int (3 : Int32)), .val (.ref b82), .val (.int lo), .unset] [(.int (2 : Int32)), (.int (3 : Int32))]))
                refine own_by (fun tz kz => XS.icmpNo X113.here hx rfl (hb hby at_247) rfl (tlt (by decide : (2 : Int32) < (3 : Int32))).2.2.2 kz) ?_
                show own_Go p e below s _ _ (T113.setTop (mkF m 250 #[.val (.int pp), .val (.long c0), .second, .val (.long c1), .second, .val (.long c2), .second, .val (.long c3), .second, .val (.int (3 : Int32)), .val (.ref b82), .val (.int lo), .unset] []))
                refine own_by (fun tz kz => XS.iconst X113.here hx rfl (hb hby at_250) kz) ?_
                show own_Go p e below s _ _ (T113.setTop (mkF m 251 #[.val (.int pp), .val (.long c0), .second, .val (.long c1), .second, .val (.long c2), .second, .val (.long c3), .second, .val (.int (3 : Int32)), .val (.ref b82), .val (.int lo), .unset] [(.int (1 : Int32))]))
                refine own_by (fun tz kz => XS.goto X113.here hx rfl (pc0 := 251) (pc' := 255) rfl (hb hby at_251) (by decide) (by decide) kz) ?_
                show own_Go p e below s _ _ (T113.setTop (mkF m 255 #[.val (.int pp), .val (.long c0), .second, .val (.long c1), .second, .val (.long c2), .second, .val (.long c3), .second, .val (.int (3 : Int32)), .val (.ref b82), .val (.int lo), .unset] [(.int (1 : Int32))]))
                refine own_by (fun tz kz => XS.lload X113.here hx rfl (hb hby at_255) rfl kz) ?_
                show own_Go p e below s _ _ (T113.setTop (mkF m 257 #[.val (.int pp), .val (.long c0), .second, .val (.long c1), .second, .val (.long c2), .second, .val (.long c3), .second, .val (.int (3 : Int32)), .val (.ref b82), .val (.int lo), .unset] [(.long c2), (.int (1 : Int32))]))
                obtain ⟨_, _, ⟨T115, L115, k115, n115⟩, -, X115, ⟨Lc115, hQ115, l115, y115, z115⟩, st115⟩ := Jvm.LawKit.callS X113 hx (y := (⟨"com/example/liftwise/liftwise/eval/arithmetic/SidesIsExactPinLaw", "upperFine", "(ZJ)Z"⟩ : MethodName)) hown (mvT hZ (hw _ (List.mem_of_getElem? (i := 18) rfl))) (mvT hZ (hw _ (List.mem_of_getElem? (i := 19) rfl))) (mvT hZ (hw _ (List.mem_of_getElem? (i := 16) rfl))) (mvT hZ (hw _ (List.mem_of_getElem? (i := 20) rfl))) (by decide) (backOf (W := 0) (rm_upperFine l Z a0 hw [] (1 : Int32) c2 UF2 T104.heap n0 hUF2) hZ (hw _ (List.mem_of_getElem? (i := 20) rfl)) (hw _ (List.mem_of_getElem? (i := 16) rfl)) (by decide) (by decide)) (g := (mkF m 257 #[.val (.int pp), .val (.long c0), .second, .val (.long c1), .second, .val (.long c2), .second, .val (.long c3), .second, .val (.int (3 : Int32)), .val (.ref b82), .val (.int lo), .unset] [(.long c2), (.int (1 : Int32))])) rfl (by rw [hml]; rfl) (argsL := [(.int (1 : Int32)), (.long c2)]) (rest := []) (lenOf pd_1 rfl) rfl (by show 2 * 0 + _ ≤ _; exact Nat.le_of_eq rfl) (hb hby at_257) (fun _ _ => ⟨rfl, e113, (by decide : ((((((1 + 2) + 1) + 2) + 1) + 2) + 1) + 0 ≤ _), (by decide : ((((((4 + 8) + 6) + 8) + 6) + 8) + 6) + 0 ≤ _)⟩)
                dsimp only [Pt.U, Pt.locs, Pt.cells, Pt.slots] at X115 l115 y115 z115 st115 hQ115
                rw [l115, y115, z115] at X115
                obtain ⟨rfl, Nq115, e115⟩ := hQ115
                have N115 := Fr.app N113 Nq115
                refine own_by st115 ?_
                show own_Go p e below s _ _ (T115.setTop (mkF m 260 #[.val (.int pp), .val (.long c0), .second, .val (.long c1), .second, .val (.long c2), .second, .val (.long c3), .second, .val (.int (3 : Int32)), .val (.ref b82), .val (.int lo), .unset] [(.int UF2)]))
                by_cases hc260_116 : UF2 = (0 : Int32)
                · refine own_by (fun tz kz => XS.ifYes X115.here hx rfl (pc0 := 260) (pc' := 286) rfl (hb hby at_260) rfl ((if0 _ _).trans (teq hc260_116).1) (by decide) (by decide) kz) ?_
                  show own_Go p e below s _ _ (T115.setTop (mkF m 286 #[.val (.int pp), .val (.long c0), .second, .val (.long c1), .second, .val (.long c2), .second, .val (.long c3), .second, .val (.int (3 : Int32)), .val (.ref b82), .val (.int lo), .unset] []))
                  refine own_by (fun tz kz => XS.iconst X115.here hx rfl (hb hby at_286) kz) ?_
                  show own_Go p e below s _ _ (T115.setTop (mkF m 287 #[.val (.int pp), .val (.long c0), .second, .val (.long c1), .second, .val (.long c2), .second, .val (.long c3), .second, .val (.int (3 : Int32)), .val (.ref b82), .val (.int lo), .unset] [(.int (0 : Int32))]))
                  refine own_by (fun tz kz => XS.istore X115.here hx rfl (hb hby at_287) rfl (l' := #[.val (.int pp), .val (.long c0), .second, .val (.long c1), .second, .val (.long c2), .second, .val (.long c3), .second, .val (.int (3 : Int32)), .val (.ref b82), .val (.int lo), .val (.int (0 : Int32))]) rfl kz) ?_
                  exact J289 _ _ X115 e115 N115 _ (by simp [own_all, hc223_112, hc241_114, hc260_116])
                · refine own_by (fun tz kz => XS.ifNo X115.here hx rfl (hb hby at_260) rfl ((if0 _ _).trans (feq hc260_116).1) kz) ?_
                  show own_Go p e below s _ _ (T115.setTop (mkF m 263 #[.val (.int pp), .val (.long c0), .second, .val (.long c1), .second, .val (.long c2), .second, .val (.long c3), .second, .val (.int (3 : Int32)), .val (.ref b82), .val (.int lo), .unset] []))
                  refine own_by (fun tz kz => XS.iload X115.here hx rfl (hb hby at_263) rfl  kz) ?_
                  show own_Go p e below s _ _ (T115.setTop (mkF m 265 #[.val (.int pp), .val (.long c0), .second, .val (.long c1), .second, .val (.long c2), .second, .val (.long c3), .second, .val (.int (3 : Int32)), .val (.ref b82), .val (.int lo), .unset] [(.int (3 : Int32))]))
                  refine own_by (fun tz kz => XS.iconst X115.here hx rfl (hb hby at_265) kz) ?_
                  show own_Go p e below s _ _ (T115.setTop (mkF m 266 #[.val (.int pp), .val (.long c0), .second, .val (.long c1), .second, .val (.long c2), .second, .val (.long c3), .second, .val (.int (3 : Int32)), .val (.ref b82), .val (.int lo), .unset] [(.int (3 : Int32)), (.int (3 : Int32))]))
                  refine own_by (fun tz kz => XS.icmpYes X115.here hx rfl (pc0 := 266) (pc' := 273) rfl (hb hby at_266) rfl (flt (by decide : ¬ (3 : Int32) < (3 : Int32))).2.2.2 (by decide) (by decide) kz) ?_
                  show own_Go p e below s _ _ (T115.setTop (mkF m 273 #[.val (.int pp), .val (.long c0), .second, .val (.long c1), .second, .val (.long c2), .second, .val (.long c3), .second, .val (.int (3 : Int32)), .val (.ref b82), .val (.int lo), .unset] []))
                  refine own_by (fun tz kz => XS.iconst X115.here hx rfl (hb hby at_273) kz) ?_
                  show own_Go p e below s _ _ (T115.setTop (mkF m 274 #[.val (.int pp), .val (.long c0), .second, .val (.long c1), .second, .val (.long c2), .second, .val (.long c3), .second, .val (.int (3 : Int32)), .val (.ref b82), .val (.int lo), .unset] [(.int (0 : Int32))]))
                  refine own_by (fun tz kz => XS.lload X115.here hx rfl (hb hby at_274) rfl kz) ?_
                  show own_Go p e below s _ _ (T115.setTop (mkF m 276 #[.val (.int pp), .val (.long c0), .second, .val (.long c1), .second, .val (.long c2), .second, .val (.long c3), .second, .val (.int (3 : Int32)), .val (.ref b82), .val (.int lo), .unset] [(.long c3), (.int (0 : Int32))]))
                  obtain ⟨_, _, ⟨T117, L117, k117, n117⟩, -, X117, ⟨Lc117, hQ117, l117, y117, z117⟩, st117⟩ := Jvm.LawKit.callS X115 hx (y := (⟨"com/example/liftwise/liftwise/eval/arithmetic/SidesIsExactPinLaw", "upperFine", "(ZJ)Z"⟩ : MethodName)) hown (mvT hZ (hw _ (List.mem_of_getElem? (i := 18) rfl))) (mvT hZ (hw _ (List.mem_of_getElem? (i := 19) rfl))) (mvT hZ (hw _ (List.mem_of_getElem? (i := 16) rfl))) (mvT hZ (hw _ (List.mem_of_getElem? (i := 20) rfl))) (by decide) (backOf (W := 0) (rm_upperFine l Z a0 hw [] (0 : Int32) c3 (1 : Int32) T104.heap n0 (own_uf0 _)) hZ (hw _ (List.mem_of_getElem? (i := 20) rfl)) (hw _ (List.mem_of_getElem? (i := 16) rfl)) (by decide) (by decide)) (g := (mkF m 276 #[.val (.int pp), .val (.long c0), .second, .val (.long c1), .second, .val (.long c2), .second, .val (.long c3), .second, .val (.int (3 : Int32)), .val (.ref b82), .val (.int lo), .unset] [(.long c3), (.int (0 : Int32))])) rfl (by rw [hml]; rfl) (argsL := [(.int (0 : Int32)), (.long c3)]) (rest := []) (lenOf pd_1 rfl) rfl (by show 2 * 0 + _ ≤ _; exact Nat.le_of_eq rfl) (hb hby at_276) (fun _ _ => ⟨rfl, e115, (by decide : ((((((1 + 2) + 1) + 2) + 1) + 2) + 1) + 0 ≤ _), (by decide : ((((((4 + 8) + 6) + 8) + 6) + 8) + 6) + 0 ≤ _)⟩)
                  dsimp only [Pt.U, Pt.locs, Pt.cells, Pt.slots] at X117 l117 y117 z117 st117 hQ117
                  rw [l117, y117, z117] at X117
                  obtain ⟨rfl, Nq117, e117⟩ := hQ117
                  have N117 := Fr.app N115 Nq117
                  refine own_by st117 ?_
                  show own_Go p e below s _ _ (T117.setTop (mkF m 279 #[.val (.int pp), .val (.long c0), .second, .val (.long c1), .second, .val (.long c2), .second, .val (.long c3), .second, .val (.int (3 : Int32)), .val (.ref b82), .val (.int lo), .unset] [(.int (1 : Int32))]))
                  refine own_by (fun tz kz => XS.ifNo X117.here hx rfl (hb hby at_279) rfl ((if0 _ _).trans (feq (by decide : ¬ (1 : Int32) = (0 : Int32))).1) kz) ?_
                  show own_Go p e below s _ _ (T117.setTop (mkF m 282 #[.val (.int pp), .val (.long c0), .second, .val (.long c1), .second, .val (.long c2), .second, .val (.long c3), .second, .val (.int (3 : Int32)), .val (.ref b82), .val (.int lo), .unset] []))
                  refine own_by (fun tz kz => XS.iconst X117.here hx rfl (hb hby at_282) kz) ?_
                  show own_Go p e below s _ _ (T117.setTop (mkF m 283 #[.val (.int pp), .val (.long c0), .second, .val (.long c1), .second, .val (.long c2), .second, .val (.long c3), .second, .val (.int (3 : Int32)), .val (.ref b82), .val (.int lo), .unset] [(.int (1 : Int32))]))
                  refine own_by (fun tz kz => XS.goto X117.here hx rfl (pc0 := 283) (pc' := 287) rfl (hb hby at_283) (by decide) (by decide) kz) ?_
                  show own_Go p e below s _ _ (T117.setTop (mkF m 287 #[.val (.int pp), .val (.long c0), .second, .val (.long c1), .second, .val (.long c2), .second, .val (.long c3), .second, .val (.int (3 : Int32)), .val (.ref b82), .val (.int lo), .unset] [(.int (1 : Int32))]))
                  refine own_by (fun tz kz => XS.istore X117.here hx rfl (hb hby at_287) rfl (l' := #[.val (.int pp), .val (.long c0), .second, .val (.long c1), .second, .val (.long c2), .second, .val (.long c3), .second, .val (.int (3 : Int32)), .val (.ref b82), .val (.int lo), .val (.int (1 : Int32))]) rfl kz) ?_
                  exact J289 _ _ X117 e117 N117 _ (by simp [own_all, hc223_112, hc241_114, hc260_116])
          show own_Go p e below s _ _ (T104.setTop (mkF m 129 #[.val (.int pp), .val (.long c0), .second, .val (.long c1), .second, .val (.long c2), .second, .val (.long c3), .second, .val (.int (3 : Int32)), .val (.ref b82), .unset, .unset] []))
          refine own_by (fun tz kz => XS.iload X104.here hx rfl (hb hby at_129) rfl  kz) ?_
          show own_Go p e below s _ _ (T104.setTop (mkF m 131 #[.val (.int pp), .val (.long c0), .second, .val (.long c1), .second, .val (.long c2), .second, .val (.long c3), .second, .val (.int (3 : Int32)), .val (.ref b82), .unset, .unset] [(.int (3 : Int32))]))
          refine own_by (fun tz kz => XS.ifNo X104.here hx rfl (hb hby at_131) rfl ((if0 _ _).trans (tlt (by decide : (0 : Int32) < (3 : Int32))).2.2.2) kz) ?_
          show own_Go p e below s _ _ (T104.setTop (mkF m 134 #[.val (.int pp), .val (.long c0), .second, .val (.long c1), .second, .val (.long c2), .second, .val (.long c3), .second, .val (.int (3 : Int32)), .val (.ref b82), .unset, .unset] []))
          refine own_by (fun tz kz => XS.iconst X104.here hx rfl (hb hby at_134) kz) ?_
          show own_Go p e below s _ _ (T104.setTop (mkF m 135 #[.val (.int pp), .val (.long c0), .second, .val (.long c1), .second, .val (.long c2), .second, .val (.long c3), .second, .val (.int (3 : Int32)), .val (.ref b82), .unset, .unset] [(.int (1 : Int32))]))
          refine own_by (fun tz kz => XS.goto X104.here hx rfl (pc0 := 135) (pc' := 139) rfl (hb hby at_135) (by decide) (by decide) kz) ?_
          show own_Go p e below s _ _ (T104.setTop (mkF m 139 #[.val (.int pp), .val (.long c0), .second, .val (.long c1), .second, .val (.long c2), .second, .val (.long c3), .second, .val (.int (3 : Int32)), .val (.ref b82), .unset, .unset] [(.int (1 : Int32))]))
          refine own_by (fun tz kz => XS.lloadN X104.here hx rfl (hb hby at_139) rfl kz) ?_
          show own_Go p e below s _ _ (T104.setTop (mkF m 140 #[.val (.int pp), .val (.long c0), .second, .val (.long c1), .second, .val (.long c2), .second, .val (.long c3), .second, .val (.int (3 : Int32)), .val (.ref b82), .unset, .unset] [(.long c0), (.int (1 : Int32))]))
          obtain ⟨_, _, ⟨T118, L118, k118, n118⟩, -, X118, ⟨Lc118, hQ118, l118, y118, z118⟩, st118⟩ := Jvm.LawKit.callS X104 hx (y := (⟨"com/example/liftwise/liftwise/eval/arithmetic/SidesIsExactPinLaw", "lowerFine", "(ZJ)Z"⟩ : MethodName)) hown (mvT hZ (hw _ (List.mem_of_getElem? (i := 14) rfl))) (mvT hZ (hw _ (List.mem_of_getElem? (i := 15) rfl))) (mvT hZ (hw _ (List.mem_of_getElem? (i := 16) rfl))) (mvT hZ (hw _ (List.mem_of_getElem? (i := 17) rfl))) (by decide) (backOf (W := 0) (rm_lowerFine l Z a0 hw [] (1 : Int32) c0 LF0 T104.heap n0 hLF0) hZ (hw _ (List.mem_of_getElem? (i := 17) rfl)) (hw _ (List.mem_of_getElem? (i := 16) rfl)) (by decide) (by decide)) (g := (mkF m 140 #[.val (.int pp), .val (.long c0), .second, .val (.long c1), .second, .val (.long c2), .second, .val (.long c3), .second, .val (.int (3 : Int32)), .val (.ref b82), .unset, .unset] [(.long c0), (.int (1 : Int32))])) rfl (by rw [hml]; rfl) (argsL := [(.int (1 : Int32)), (.long c0)]) (rest := []) (lenOf pd_1 rfl) rfl (by show 2 * 0 + _ ≤ _; exact Nat.le_of_eq rfl) (hb hby at_140) (fun _ _ => ⟨rfl, e104, (by decide : ((((((1 + 2) + 1) + 2) + 1) + 2) + 1) + 0 ≤ _), (by decide : ((((((4 + 8) + 6) + 8) + 6) + 8) + 6) + 0 ≤ _)⟩)
          dsimp only [Pt.U, Pt.locs, Pt.cells, Pt.slots] at X118 l118 y118 z118 st118 hQ118
          rw [l118, y118, z118] at X118
          obtain ⟨rfl, Nq118, e118⟩ := hQ118
          have N118 := Fr.app N104 Nq118
          refine own_by st118 ?_
          show own_Go p e below s _ _ (T118.setTop (mkF m 143 #[.val (.int pp), .val (.long c0), .second, .val (.long c1), .second, .val (.long c2), .second, .val (.long c3), .second, .val (.int (3 : Int32)), .val (.ref b82), .unset, .unset] [(.int LF0)]))
          by_cases hc143_119 : LF0 = (0 : Int32)
          · refine own_by (fun tz kz => XS.ifYes X118.here hx rfl (pc0 := 143) (pc' := 206) rfl (hb hby at_143) rfl ((if0 _ _).trans (teq hc143_119).1) (by decide) (by decide) kz) ?_
            show own_Go p e below s _ _ (T118.setTop (mkF m 206 #[.val (.int pp), .val (.long c0), .second, .val (.long c1), .second, .val (.long c2), .second, .val (.long c3), .second, .val (.int (3 : Int32)), .val (.ref b82), .unset, .unset] []))
            refine own_by (fun tz kz => XS.iconst X118.here hx rfl (hb hby at_206) kz) ?_
            show own_Go p e below s _ _ (T118.setTop (mkF m 207 #[.val (.int pp), .val (.long c0), .second, .val (.long c1), .second, .val (.long c2), .second, .val (.long c3), .second, .val (.int (3 : Int32)), .val (.ref b82), .unset, .unset] [(.int (0 : Int32))]))
            refine own_by (fun tz kz => XS.istore X118.here hx rfl (hb hby at_207) rfl (l' := #[.val (.int pp), .val (.long c0), .second, .val (.long c1), .second, .val (.long c2), .second, .val (.long c3), .second, .val (.int (3 : Int32)), .val (.ref b82), .val (.int (0 : Int32)), .unset]) rfl kz) ?_
            exact J209 _ _ X118 e118 N118 _ (by simp [own_all, hc143_119])
          · refine own_by (fun tz kz => XS.ifNo X118.here hx rfl (hb hby at_143) rfl ((if0 _ _).trans (feq hc143_119).1) kz) ?_
            show own_Go p e below s _ _ (T118.setTop (mkF m 146 #[.val (.int pp), .val (.long c0), .second, .val (.long c1), .second, .val (.long c2), .second, .val (.long c3), .second, .val (.int (3 : Int32)), .val (.ref b82), .unset, .unset] []))
            refine own_by (fun tz kz => XS.iload X118.here hx rfl (hb hby at_146) rfl  kz) ?_
            show own_Go p e below s _ _ (T118.setTop (mkF m 148 #[.val (.int pp), .val (.long c0), .second, .val (.long c1), .second, .val (.long c2), .second, .val (.long c3), .second, .val (.int (3 : Int32)), .val (.ref b82), .unset, .unset] [(.int (3 : Int32))]))
            refine own_by (fun tz kz => XS.iconst X118.here hx rfl (hb hby at_148) kz) ?_
            show own_Go p e below s _ _ (T118.setTop (mkF m 149 #[.val (.int pp), .val (.long c0), .second, .val (.long c1), .second, .val (.long c2), .second, .val (.long c3), .second, .val (.int (3 : Int32)), .val (.ref b82), .unset, .unset] [(.int (1 : Int32)), (.int (3 : Int32))]))
            refine own_by (fun tz kz => XS.icmpNo X118.here hx rfl (hb hby at_149) rfl (tlt (by decide : (1 : Int32) < (3 : Int32))).2.2.2 kz) ?_
            show own_Go p e below s _ _ (T118.setTop (mkF m 152 #[.val (.int pp), .val (.long c0), .second, .val (.long c1), .second, .val (.long c2), .second, .val (.long c3), .second, .val (.int (3 : Int32)), .val (.ref b82), .unset, .unset] []))
            refine own_by (fun tz kz => XS.iconst X118.here hx rfl (hb hby at_152) kz) ?_
            show own_Go p e below s _ _ (T118.setTop (mkF m 153 #[.val (.int pp), .val (.long c0), .second, .val (.long c1), .second, .val (.long c2), .second, .val (.long c3), .second, .val (.int (3 : Int32)), .val (.ref b82), .unset, .unset] [(.int (1 : Int32))]))
            refine own_by (fun tz kz => XS.goto X118.here hx rfl (pc0 := 153) (pc' := 157) rfl (hb hby at_153) (by decide) (by decide) kz) ?_
            show own_Go p e below s _ _ (T118.setTop (mkF m 157 #[.val (.int pp), .val (.long c0), .second, .val (.long c1), .second, .val (.long c2), .second, .val (.long c3), .second, .val (.int (3 : Int32)), .val (.ref b82), .unset, .unset] [(.int (1 : Int32))]))
            refine own_by (fun tz kz => XS.lloadN X118.here hx rfl (hb hby at_157) rfl kz) ?_
            show own_Go p e below s _ _ (T118.setTop (mkF m 158 #[.val (.int pp), .val (.long c0), .second, .val (.long c1), .second, .val (.long c2), .second, .val (.long c3), .second, .val (.int (3 : Int32)), .val (.ref b82), .unset, .unset] [(.long c1), (.int (1 : Int32))]))
            obtain ⟨_, _, ⟨T120, L120, k120, n120⟩, -, X120, ⟨Lc120, hQ120, l120, y120, z120⟩, st120⟩ := Jvm.LawKit.callS X118 hx (y := (⟨"com/example/liftwise/liftwise/eval/arithmetic/SidesIsExactPinLaw", "lowerFine", "(ZJ)Z"⟩ : MethodName)) hown (mvT hZ (hw _ (List.mem_of_getElem? (i := 14) rfl))) (mvT hZ (hw _ (List.mem_of_getElem? (i := 15) rfl))) (mvT hZ (hw _ (List.mem_of_getElem? (i := 16) rfl))) (mvT hZ (hw _ (List.mem_of_getElem? (i := 17) rfl))) (by decide) (backOf (W := 0) (rm_lowerFine l Z a0 hw [] (1 : Int32) c1 LF1 T104.heap n0 hLF1) hZ (hw _ (List.mem_of_getElem? (i := 17) rfl)) (hw _ (List.mem_of_getElem? (i := 16) rfl)) (by decide) (by decide)) (g := (mkF m 158 #[.val (.int pp), .val (.long c0), .second, .val (.long c1), .second, .val (.long c2), .second, .val (.long c3), .second, .val (.int (3 : Int32)), .val (.ref b82), .unset, .unset] [(.long c1), (.int (1 : Int32))])) rfl (by rw [hml]; rfl) (argsL := [(.int (1 : Int32)), (.long c1)]) (rest := []) (lenOf pd_1 rfl) rfl (by show 2 * 0 + _ ≤ _; exact Nat.le_of_eq rfl) (hb hby at_158) (fun _ _ => ⟨rfl, e118, (by decide : ((((((1 + 2) + 1) + 2) + 1) + 2) + 1) + 0 ≤ _), (by decide : ((((((4 + 8) + 6) + 8) + 6) + 8) + 6) + 0 ≤ _)⟩)
            dsimp only [Pt.U, Pt.locs, Pt.cells, Pt.slots] at X120 l120 y120 z120 st120 hQ120
            rw [l120, y120, z120] at X120
            obtain ⟨rfl, Nq120, e120⟩ := hQ120
            have N120 := Fr.app N118 Nq120
            refine own_by st120 ?_
            show own_Go p e below s _ _ (T120.setTop (mkF m 161 #[.val (.int pp), .val (.long c0), .second, .val (.long c1), .second, .val (.long c2), .second, .val (.long c3), .second, .val (.int (3 : Int32)), .val (.ref b82), .unset, .unset] [(.int LF1)]))
            by_cases hc161_121 : LF1 = (0 : Int32)
            · refine own_by (fun tz kz => XS.ifYes X120.here hx rfl (pc0 := 161) (pc' := 206) rfl (hb hby at_161) rfl ((if0 _ _).trans (teq hc161_121).1) (by decide) (by decide) kz) ?_
              show own_Go p e below s _ _ (T120.setTop (mkF m 206 #[.val (.int pp), .val (.long c0), .second, .val (.long c1), .second, .val (.long c2), .second, .val (.long c3), .second, .val (.int (3 : Int32)), .val (.ref b82), .unset, .unset] []))
              refine own_by (fun tz kz => XS.iconst X120.here hx rfl (hb hby at_206) kz) ?_
              show own_Go p e below s _ _ (T120.setTop (mkF m 207 #[.val (.int pp), .val (.long c0), .second, .val (.long c1), .second, .val (.long c2), .second, .val (.long c3), .second, .val (.int (3 : Int32)), .val (.ref b82), .unset, .unset] [(.int (0 : Int32))]))
              refine own_by (fun tz kz => XS.istore X120.here hx rfl (hb hby at_207) rfl (l' := #[.val (.int pp), .val (.long c0), .second, .val (.long c1), .second, .val (.long c2), .second, .val (.long c3), .second, .val (.int (3 : Int32)), .val (.ref b82), .val (.int (0 : Int32)), .unset]) rfl kz) ?_
              exact J209 _ _ X120 e120 N120 _ (by simp [own_all, hc143_119, hc161_121])
            · refine own_by (fun tz kz => XS.ifNo X120.here hx rfl (hb hby at_161) rfl ((if0 _ _).trans (feq hc161_121).1) kz) ?_
              show own_Go p e below s _ _ (T120.setTop (mkF m 164 #[.val (.int pp), .val (.long c0), .second, .val (.long c1), .second, .val (.long c2), .second, .val (.long c3), .second, .val (.int (3 : Int32)), .val (.ref b82), .unset, .unset] []))
              refine own_by (fun tz kz => XS.iload X120.here hx rfl (hb hby at_164) rfl  kz) ?_
              show own_Go p e below s _ _ (T120.setTop (mkF m 166 #[.val (.int pp), .val (.long c0), .second, .val (.long c1), .second, .val (.long c2), .second, .val (.long c3), .second, .val (.int (3 : Int32)), .val (.ref b82), .unset, .unset] [(.int (3 : Int32))]))
              refine own_by (fun tz kz => XS.iconst X120.here hx rfl (hb hby at_166) kz) ?_
              show own_Go p e below s _ _ (T120.setTop (mkF m 167 #[.val (.int pp), .val (.long c0), .second, .val (.long c1), .second, .val (.long c2), .second, .val (.long c3), .second, .val (.int (3 : Int32)), .val (.ref b82), .unset, .unset] [(.int (2 : Int32)), (.int (3 : Int32))]))
              refine own_by (fun tz kz => XS.icmpNo X120.here hx rfl (hb hby at_167) rfl (tlt (by decide : (2 : Int32) < (3 : Int32))).2.2.2 kz) ?_
              show own_Go p e below s _ _ (T120.setTop (mkF m 170 #[.val (.int pp), .val (.long c0), .second, .val (.long c1), .second, .val (.long c2), .second, .val (.long c3), .second, .val (.int (3 : Int32)), .val (.ref b82), .unset, .unset] []))
              refine own_by (fun tz kz => XS.iconst X120.here hx rfl (hb hby at_170) kz) ?_
              show own_Go p e below s _ _ (T120.setTop (mkF m 171 #[.val (.int pp), .val (.long c0), .second, .val (.long c1), .second, .val (.long c2), .second, .val (.long c3), .second, .val (.int (3 : Int32)), .val (.ref b82), .unset, .unset] [(.int (1 : Int32))]))
              refine own_by (fun tz kz => XS.goto X120.here hx rfl (pc0 := 171) (pc' := 175) rfl (hb hby at_171) (by decide) (by decide) kz) ?_
              show own_Go p e below s _ _ (T120.setTop (mkF m 175 #[.val (.int pp), .val (.long c0), .second, .val (.long c1), .second, .val (.long c2), .second, .val (.long c3), .second, .val (.int (3 : Int32)), .val (.ref b82), .unset, .unset] [(.int (1 : Int32))]))
              refine own_by (fun tz kz => XS.lload X120.here hx rfl (hb hby at_175) rfl kz) ?_
              show own_Go p e below s _ _ (T120.setTop (mkF m 177 #[.val (.int pp), .val (.long c0), .second, .val (.long c1), .second, .val (.long c2), .second, .val (.long c3), .second, .val (.int (3 : Int32)), .val (.ref b82), .unset, .unset] [(.long c2), (.int (1 : Int32))]))
              obtain ⟨_, _, ⟨T122, L122, k122, n122⟩, -, X122, ⟨Lc122, hQ122, l122, y122, z122⟩, st122⟩ := Jvm.LawKit.callS X120 hx (y := (⟨"com/example/liftwise/liftwise/eval/arithmetic/SidesIsExactPinLaw", "lowerFine", "(ZJ)Z"⟩ : MethodName)) hown (mvT hZ (hw _ (List.mem_of_getElem? (i := 14) rfl))) (mvT hZ (hw _ (List.mem_of_getElem? (i := 15) rfl))) (mvT hZ (hw _ (List.mem_of_getElem? (i := 16) rfl))) (mvT hZ (hw _ (List.mem_of_getElem? (i := 17) rfl))) (by decide) (backOf (W := 0) (rm_lowerFine l Z a0 hw [] (1 : Int32) c2 LF2 T104.heap n0 hLF2) hZ (hw _ (List.mem_of_getElem? (i := 17) rfl)) (hw _ (List.mem_of_getElem? (i := 16) rfl)) (by decide) (by decide)) (g := (mkF m 177 #[.val (.int pp), .val (.long c0), .second, .val (.long c1), .second, .val (.long c2), .second, .val (.long c3), .second, .val (.int (3 : Int32)), .val (.ref b82), .unset, .unset] [(.long c2), (.int (1 : Int32))])) rfl (by rw [hml]; rfl) (argsL := [(.int (1 : Int32)), (.long c2)]) (rest := []) (lenOf pd_1 rfl) rfl (by show 2 * 0 + _ ≤ _; exact Nat.le_of_eq rfl) (hb hby at_177) (fun _ _ => ⟨rfl, e120, (by decide : ((((((1 + 2) + 1) + 2) + 1) + 2) + 1) + 0 ≤ _), (by decide : ((((((4 + 8) + 6) + 8) + 6) + 8) + 6) + 0 ≤ _)⟩)
              dsimp only [Pt.U, Pt.locs, Pt.cells, Pt.slots] at X122 l122 y122 z122 st122 hQ122
              rw [l122, y122, z122] at X122
              obtain ⟨rfl, Nq122, e122⟩ := hQ122
              have N122 := Fr.app N120 Nq122
              refine own_by st122 ?_
              show own_Go p e below s _ _ (T122.setTop (mkF m 180 #[.val (.int pp), .val (.long c0), .second, .val (.long c1), .second, .val (.long c2), .second, .val (.long c3), .second, .val (.int (3 : Int32)), .val (.ref b82), .unset, .unset] [(.int LF2)]))
              by_cases hc180_123 : LF2 = (0 : Int32)
              · refine own_by (fun tz kz => XS.ifYes X122.here hx rfl (pc0 := 180) (pc' := 206) rfl (hb hby at_180) rfl ((if0 _ _).trans (teq hc180_123).1) (by decide) (by decide) kz) ?_
                show own_Go p e below s _ _ (T122.setTop (mkF m 206 #[.val (.int pp), .val (.long c0), .second, .val (.long c1), .second, .val (.long c2), .second, .val (.long c3), .second, .val (.int (3 : Int32)), .val (.ref b82), .unset, .unset] []))
                refine own_by (fun tz kz => XS.iconst X122.here hx rfl (hb hby at_206) kz) ?_
                show own_Go p e below s _ _ (T122.setTop (mkF m 207 #[.val (.int pp), .val (.long c0), .second, .val (.long c1), .second, .val (.long c2), .second, .val (.long c3), .second, .val (.int (3 : Int32)), .val (.ref b82), .unset, .unset] [(.int (0 : Int32))]))
                refine own_by (fun tz kz => XS.istore X122.here hx rfl (hb hby at_207) rfl (l' := #[.val (.int pp), .val (.long c0), .second, .val (.long c1), .second, .val (.long c2), .second, .val (.long c3), .second, .val (.int (3 : Int32)), .val (.ref b82), .val (.int (0 : Int32)), .unset]) rfl kz) ?_
                exact J209 _ _ X122 e122 N122 _ (by simp [own_all, hc143_119, hc161_121, hc180_123])
              · refine own_by (fun tz kz => XS.ifNo X122.here hx rfl (hb hby at_180) rfl ((if0 _ _).trans (feq hc180_123).1) kz) ?_
                show own_Go p e below s _ _ (T122.setTop (mkF m 183 #[.val (.int pp), .val (.long c0), .second, .val (.long c1), .second, .val (.long c2), .second, .val (.long c3), .second, .val (.int (3 : Int32)), .val (.ref b82), .unset, .unset] []))
                refine own_by (fun tz kz => XS.iload X122.here hx rfl (hb hby at_183) rfl  kz) ?_
                show own_Go p e below s _ _ (T122.setTop (mkF m 185 #[.val (.int pp), .val (.long c0), .second, .val (.long c1), .second, .val (.long c2), .second, .val (.long c3), .second, .val (.int (3 : Int32)), .val (.ref b82), .unset, .unset] [(.int (3 : Int32))]))
                refine own_by (fun tz kz => XS.iconst X122.here hx rfl (hb hby at_185) kz) ?_
                show own_Go p e below s _ _ (T122.setTop (mkF m 186 #[.val (.int pp), .val (.long c0), .second, .val (.long c1), .second, .val (.long c2), .second, .val (.long c3), .second, .val (.int (3 : Int32)), .val (.ref b82), .unset, .unset] [(.int (3 : Int32)), (.int (3 : Int32))]))
                refine own_by (fun tz kz => XS.icmpYes X122.here hx rfl (pc0 := 186) (pc' := 193) rfl (hb hby at_186) rfl (flt (by decide : ¬ (3 : Int32) < (3 : Int32))).2.2.2 (by decide) (by decide) kz) ?_
                show own_Go p e below s _ _ (T122.setTop (mkF m 193 #[.val (.int pp), .val (.long c0), .second, .val (.long c1), .second, .val (.long c2), .second, .val (.long c3), .second, .val (.int (3 : Int32)), .val (.ref b82), .unset, .unset] []))
                refine own_by (fun tz kz => XS.iconst X122.here hx rfl (hb hby at_193) kz) ?_
                show own_Go p e below s _ _ (T122.setTop (mkF m 194 #[.val (.int pp), .val (.long c0), .second, .val (.long c1), .second, .val (.long c2), .second, .val (.long c3), .second, .val (.int (3 : Int32)), .val (.ref b82), .unset, .unset] [(.int (0 : Int32))]))
                refine own_by (fun tz kz => XS.lload X122.here hx rfl (hb hby at_194) rfl kz) ?_
                show own_Go p e below s _ _ (T122.setTop (mkF m 196 #[.val (.int pp), .val (.long c0), .second, .val (.long c1), .second, .val (.long c2), .second, .val (.long c3), .second, .val (.int (3 : Int32)), .val (.ref b82), .unset, .unset] [(.long c3), (.int (0 : Int32))]))
                obtain ⟨_, _, ⟨T124, L124, k124, n124⟩, -, X124, ⟨Lc124, hQ124, l124, y124, z124⟩, st124⟩ := Jvm.LawKit.callS X122 hx (y := (⟨"com/example/liftwise/liftwise/eval/arithmetic/SidesIsExactPinLaw", "lowerFine", "(ZJ)Z"⟩ : MethodName)) hown (mvT hZ (hw _ (List.mem_of_getElem? (i := 14) rfl))) (mvT hZ (hw _ (List.mem_of_getElem? (i := 15) rfl))) (mvT hZ (hw _ (List.mem_of_getElem? (i := 16) rfl))) (mvT hZ (hw _ (List.mem_of_getElem? (i := 17) rfl))) (by decide) (backOf (W := 0) (rm_lowerFine l Z a0 hw [] (0 : Int32) c3 (1 : Int32) T104.heap n0 (own_lf0 _)) hZ (hw _ (List.mem_of_getElem? (i := 17) rfl)) (hw _ (List.mem_of_getElem? (i := 16) rfl)) (by decide) (by decide)) (g := (mkF m 196 #[.val (.int pp), .val (.long c0), .second, .val (.long c1), .second, .val (.long c2), .second, .val (.long c3), .second, .val (.int (3 : Int32)), .val (.ref b82), .unset, .unset] [(.long c3), (.int (0 : Int32))])) rfl (by rw [hml]; rfl) (argsL := [(.int (0 : Int32)), (.long c3)]) (rest := []) (lenOf pd_1 rfl) rfl (by show 2 * 0 + _ ≤ _; exact Nat.le_of_eq rfl) (hb hby at_196) (fun _ _ => ⟨rfl, e122, (by decide : ((((((1 + 2) + 1) + 2) + 1) + 2) + 1) + 0 ≤ _), (by decide : ((((((4 + 8) + 6) + 8) + 6) + 8) + 6) + 0 ≤ _)⟩)
                dsimp only [Pt.U, Pt.locs, Pt.cells, Pt.slots] at X124 l124 y124 z124 st124 hQ124
                rw [l124, y124, z124] at X124
                obtain ⟨rfl, Nq124, e124⟩ := hQ124
                have N124 := Fr.app N122 Nq124
                refine own_by st124 ?_
                show own_Go p e below s _ _ (T124.setTop (mkF m 199 #[.val (.int pp), .val (.long c0), .second, .val (.long c1), .second, .val (.long c2), .second, .val (.long c3), .second, .val (.int (3 : Int32)), .val (.ref b82), .unset, .unset] [(.int (1 : Int32))]))
                refine own_by (fun tz kz => XS.ifNo X124.here hx rfl (hb hby at_199) rfl ((if0 _ _).trans (feq (by decide : ¬ (1 : Int32) = (0 : Int32))).1) kz) ?_
                show own_Go p e below s _ _ (T124.setTop (mkF m 202 #[.val (.int pp), .val (.long c0), .second, .val (.long c1), .second, .val (.long c2), .second, .val (.long c3), .second, .val (.int (3 : Int32)), .val (.ref b82), .unset, .unset] []))
                refine own_by (fun tz kz => XS.iconst X124.here hx rfl (hb hby at_202) kz) ?_
                show own_Go p e below s _ _ (T124.setTop (mkF m 203 #[.val (.int pp), .val (.long c0), .second, .val (.long c1), .second, .val (.long c2), .second, .val (.long c3), .second, .val (.int (3 : Int32)), .val (.ref b82), .unset, .unset] [(.int (1 : Int32))]))
                refine own_by (fun tz kz => XS.goto X124.here hx rfl (pc0 := 203) (pc' := 207) rfl (hb hby at_203) (by decide) (by decide) kz) ?_
                show own_Go p e below s _ _ (T124.setTop (mkF m 207 #[.val (.int pp), .val (.long c0), .second, .val (.long c1), .second, .val (.long c2), .second, .val (.long c3), .second, .val (.int (3 : Int32)), .val (.ref b82), .unset, .unset] [(.int (1 : Int32))]))
                refine own_by (fun tz kz => XS.istore X124.here hx rfl (hb hby at_207) rfl (l' := #[.val (.int pp), .val (.long c0), .second, .val (.long c1), .second, .val (.long c2), .second, .val (.long c3), .second, .val (.int (3 : Int32)), .val (.ref b82), .val (.int (1 : Int32)), .unset]) rfl kz) ?_
                exact J209 _ _ X124 e124 N124 _ (by simp [own_all, hc143_119, hc161_121, hc180_123])
  · show own_Go p e below s _ _ (s₁.setTop (mkF m 8 #[.val (.int pp), .val (.long c0), .second, .val (.long c1), .second, .val (.long c2), .second, .val (.long c3), .second, .val (.int (4 : Int32)), .unset, .unset, .unset] []))
    refine own_by (fun tz kz => XS.iload X0.here hx rfl (hb hby at_8) rfl  kz) ?_
    show own_Go p e below s _ _ (s₁.setTop (mkF m 10 #[.val (.int pp), .val (.long c0), .second, .val (.long c1), .second, .val (.long c2), .second, .val (.long c3), .second, .val (.int (4 : Int32)), .unset, .unset, .unset] [(.int (4 : Int32))]))
    refine own_by (fun tz kz => XS.ifNo X0.here hx rfl (hb hby at_10) rfl ((if0 _ _).trans (tlt (by decide : (0 : Int32) < (4 : Int32))).2.2.2) kz) ?_
    show own_Go p e below s _ _ (s₁.setTop (mkF m 13 #[.val (.int pp), .val (.long c0), .second, .val (.long c1), .second, .val (.long c2), .second, .val (.long c3), .second, .val (.int (4 : Int32)), .unset, .unset, .unset] []))
    refine own_by (fun tz kz => XS.lloadN X0.here hx rfl (hb hby at_13) rfl kz) ?_
    show own_Go p e below s _ _ (s₁.setTop (mkF m 14 #[.val (.int pp), .val (.long c0), .second, .val (.long c1), .second, .val (.long c2), .second, .val (.long c3), .second, .val (.int (4 : Int32)), .unset, .unset, .unset] [(.long c0)]))
    refine own_by (fun tz kz => XS.lconst X0.here hx rfl (hb hby at_14) kz) ?_
    show own_Go p e below s _ _ (s₁.setTop (mkF m 15 #[.val (.int pp), .val (.long c0), .second, .val (.long c1), .second, .val (.long c2), .second, .val (.long c3), .second, .val (.int (4 : Int32)), .unset, .unset, .unset] [(.long (0 : Int64)), (.long c0)]))
    refine own_by (fun tz kz => XS.lcmp X0.here hx rfl (hb hby at_15) rfl kz) ?_
    show own_Go p e below s _ _ (s₁.setTop (mkF m 16 #[.val (.int pp), .val (.long c0), .second, .val (.long c1), .second, .val (.long c2), .second, .val (.long c3), .second, .val (.int (4 : Int32)), .unset, .unset, .unset] [(.int (lcmpW c0 (0 : Int64)))]))
    by_cases hc16_125 : c0 = (0 : Int64)
    · refine own_by (fun tz kz => XS.ifYes X0.here hx rfl (pc0 := 16) (pc' := 57) rfl (hb hby at_16) rfl ((if0 _ _).trans (teq ((lw_eq c0 (0 : Int64)).mpr hc16_125)).1) (by decide) (by decide) kz) ?_
      show own_Go p e below s _ _ (s₁.setTop (mkF m 57 #[.val (.int pp), .val (.long c0), .second, .val (.long c1), .second, .val (.long c2), .second, .val (.long c3), .second, .val (.int (4 : Int32)), .unset, .unset, .unset] []))
      refine own_by (fun tz kz => XS.iconst X0.here hx rfl (hb hby at_57) kz) ?_
      show own_Go p e below s _ _ (s₁.setTop (mkF m 58 #[.val (.int pp), .val (.long c0), .second, .val (.long c1), .second, .val (.long c2), .second, .val (.long c3), .second, .val (.int (4 : Int32)), .unset, .unset, .unset] [(.int (1 : Int32))]))
      refine own_retI X0 hx hlk (t := .boolean) hret (by simp) rfl (hb hby at_58) ?_ (by decide) (by decide)
      exact ⟨rfl, N0⟩
    · refine own_by (fun tz kz => XS.ifNo X0.here hx rfl (hb hby at_16) rfl ((if0 _ _).trans (feq (fun q => hc16_125 ((lw_eq c0 (0 : Int64)).mp q))).1) kz) ?_
      show own_Go p e below s _ _ (s₁.setTop (mkF m 19 #[.val (.int pp), .val (.long c0), .second, .val (.long c1), .second, .val (.long c2), .second, .val (.long c3), .second, .val (.int (4 : Int32)), .unset, .unset, .unset] []))
      refine own_by (fun tz kz => XS.iload X0.here hx rfl (hb hby at_19) rfl  kz) ?_
      show own_Go p e below s _ _ (s₁.setTop (mkF m 21 #[.val (.int pp), .val (.long c0), .second, .val (.long c1), .second, .val (.long c2), .second, .val (.long c3), .second, .val (.int (4 : Int32)), .unset, .unset, .unset] [(.int (4 : Int32))]))
      refine own_by (fun tz kz => XS.iconst X0.here hx rfl (hb hby at_21) kz) ?_
      show own_Go p e below s _ _ (s₁.setTop (mkF m 22 #[.val (.int pp), .val (.long c0), .second, .val (.long c1), .second, .val (.long c2), .second, .val (.long c3), .second, .val (.int (4 : Int32)), .unset, .unset, .unset] [(.int (1 : Int32)), (.int (4 : Int32))]))
      refine own_by (fun tz kz => XS.icmpNo X0.here hx rfl (hb hby at_22) rfl (tlt (by decide : (1 : Int32) < (4 : Int32))).2.2.2 kz) ?_
      show own_Go p e below s _ _ (s₁.setTop (mkF m 25 #[.val (.int pp), .val (.long c0), .second, .val (.long c1), .second, .val (.long c2), .second, .val (.long c3), .second, .val (.int (4 : Int32)), .unset, .unset, .unset] []))
      refine own_by (fun tz kz => XS.lloadN X0.here hx rfl (hb hby at_25) rfl kz) ?_
      show own_Go p e below s _ _ (s₁.setTop (mkF m 26 #[.val (.int pp), .val (.long c0), .second, .val (.long c1), .second, .val (.long c2), .second, .val (.long c3), .second, .val (.int (4 : Int32)), .unset, .unset, .unset] [(.long c1)]))
      refine own_by (fun tz kz => XS.lconst X0.here hx rfl (hb hby at_26) kz) ?_
      show own_Go p e below s _ _ (s₁.setTop (mkF m 27 #[.val (.int pp), .val (.long c0), .second, .val (.long c1), .second, .val (.long c2), .second, .val (.long c3), .second, .val (.int (4 : Int32)), .unset, .unset, .unset] [(.long (0 : Int64)), (.long c1)]))
      refine own_by (fun tz kz => XS.lcmp X0.here hx rfl (hb hby at_27) rfl kz) ?_
      show own_Go p e below s _ _ (s₁.setTop (mkF m 28 #[.val (.int pp), .val (.long c0), .second, .val (.long c1), .second, .val (.long c2), .second, .val (.long c3), .second, .val (.int (4 : Int32)), .unset, .unset, .unset] [(.int (lcmpW c1 (0 : Int64)))]))
      by_cases hc28_126 : c1 = (0 : Int64)
      · refine own_by (fun tz kz => XS.ifYes X0.here hx rfl (pc0 := 28) (pc' := 57) rfl (hb hby at_28) rfl ((if0 _ _).trans (teq ((lw_eq c1 (0 : Int64)).mpr hc28_126)).1) (by decide) (by decide) kz) ?_
        show own_Go p e below s _ _ (s₁.setTop (mkF m 57 #[.val (.int pp), .val (.long c0), .second, .val (.long c1), .second, .val (.long c2), .second, .val (.long c3), .second, .val (.int (4 : Int32)), .unset, .unset, .unset] []))
        refine own_by (fun tz kz => XS.iconst X0.here hx rfl (hb hby at_57) kz) ?_
        show own_Go p e below s _ _ (s₁.setTop (mkF m 58 #[.val (.int pp), .val (.long c0), .second, .val (.long c1), .second, .val (.long c2), .second, .val (.long c3), .second, .val (.int (4 : Int32)), .unset, .unset, .unset] [(.int (1 : Int32))]))
        refine own_retI X0 hx hlk (t := .boolean) hret (by simp) rfl (hb hby at_58) ?_ (by decide) (by decide)
        exact ⟨rfl, N0⟩
      · refine own_by (fun tz kz => XS.ifNo X0.here hx rfl (hb hby at_28) rfl ((if0 _ _).trans (feq (fun q => hc28_126 ((lw_eq c1 (0 : Int64)).mp q))).1) kz) ?_
        show own_Go p e below s _ _ (s₁.setTop (mkF m 31 #[.val (.int pp), .val (.long c0), .second, .val (.long c1), .second, .val (.long c2), .second, .val (.long c3), .second, .val (.int (4 : Int32)), .unset, .unset, .unset] []))
        refine own_by (fun tz kz => XS.iload X0.here hx rfl (hb hby at_31) rfl  kz) ?_
        show own_Go p e below s _ _ (s₁.setTop (mkF m 33 #[.val (.int pp), .val (.long c0), .second, .val (.long c1), .second, .val (.long c2), .second, .val (.long c3), .second, .val (.int (4 : Int32)), .unset, .unset, .unset] [(.int (4 : Int32))]))
        refine own_by (fun tz kz => XS.iconst X0.here hx rfl (hb hby at_33) kz) ?_
        show own_Go p e below s _ _ (s₁.setTop (mkF m 34 #[.val (.int pp), .val (.long c0), .second, .val (.long c1), .second, .val (.long c2), .second, .val (.long c3), .second, .val (.int (4 : Int32)), .unset, .unset, .unset] [(.int (2 : Int32)), (.int (4 : Int32))]))
        refine own_by (fun tz kz => XS.icmpNo X0.here hx rfl (hb hby at_34) rfl (tlt (by decide : (2 : Int32) < (4 : Int32))).2.2.2 kz) ?_
        show own_Go p e below s _ _ (s₁.setTop (mkF m 37 #[.val (.int pp), .val (.long c0), .second, .val (.long c1), .second, .val (.long c2), .second, .val (.long c3), .second, .val (.int (4 : Int32)), .unset, .unset, .unset] []))
        refine own_by (fun tz kz => XS.lload X0.here hx rfl (hb hby at_37) rfl kz) ?_
        show own_Go p e below s _ _ (s₁.setTop (mkF m 39 #[.val (.int pp), .val (.long c0), .second, .val (.long c1), .second, .val (.long c2), .second, .val (.long c3), .second, .val (.int (4 : Int32)), .unset, .unset, .unset] [(.long c2)]))
        refine own_by (fun tz kz => XS.lconst X0.here hx rfl (hb hby at_39) kz) ?_
        show own_Go p e below s _ _ (s₁.setTop (mkF m 40 #[.val (.int pp), .val (.long c0), .second, .val (.long c1), .second, .val (.long c2), .second, .val (.long c3), .second, .val (.int (4 : Int32)), .unset, .unset, .unset] [(.long (0 : Int64)), (.long c2)]))
        refine own_by (fun tz kz => XS.lcmp X0.here hx rfl (hb hby at_40) rfl kz) ?_
        show own_Go p e below s _ _ (s₁.setTop (mkF m 41 #[.val (.int pp), .val (.long c0), .second, .val (.long c1), .second, .val (.long c2), .second, .val (.long c3), .second, .val (.int (4 : Int32)), .unset, .unset, .unset] [(.int (lcmpW c2 (0 : Int64)))]))
        by_cases hc41_127 : c2 = (0 : Int64)
        · refine own_by (fun tz kz => XS.ifYes X0.here hx rfl (pc0 := 41) (pc' := 57) rfl (hb hby at_41) rfl ((if0 _ _).trans (teq ((lw_eq c2 (0 : Int64)).mpr hc41_127)).1) (by decide) (by decide) kz) ?_
          show own_Go p e below s _ _ (s₁.setTop (mkF m 57 #[.val (.int pp), .val (.long c0), .second, .val (.long c1), .second, .val (.long c2), .second, .val (.long c3), .second, .val (.int (4 : Int32)), .unset, .unset, .unset] []))
          refine own_by (fun tz kz => XS.iconst X0.here hx rfl (hb hby at_57) kz) ?_
          show own_Go p e below s _ _ (s₁.setTop (mkF m 58 #[.val (.int pp), .val (.long c0), .second, .val (.long c1), .second, .val (.long c2), .second, .val (.long c3), .second, .val (.int (4 : Int32)), .unset, .unset, .unset] [(.int (1 : Int32))]))
          refine own_retI X0 hx hlk (t := .boolean) hret (by simp) rfl (hb hby at_58) ?_ (by decide) (by decide)
          exact ⟨rfl, N0⟩
        · refine own_by (fun tz kz => XS.ifNo X0.here hx rfl (hb hby at_41) rfl ((if0 _ _).trans (feq (fun q => hc41_127 ((lw_eq c2 (0 : Int64)).mp q))).1) kz) ?_
          show own_Go p e below s _ _ (s₁.setTop (mkF m 44 #[.val (.int pp), .val (.long c0), .second, .val (.long c1), .second, .val (.long c2), .second, .val (.long c3), .second, .val (.int (4 : Int32)), .unset, .unset, .unset] []))
          refine own_by (fun tz kz => XS.iload X0.here hx rfl (hb hby at_44) rfl  kz) ?_
          show own_Go p e below s _ _ (s₁.setTop (mkF m 46 #[.val (.int pp), .val (.long c0), .second, .val (.long c1), .second, .val (.long c2), .second, .val (.long c3), .second, .val (.int (4 : Int32)), .unset, .unset, .unset] [(.int (4 : Int32))]))
          refine own_by (fun tz kz => XS.iconst X0.here hx rfl (hb hby at_46) kz) ?_
          show own_Go p e below s _ _ (s₁.setTop (mkF m 47 #[.val (.int pp), .val (.long c0), .second, .val (.long c1), .second, .val (.long c2), .second, .val (.long c3), .second, .val (.int (4 : Int32)), .unset, .unset, .unset] [(.int (3 : Int32)), (.int (4 : Int32))]))
          refine own_by (fun tz kz => XS.icmpNo X0.here hx rfl (hb hby at_47) rfl (tlt (by decide : (3 : Int32) < (4 : Int32))).2.2.2 kz) ?_
          show own_Go p e below s _ _ (s₁.setTop (mkF m 50 #[.val (.int pp), .val (.long c0), .second, .val (.long c1), .second, .val (.long c2), .second, .val (.long c3), .second, .val (.int (4 : Int32)), .unset, .unset, .unset] []))
          refine own_by (fun tz kz => XS.lload X0.here hx rfl (hb hby at_50) rfl kz) ?_
          show own_Go p e below s _ _ (s₁.setTop (mkF m 52 #[.val (.int pp), .val (.long c0), .second, .val (.long c1), .second, .val (.long c2), .second, .val (.long c3), .second, .val (.int (4 : Int32)), .unset, .unset, .unset] [(.long c3)]))
          refine own_by (fun tz kz => XS.lconst X0.here hx rfl (hb hby at_52) kz) ?_
          show own_Go p e below s _ _ (s₁.setTop (mkF m 53 #[.val (.int pp), .val (.long c0), .second, .val (.long c1), .second, .val (.long c2), .second, .val (.long c3), .second, .val (.int (4 : Int32)), .unset, .unset, .unset] [(.long (0 : Int64)), (.long c3)]))
          refine own_by (fun tz kz => XS.lcmp X0.here hx rfl (hb hby at_53) rfl kz) ?_
          show own_Go p e below s _ _ (s₁.setTop (mkF m 54 #[.val (.int pp), .val (.long c0), .second, .val (.long c1), .second, .val (.long c2), .second, .val (.long c3), .second, .val (.int (4 : Int32)), .unset, .unset, .unset] [(.int (lcmpW c3 (0 : Int64)))]))
          by_cases hc54_128 : c3 = (0 : Int64)
          · refine own_by (fun tz kz => XS.ifNo X0.here hx rfl (hb hby at_54) rfl ((if0 _ _).trans (teq ((lw_eq c3 (0 : Int64)).mpr hc54_128)).2) kz) ?_
            show own_Go p e below s _ _ (s₁.setTop (mkF m 57 #[.val (.int pp), .val (.long c0), .second, .val (.long c1), .second, .val (.long c2), .second, .val (.long c3), .second, .val (.int (4 : Int32)), .unset, .unset, .unset] []))
            refine own_by (fun tz kz => XS.iconst X0.here hx rfl (hb hby at_57) kz) ?_
            show own_Go p e below s _ _ (s₁.setTop (mkF m 58 #[.val (.int pp), .val (.long c0), .second, .val (.long c1), .second, .val (.long c2), .second, .val (.long c3), .second, .val (.int (4 : Int32)), .unset, .unset, .unset] [(.int (1 : Int32))]))
            refine own_retI X0 hx hlk (t := .boolean) hret (by simp) rfl (hb hby at_58) ?_ (by decide) (by decide)
            exact ⟨rfl, N0⟩
          · refine own_by (fun tz kz => XS.ifYes X0.here hx rfl (pc0 := 54) (pc' := 59) rfl (hb hby at_54) rfl ((if0 _ _).trans (feq (fun q => hc54_128 ((lw_eq c3 (0 : Int64)).mp q))).2) (by decide) (by decide) kz) ?_
            show own_Go p e below s _ _ (s₁.setTop (mkF m 59 #[.val (.int pp), .val (.long c0), .second, .val (.long c1), .second, .val (.long c2), .second, .val (.long c3), .second, .val (.int (4 : Int32)), .unset, .unset, .unset] []))
            obtain ⟨T129, h129, X129, e129, E129, A129, D129, -, st129⟩ := newO X0 hx hZ hown (hw _ (List.mem_of_getElem? (i := 1) rfl)) (hw _ (List.mem_of_getElem? (i := 2) rfl)) (hw _ (List.mem_of_getElem? (i := 3) rfl)) e0 (g := (mkF m 59 #[.val (.int pp), .val (.long c0), .second, .val (.long c1), .second, .val (.long c2), .second, .val (.long c3), .second, .val (.int (4 : Int32)), .unset, .unset, .unset] [])) rfl (hb hby at_59) (by decide) (by decide)
            obtain ⟨b129, g129⟩ : ∃ z, z = h0.size := ⟨_, rfl⟩
            rw [← g129] at A129 D129 st129
            have g_b129 : n0 ≤ b129 := by rw [g129]; exact O0.1 ▸ O0.2.1
            have sz_b129 : h0.size ≤ b129 := by rw [g129]; exact K0.1
            have O129 := O0.ext E129
            have K129 := K0.ext E129
            refine own_by st129 ?_
            have F129_lowerUnit : Fld Z h129 b129 "com/example/liftwise/liftwise/eval/arithmetic/Solver$Sides" "lowerUnit" "Z" (.int (0 : Int32)) := D129 (Or.inl (hw _ (List.mem_of_getElem? (i := 11) rfl))) (ty := .boolean) (by decide)
            have F129_upperUnit : Fld Z h129 b129 "com/example/liftwise/liftwise/eval/arithmetic/Solver$Sides" "upperUnit" "Z" (.int (0 : Int32)) := D129 (Or.inl (hw _ (List.mem_of_getElem? (i := 13) rfl))) (ty := .boolean) (by decide)
            have F129_lower : Fld Z h129 b129 "com/example/liftwise/liftwise/eval/arithmetic/Solver$Sides" "lower" "I" (.int (0 : Int32)) := D129 (Or.inl (hw _ (List.mem_of_getElem? (i := 71) rfl))) (ty := .int) (by decide)
            have F129_upper : Fld Z h129 b129 "com/example/liftwise/liftwise/eval/arithmetic/Solver$Sides" "upper" "I" (.int (0 : Int32)) := D129 (Or.inl (hw _ (List.mem_of_getElem? (i := 83) rfl))) (ty := .int) (by decide)
            show own_Go p e below s _ _ (T129.setTop (mkF m 62 #[.val (.int pp), .val (.long c0), .second, .val (.long c1), .second, .val (.long c2), .second, .val (.long c3), .second, .val (.int (4 : Int32)), .unset, .unset, .unset] [(.ref b129)]))
            refine own_by (fun tz kz => XS.dup X129.here hx rfl (hb hby at_62) rfl rfl kz) ?_
            show own_Go p e below s _ _ (T129.setTop (mkF m 63 #[.val (.int pp), .val (.long c0), .second, .val (.long c1), .second, .val (.long c2), .second, .val (.long c3), .second, .val (.int (4 : Int32)), .unset, .unset, .unset] [(.ref b129), (.ref b129)]))
            obtain ⟨_, _, ⟨T130, L130, k130, n130⟩, -, X130, ⟨Lc130, hQ130, l130, y130, z130⟩, st130⟩ := X129.specialBack hx (y := (⟨"com/example/liftwise/liftwise/eval/arithmetic/Solver$Sides", "<init>", "()V"⟩ : MethodName)) rfl hown (mvT hZ (hw _ (List.mem_of_getElem? (i := 4) rfl))) (mvT hZ (hw _ (List.mem_of_getElem? (i := 5) rfl))) (mvT hZ (hw _ (List.mem_of_getElem? (i := 6) rfl))) (by decide) (backOf (W := 1) (rm_Sinit l Z a0 hw [] b129 h129 n0 O129 A129 F129_lower F129_upper F129_lowerUnit F129_upperUnit g_b129) hZ (hw _ (List.mem_of_getElem? (i := 6) rfl)) (hw _ (List.mem_of_getElem? (i := 3) rfl)) (by decide) (by decide)) (g := (mkF m 63 #[.val (.int pp), .val (.long c0), .second, .val (.long c1), .second, .val (.long c2), .second, .val (.long c3), .second, .val (.int (4 : Int32)), .unset, .unset, .unset] [(.ref b129), (.ref b129)])) rfl (by rw [hml]; rfl) (Steps.refl _) (a := b129) (argsL := []) (rest := [(.ref b129)]) (lenOf pd_0 rfl) rfl (by show 2 * 0 + _ ≤ _; exact Nat.le_of_eq rfl) (hb hby at_63) (fun _ _ => ⟨rfl, e129, (by decide : 1 + 0 ≤ _), (by decide : 4 + 0 ≤ _)⟩)
            dsimp only [Pt.U, Pt.locs, Pt.cells, Pt.slots] at X130 l130 y130 z130 st130 hQ130
            rw [l130, y130, z130] at X130
            obtain ⟨rfl, Nq130, Kq130, Fa130, Fb130, Fc130, Fd130⟩ := hQ130
            have N130 := Fr.app N0 Nq130
            have e130 : T130.heap = T130.heap := rfl
            refine own_via st130 ?_
            have O130 := O129.keep Kq130 (allS g_b129 all0)
            have K130 := K129.trans Kq130 (allS (Or.inr sz_b129) all0)
            show own_Go p e below s _ _ (T130.setTop (mkF m 66 #[.val (.int pp), .val (.long c0), .second, .val (.long c1), .second, .val (.long c2), .second, .val (.long c3), .second, .val (.int (4 : Int32)), .unset, .unset, .unset] [(.ref b129)]))
            refine own_by (fun tz kz => XS.astore X130.here hx rfl (hb hby at_66) rfl rfl (l' := #[.val (.int pp), .val (.long c0), .second, .val (.long c1), .second, .val (.long c2), .second, .val (.long c3), .second, .val (.int (4 : Int32)), .val (.ref b129), .unset, .unset]) rfl kz) ?_
            show own_Go p e below s _ _ (T130.setTop (mkF m 68 #[.val (.int pp), .val (.long c0), .second, .val (.long c1), .second, .val (.long c2), .second, .val (.long c3), .second, .val (.int (4 : Int32)), .val (.ref b129), .unset, .unset] []))
            refine own_by (fun tz kz => XS.iload X130.here hx rfl (hb hby at_68) rfl  kz) ?_
            show own_Go p e below s _ _ (T130.setTop (mkF m 70 #[.val (.int pp), .val (.long c0), .second, .val (.long c1), .second, .val (.long c2), .second, .val (.long c3), .second, .val (.int (4 : Int32)), .val (.ref b129), .unset, .unset] [(.int (4 : Int32))]))
            refine own_by (fun tz kz => XS.ifNo X130.here hx rfl (hb hby at_70) rfl ((if0 _ _).trans (tlt (by decide : (0 : Int32) < (4 : Int32))).2.2.2) kz) ?_
            show own_Go p e below s _ _ (T130.setTop (mkF m 73 #[.val (.int pp), .val (.long c0), .second, .val (.long c1), .second, .val (.long c2), .second, .val (.long c3), .second, .val (.int (4 : Int32)), .val (.ref b129), .unset, .unset] []))
            refine own_by (fun tz kz => XS.aload X130.here hx rfl (hb hby at_73) rfl rfl kz) ?_
            show own_Go p e below s _ _ (T130.setTop (mkF m 75 #[.val (.int pp), .val (.long c0), .second, .val (.long c1), .second, .val (.long c2), .second, .val (.long c3), .second, .val (.int (4 : Int32)), .val (.ref b129), .unset, .unset] [(.ref b129)]))
            refine own_by (fun tz kz => XS.lloadN X130.here hx rfl (hb hby at_75) rfl kz) ?_
            show own_Go p e below s _ _ (T130.setTop (mkF m 76 #[.val (.int pp), .val (.long c0), .second, .val (.long c1), .second, .val (.long c2), .second, .val (.long c3), .second, .val (.int (4 : Int32)), .val (.ref b129), .unset, .unset] [(.long c0), (.ref b129)]))
            obtain ⟨_, _, ⟨T131, L131, k131, n131⟩, -, X131, ⟨Lc131, hQ131, l131, y131, z131⟩, st131⟩ := Jvm.LawKit.callS X130 hx (y := (⟨"java/math/BigInteger", "valueOf", "(J)Ljava/math/BigInteger;"⟩ : MethodName)) hown (mvT hZ (hw _ (List.mem_of_getElem? (i := 26) rfl))) (mvT hZ (hw _ (List.mem_of_getElem? (i := 27) rfl))) (mvT hZ (hw _ (List.mem_of_getElem? (i := 28) rfl))) (mvT hZ (hw _ (List.mem_of_getElem? (i := 29) rfl))) (by decide) (backOf (W := 1) (rm_valueOf l Z a0 hw [] c0 pa na pc nc T130.heap n0 O130 S_pos S_neg T_pos T_neg hc16_125) hZ (hw _ (List.mem_of_getElem? (i := 29) rfl)) (hw _ (List.mem_of_getElem? (i := 28) rfl)) (by decide) (by decide)) (g := (mkF m 76 #[.val (.int pp), .val (.long c0), .second, .val (.long c1), .second, .val (.long c2), .second, .val (.long c3), .second, .val (.int (4 : Int32)), .val (.ref b129), .unset, .unset] [(.long c0), (.ref b129)])) rfl (by rw [hml]; rfl) (argsL := [(.long c0)]) (rest := [(.ref b129)]) (lenOf pd_3 rfl) rfl (by show 2 * 0 + _ ≤ _; exact Nat.le_of_eq rfl) (hb hby at_76) (fun _ _ => ⟨rfl, e130, (by decide : 1 + 2 ≤ _), (by decide : 4 + 8 ≤ _)⟩)
            dsimp only [Pt.U, Pt.locs, Pt.cells, Pt.slots] at X131 l131 y131 z131 st131 hQ131
            rw [l131, y131, z131] at X131
            obtain ⟨o131, rfl, Nq131, Kq131, Bq131⟩ := hQ131
            have N131 := Fr.app N130 Nq131
            have e131 : T131.heap = T131.heap := rfl
            refine own_by st131 ?_
            have O131 := O130.keep Kq131 all0
            have K131 := K130.trans Kq131 all0
            show own_Go p e below s _ _ (T131.setTop (mkF m 79 #[.val (.int pp), .val (.long c0), .second, .val (.long c1), .second, .val (.long c2), .second, .val (.long c3), .second, .val (.int (4 : Int32)), .val (.ref b129), .unset, .unset] [(.ref o131), (.ref b129)]))
            have f132 := ((A129.keep Kq130).keep Kq131)
            have f133 := (Fa130.keep Kq131 nin0)
            have f134 := (Fb130.keep Kq131 nin0)
            have f135 := (Fc130.keep Kq131 nin0)
            have f136 := (Fd130.keep Kq131 nin0)
            obtain ⟨cq137, kq137, q137a, q137b, q137c⟩ := isOf hZ e131 f132
            obtain ⟨_, _, ⟨T137, L137, k137, n137⟩, -, X137, ⟨Lc137, hQ137, l137, y137, z137⟩, st137⟩ := X131.virtualBack hx (y := (⟨"com/example/liftwise/liftwise/eval/arithmetic/Solver$Sides", "add", "(Ljava/math/BigInteger;)V"⟩ : MethodName)) (z := (⟨"com/example/liftwise/liftwise/eval/arithmetic/Solver$Sides", "add", "(Ljava/math/BigInteger;)V"⟩ : MethodName)) hown (mvT hZ (hw _ (List.mem_of_getElem? (i := 49) rfl))) (mvT hZ (hw _ (List.mem_of_getElem? (i := 50) rfl))) (notFace_of_selects (args := #[]) (mvT hZ (hw _ (List.mem_of_getElem? (i := 52) rfl)))) (mvT hZ (hw _ (List.mem_of_getElem? (i := 52) rfl))) (mvT hZ (hw _ (List.mem_of_getElem? (i := 51) rfl))) (by decide) (backOf (W := 0) (rm_add l Z a0 hw [] b129 o131 one om ko (own_sg c0) (own_un c0) (0 : Int32) (0 : Int32) (1 : Int32) (1 : Int32) (own_up c0 (0 : Int32)) (own_dn c0 (0 : Int32)) (own_lu c0 (1 : Int32)) (own_uu c0 (1 : Int32)) T131.heap n0 O131 S_ONE E_one Fs_one Fm_one V_one f132 f133 f134 f135 f136 g_b129 Bq131 (own_sg_or _) (own_un_or _) (Or.inr rfl) (Or.inr rfl) rfl rfl rfl rfl) hZ (hw _ (List.mem_of_getElem? (i := 53) rfl)) (hw _ (List.mem_of_getElem? (i := 3) rfl)) (by decide) (by decide)) q137a q137c (g := (mkF m 79 #[.val (.int pp), .val (.long c0), .second, .val (.long c1), .second, .val (.long c2), .second, .val (.long c3), .second, .val (.int (4 : Int32)), .val (.ref b129), .unset, .unset] [(.ref o131), (.ref b129)])) rfl (by rw [hml]; rfl) (Steps.refl _) (argsL := [(.ref o131)]) (rest := []) (lenOf pd_5 rfl) rfl (by show 2 * 0 + _ ≤ _; exact Nat.le_of_eq rfl) (hb hby at_79) (fun _ _ => ⟨rfl, e131, (by decide : (1 + 2) + 1 ≤ _), (by decide : (4 + 8) + 6 ≤ _)⟩)
            dsimp only [Pt.U, Pt.locs, Pt.cells, Pt.slots] at X137 l137 y137 z137 st137 hQ137
            rw [l137, y137, z137] at X137
            obtain ⟨rfl, Nq137, Kq137, Fa137, Fb137, Fc137, Fd137⟩ := hQ137
            have N137 := Fr.app N131 Nq137
            have e137 : T137.heap = T137.heap := rfl
            refine own_via st137 ?_
            have O137 := O131.keep Kq137 (allS g_b129 all0)
            have K137 := K131.trans Kq137 (allS (Or.inr sz_b129) all0)
            show own_Go p e below s _ _ (T137.setTop (mkF m 82 #[.val (.int pp), .val (.long c0), .second, .val (.long c1), .second, .val (.long c2), .second, .val (.long c3), .second, .val (.int (4 : Int32)), .val (.ref b129), .unset, .unset] []))
            refine own_by (fun tz kz => XS.iload X137.here hx rfl (hb hby at_82) rfl  kz) ?_
            show own_Go p e below s _ _ (T137.setTop (mkF m 84 #[.val (.int pp), .val (.long c0), .second, .val (.long c1), .second, .val (.long c2), .second, .val (.long c3), .second, .val (.int (4 : Int32)), .val (.ref b129), .unset, .unset] [(.int (4 : Int32))]))
            refine own_by (fun tz kz => XS.iconst X137.here hx rfl (hb hby at_84) kz) ?_
            show own_Go p e below s _ _ (T137.setTop (mkF m 85 #[.val (.int pp), .val (.long c0), .second, .val (.long c1), .second, .val (.long c2), .second, .val (.long c3), .second, .val (.int (4 : Int32)), .val (.ref b129), .unset, .unset] [(.int (1 : Int32)), (.int (4 : Int32))]))
            refine own_by (fun tz kz => XS.icmpNo X137.here hx rfl (hb hby at_85) rfl (tlt (by decide : (1 : Int32) < (4 : Int32))).2.2.2 kz) ?_
            show own_Go p e below s _ _ (T137.setTop (mkF m 88 #[.val (.int pp), .val (.long c0), .second, .val (.long c1), .second, .val (.long c2), .second, .val (.long c3), .second, .val (.int (4 : Int32)), .val (.ref b129), .unset, .unset] []))
            refine own_by (fun tz kz => XS.aload X137.here hx rfl (hb hby at_88) rfl rfl kz) ?_
            show own_Go p e below s _ _ (T137.setTop (mkF m 90 #[.val (.int pp), .val (.long c0), .second, .val (.long c1), .second, .val (.long c2), .second, .val (.long c3), .second, .val (.int (4 : Int32)), .val (.ref b129), .unset, .unset] [(.ref b129)]))
            refine own_by (fun tz kz => XS.lloadN X137.here hx rfl (hb hby at_90) rfl kz) ?_
            show own_Go p e below s _ _ (T137.setTop (mkF m 91 #[.val (.int pp), .val (.long c0), .second, .val (.long c1), .second, .val (.long c2), .second, .val (.long c3), .second, .val (.int (4 : Int32)), .val (.ref b129), .unset, .unset] [(.long c1), (.ref b129)]))
            obtain ⟨_, _, ⟨T138, L138, k138, n138⟩, -, X138, ⟨Lc138, hQ138, l138, y138, z138⟩, st138⟩ := Jvm.LawKit.callS X137 hx (y := (⟨"java/math/BigInteger", "valueOf", "(J)Ljava/math/BigInteger;"⟩ : MethodName)) hown (mvT hZ (hw _ (List.mem_of_getElem? (i := 26) rfl))) (mvT hZ (hw _ (List.mem_of_getElem? (i := 27) rfl))) (mvT hZ (hw _ (List.mem_of_getElem? (i := 28) rfl))) (mvT hZ (hw _ (List.mem_of_getElem? (i := 29) rfl))) (by decide) (backOf (W := 1) (rm_valueOf l Z a0 hw [] c1 pa na pc nc T137.heap n0 O137 S_pos S_neg T_pos T_neg hc28_126) hZ (hw _ (List.mem_of_getElem? (i := 29) rfl)) (hw _ (List.mem_of_getElem? (i := 28) rfl)) (by decide) (by decide)) (g := (mkF m 91 #[.val (.int pp), .val (.long c0), .second, .val (.long c1), .second, .val (.long c2), .second, .val (.long c3), .second, .val (.int (4 : Int32)), .val (.ref b129), .unset, .unset] [(.long c1), (.ref b129)])) rfl (by rw [hml]; rfl) (argsL := [(.long c1)]) (rest := [(.ref b129)]) (lenOf pd_3 rfl) rfl (by show 2 * 0 + _ ≤ _; exact Nat.le_of_eq rfl) (hb hby at_91) (fun _ _ => ⟨rfl, e137, (by decide : ((1 + 2) + 1) + 2 ≤ _), (by decide : ((4 + 8) + 6) + 8 ≤ _)⟩)
            dsimp only [Pt.U, Pt.locs, Pt.cells, Pt.slots] at X138 l138 y138 z138 st138 hQ138
            rw [l138, y138, z138] at X138
            obtain ⟨o138, rfl, Nq138, Kq138, Bq138⟩ := hQ138
            have N138 := Fr.app N137 Nq138
            have e138 : T138.heap = T138.heap := rfl
            refine own_by st138 ?_
            have O138 := O137.keep Kq138 all0
            have K138 := K137.trans Kq138 all0
            show own_Go p e below s _ _ (T138.setTop (mkF m 94 #[.val (.int pp), .val (.long c0), .second, .val (.long c1), .second, .val (.long c2), .second, .val (.long c3), .second, .val (.int (4 : Int32)), .val (.ref b129), .unset, .unset] [(.ref o138), (.ref b129)]))
            have f139 := ((f132.keep Kq137).keep Kq138)
            have f140 := (Fa137.keep Kq138 nin0)
            have f141 := (Fb137.keep Kq138 nin0)
            have f142 := (Fc137.keep Kq138 nin0)
            have f143 := (Fd137.keep Kq138 nin0)
            obtain ⟨cq144, kq144, q144a, q144b, q144c⟩ := isOf hZ e138 f139
            obtain ⟨_, _, ⟨T144, L144, k144, n144⟩, -, X144, ⟨Lc144, hQ144, l144, y144, z144⟩, st144⟩ := X138.virtualBack hx (y := (⟨"com/example/liftwise/liftwise/eval/arithmetic/Solver$Sides", "add", "(Ljava/math/BigInteger;)V"⟩ : MethodName)) (z := (⟨"com/example/liftwise/liftwise/eval/arithmetic/Solver$Sides", "add", "(Ljava/math/BigInteger;)V"⟩ : MethodName)) hown (mvT hZ (hw _ (List.mem_of_getElem? (i := 49) rfl))) (mvT hZ (hw _ (List.mem_of_getElem? (i := 50) rfl))) (notFace_of_selects (args := #[]) (mvT hZ (hw _ (List.mem_of_getElem? (i := 52) rfl)))) (mvT hZ (hw _ (List.mem_of_getElem? (i := 52) rfl))) (mvT hZ (hw _ (List.mem_of_getElem? (i := 51) rfl))) (by decide) (backOf (W := 0) (rm_add l Z a0 hw [] b129 o138 one om ko (own_sg c1) (own_un c1) (own_up c0 (0 : Int32)) (own_dn c0 (0 : Int32)) (own_lu c0 (1 : Int32)) (own_uu c0 (1 : Int32)) (own_up c1 (own_up c0 (0 : Int32))) (own_dn c1 (own_dn c0 (0 : Int32))) (own_lu c1 (own_lu c0 (1 : Int32))) (own_uu c1 (own_uu c0 (1 : Int32))) T138.heap n0 O138 S_ONE E_one Fs_one Fm_one V_one f139 f140 f141 f142 f143 g_b129 Bq138 (own_sg_or _) (own_un_or _) (own_lu_or c0 (Or.inr rfl)) (own_uu_or c0 (Or.inr rfl)) rfl rfl rfl rfl) hZ (hw _ (List.mem_of_getElem? (i := 53) rfl)) (hw _ (List.mem_of_getElem? (i := 3) rfl)) (by decide) (by decide)) q144a q144c (g := (mkF m 94 #[.val (.int pp), .val (.long c0), .second, .val (.long c1), .second, .val (.long c2), .second, .val (.long c3), .second, .val (.int (4 : Int32)), .val (.ref b129), .unset, .unset] [(.ref o138), (.ref b129)])) rfl (by rw [hml]; rfl) (Steps.refl _) (argsL := [(.ref o138)]) (rest := []) (lenOf pd_5 rfl) rfl (by show 2 * 0 + _ ≤ _; exact Nat.le_of_eq rfl) (hb hby at_94) (fun _ _ => ⟨rfl, e138, (by decide : (((1 + 2) + 1) + 2) + 1 ≤ _), (by decide : (((4 + 8) + 6) + 8) + 6 ≤ _)⟩)
            dsimp only [Pt.U, Pt.locs, Pt.cells, Pt.slots] at X144 l144 y144 z144 st144 hQ144
            rw [l144, y144, z144] at X144
            obtain ⟨rfl, Nq144, Kq144, Fa144, Fb144, Fc144, Fd144⟩ := hQ144
            have N144 := Fr.app N138 Nq144
            have e144 : T144.heap = T144.heap := rfl
            refine own_via st144 ?_
            have O144 := O138.keep Kq144 (allS g_b129 all0)
            have K144 := K138.trans Kq144 (allS (Or.inr sz_b129) all0)
            show own_Go p e below s _ _ (T144.setTop (mkF m 97 #[.val (.int pp), .val (.long c0), .second, .val (.long c1), .second, .val (.long c2), .second, .val (.long c3), .second, .val (.int (4 : Int32)), .val (.ref b129), .unset, .unset] []))
            refine own_by (fun tz kz => XS.iload X144.here hx rfl (hb hby at_97) rfl  kz) ?_
            show own_Go p e below s _ _ (T144.setTop (mkF m 99 #[.val (.int pp), .val (.long c0), .second, .val (.long c1), .second, .val (.long c2), .second, .val (.long c3), .second, .val (.int (4 : Int32)), .val (.ref b129), .unset, .unset] [(.int (4 : Int32))]))
            refine own_by (fun tz kz => XS.iconst X144.here hx rfl (hb hby at_99) kz) ?_
            show own_Go p e below s _ _ (T144.setTop (mkF m 100 #[.val (.int pp), .val (.long c0), .second, .val (.long c1), .second, .val (.long c2), .second, .val (.long c3), .second, .val (.int (4 : Int32)), .val (.ref b129), .unset, .unset] [(.int (2 : Int32)), (.int (4 : Int32))]))
            refine own_by (fun tz kz => XS.icmpNo X144.here hx rfl (hb hby at_100) rfl (tlt (by decide : (2 : Int32) < (4 : Int32))).2.2.2 kz) ?_
            show own_Go p e below s _ _ (T144.setTop (mkF m 103 #[.val (.int pp), .val (.long c0), .second, .val (.long c1), .second, .val (.long c2), .second, .val (.long c3), .second, .val (.int (4 : Int32)), .val (.ref b129), .unset, .unset] []))
            refine own_by (fun tz kz => XS.aload X144.here hx rfl (hb hby at_103) rfl rfl kz) ?_
            show own_Go p e below s _ _ (T144.setTop (mkF m 105 #[.val (.int pp), .val (.long c0), .second, .val (.long c1), .second, .val (.long c2), .second, .val (.long c3), .second, .val (.int (4 : Int32)), .val (.ref b129), .unset, .unset] [(.ref b129)]))
            refine own_by (fun tz kz => XS.lload X144.here hx rfl (hb hby at_105) rfl kz) ?_
            show own_Go p e below s _ _ (T144.setTop (mkF m 107 #[.val (.int pp), .val (.long c0), .second, .val (.long c1), .second, .val (.long c2), .second, .val (.long c3), .second, .val (.int (4 : Int32)), .val (.ref b129), .unset, .unset] [(.long c2), (.ref b129)]))
            obtain ⟨_, _, ⟨T145, L145, k145, n145⟩, -, X145, ⟨Lc145, hQ145, l145, y145, z145⟩, st145⟩ := Jvm.LawKit.callS X144 hx (y := (⟨"java/math/BigInteger", "valueOf", "(J)Ljava/math/BigInteger;"⟩ : MethodName)) hown (mvT hZ (hw _ (List.mem_of_getElem? (i := 26) rfl))) (mvT hZ (hw _ (List.mem_of_getElem? (i := 27) rfl))) (mvT hZ (hw _ (List.mem_of_getElem? (i := 28) rfl))) (mvT hZ (hw _ (List.mem_of_getElem? (i := 29) rfl))) (by decide) (backOf (W := 1) (rm_valueOf l Z a0 hw [] c2 pa na pc nc T144.heap n0 O144 S_pos S_neg T_pos T_neg hc41_127) hZ (hw _ (List.mem_of_getElem? (i := 29) rfl)) (hw _ (List.mem_of_getElem? (i := 28) rfl)) (by decide) (by decide)) (g := (mkF m 107 #[.val (.int pp), .val (.long c0), .second, .val (.long c1), .second, .val (.long c2), .second, .val (.long c3), .second, .val (.int (4 : Int32)), .val (.ref b129), .unset, .unset] [(.long c2), (.ref b129)])) rfl (by rw [hml]; rfl) (argsL := [(.long c2)]) (rest := [(.ref b129)]) (lenOf pd_3 rfl) rfl (by show 2 * 0 + _ ≤ _; exact Nat.le_of_eq rfl) (hb hby at_107) (fun _ _ => ⟨rfl, e144, (by decide : ((((1 + 2) + 1) + 2) + 1) + 2 ≤ _), (by decide : ((((4 + 8) + 6) + 8) + 6) + 8 ≤ _)⟩)
            dsimp only [Pt.U, Pt.locs, Pt.cells, Pt.slots] at X145 l145 y145 z145 st145 hQ145
            rw [l145, y145, z145] at X145
            obtain ⟨o145, rfl, Nq145, Kq145, Bq145⟩ := hQ145
            have N145 := Fr.app N144 Nq145
            have e145 : T145.heap = T145.heap := rfl
            refine own_by st145 ?_
            have O145 := O144.keep Kq145 all0
            have K145 := K144.trans Kq145 all0
            show own_Go p e below s _ _ (T145.setTop (mkF m 110 #[.val (.int pp), .val (.long c0), .second, .val (.long c1), .second, .val (.long c2), .second, .val (.long c3), .second, .val (.int (4 : Int32)), .val (.ref b129), .unset, .unset] [(.ref o145), (.ref b129)]))
            have f146 := ((f139.keep Kq144).keep Kq145)
            have f147 := (Fa144.keep Kq145 nin0)
            have f148 := (Fb144.keep Kq145 nin0)
            have f149 := (Fc144.keep Kq145 nin0)
            have f150 := (Fd144.keep Kq145 nin0)
            obtain ⟨cq151, kq151, q151a, q151b, q151c⟩ := isOf hZ e145 f146
            obtain ⟨_, _, ⟨T151, L151, k151, n151⟩, -, X151, ⟨Lc151, hQ151, l151, y151, z151⟩, st151⟩ := X145.virtualBack hx (y := (⟨"com/example/liftwise/liftwise/eval/arithmetic/Solver$Sides", "add", "(Ljava/math/BigInteger;)V"⟩ : MethodName)) (z := (⟨"com/example/liftwise/liftwise/eval/arithmetic/Solver$Sides", "add", "(Ljava/math/BigInteger;)V"⟩ : MethodName)) hown (mvT hZ (hw _ (List.mem_of_getElem? (i := 49) rfl))) (mvT hZ (hw _ (List.mem_of_getElem? (i := 50) rfl))) (notFace_of_selects (args := #[]) (mvT hZ (hw _ (List.mem_of_getElem? (i := 52) rfl)))) (mvT hZ (hw _ (List.mem_of_getElem? (i := 52) rfl))) (mvT hZ (hw _ (List.mem_of_getElem? (i := 51) rfl))) (by decide) (backOf (W := 0) (rm_add l Z a0 hw [] b129 o145 one om ko (own_sg c2) (own_un c2) (own_up c1 (own_up c0 (0 : Int32))) (own_dn c1 (own_dn c0 (0 : Int32))) (own_lu c1 (own_lu c0 (1 : Int32))) (own_uu c1 (own_uu c0 (1 : Int32))) (own_up c2 (own_up c1 (own_up c0 (0 : Int32)))) (own_dn c2 (own_dn c1 (own_dn c0 (0 : Int32)))) (own_lu c2 (own_lu c1 (own_lu c0 (1 : Int32)))) (own_uu c2 (own_uu c1 (own_uu c0 (1 : Int32)))) T145.heap n0 O145 S_ONE E_one Fs_one Fm_one V_one f146 f147 f148 f149 f150 g_b129 Bq145 (own_sg_or _) (own_un_or _) (own_lu_or c1 (own_lu_or c0 (Or.inr rfl))) (own_uu_or c1 (own_uu_or c0 (Or.inr rfl))) rfl rfl rfl rfl) hZ (hw _ (List.mem_of_getElem? (i := 53) rfl)) (hw _ (List.mem_of_getElem? (i := 3) rfl)) (by decide) (by decide)) q151a q151c (g := (mkF m 110 #[.val (.int pp), .val (.long c0), .second, .val (.long c1), .second, .val (.long c2), .second, .val (.long c3), .second, .val (.int (4 : Int32)), .val (.ref b129), .unset, .unset] [(.ref o145), (.ref b129)])) rfl (by rw [hml]; rfl) (Steps.refl _) (argsL := [(.ref o145)]) (rest := []) (lenOf pd_5 rfl) rfl (by show 2 * 0 + _ ≤ _; exact Nat.le_of_eq rfl) (hb hby at_110) (fun _ _ => ⟨rfl, e145, (by decide : (((((1 + 2) + 1) + 2) + 1) + 2) + 1 ≤ _), (by decide : (((((4 + 8) + 6) + 8) + 6) + 8) + 6 ≤ _)⟩)
            dsimp only [Pt.U, Pt.locs, Pt.cells, Pt.slots] at X151 l151 y151 z151 st151 hQ151
            rw [l151, y151, z151] at X151
            obtain ⟨rfl, Nq151, Kq151, Fa151, Fb151, Fc151, Fd151⟩ := hQ151
            have N151 := Fr.app N145 Nq151
            have e151 : T151.heap = T151.heap := rfl
            refine own_via st151 ?_
            have O151 := O145.keep Kq151 (allS g_b129 all0)
            have K151 := K145.trans Kq151 (allS (Or.inr sz_b129) all0)
            show own_Go p e below s _ _ (T151.setTop (mkF m 113 #[.val (.int pp), .val (.long c0), .second, .val (.long c1), .second, .val (.long c2), .second, .val (.long c3), .second, .val (.int (4 : Int32)), .val (.ref b129), .unset, .unset] []))
            refine own_by (fun tz kz => XS.iload X151.here hx rfl (hb hby at_113) rfl  kz) ?_
            show own_Go p e below s _ _ (T151.setTop (mkF m 115 #[.val (.int pp), .val (.long c0), .second, .val (.long c1), .second, .val (.long c2), .second, .val (.long c3), .second, .val (.int (4 : Int32)), .val (.ref b129), .unset, .unset] [(.int (4 : Int32))]))
            refine own_by (fun tz kz => XS.iconst X151.here hx rfl (hb hby at_115) kz) ?_
            show own_Go p e below s _ _ (T151.setTop (mkF m 116 #[.val (.int pp), .val (.long c0), .second, .val (.long c1), .second, .val (.long c2), .second, .val (.long c3), .second, .val (.int (4 : Int32)), .val (.ref b129), .unset, .unset] [(.int (3 : Int32)), (.int (4 : Int32))]))
            refine own_by (fun tz kz => XS.icmpNo X151.here hx rfl (hb hby at_116) rfl (tlt (by decide : (3 : Int32) < (4 : Int32))).2.2.2 kz) ?_
            show own_Go p e below s _ _ (T151.setTop (mkF m 119 #[.val (.int pp), .val (.long c0), .second, .val (.long c1), .second, .val (.long c2), .second, .val (.long c3), .second, .val (.int (4 : Int32)), .val (.ref b129), .unset, .unset] []))
            refine own_by (fun tz kz => XS.aload X151.here hx rfl (hb hby at_119) rfl rfl kz) ?_
            show own_Go p e below s _ _ (T151.setTop (mkF m 121 #[.val (.int pp), .val (.long c0), .second, .val (.long c1), .second, .val (.long c2), .second, .val (.long c3), .second, .val (.int (4 : Int32)), .val (.ref b129), .unset, .unset] [(.ref b129)]))
            refine own_by (fun tz kz => XS.lload X151.here hx rfl (hb hby at_121) rfl kz) ?_
            show own_Go p e below s _ _ (T151.setTop (mkF m 123 #[.val (.int pp), .val (.long c0), .second, .val (.long c1), .second, .val (.long c2), .second, .val (.long c3), .second, .val (.int (4 : Int32)), .val (.ref b129), .unset, .unset] [(.long c3), (.ref b129)]))
            obtain ⟨_, _, ⟨T152, L152, k152, n152⟩, -, X152, ⟨Lc152, hQ152, l152, y152, z152⟩, st152⟩ := Jvm.LawKit.callS X151 hx (y := (⟨"java/math/BigInteger", "valueOf", "(J)Ljava/math/BigInteger;"⟩ : MethodName)) hown (mvT hZ (hw _ (List.mem_of_getElem? (i := 26) rfl))) (mvT hZ (hw _ (List.mem_of_getElem? (i := 27) rfl))) (mvT hZ (hw _ (List.mem_of_getElem? (i := 28) rfl))) (mvT hZ (hw _ (List.mem_of_getElem? (i := 29) rfl))) (by decide) (backOf (W := 1) (rm_valueOf l Z a0 hw [] c3 pa na pc nc T151.heap n0 O151 S_pos S_neg T_pos T_neg hc54_128) hZ (hw _ (List.mem_of_getElem? (i := 29) rfl)) (hw _ (List.mem_of_getElem? (i := 28) rfl)) (by decide) (by decide)) (g := (mkF m 123 #[.val (.int pp), .val (.long c0), .second, .val (.long c1), .second, .val (.long c2), .second, .val (.long c3), .second, .val (.int (4 : Int32)), .val (.ref b129), .unset, .unset] [(.long c3), (.ref b129)])) rfl (by rw [hml]; rfl) (argsL := [(.long c3)]) (rest := [(.ref b129)]) (lenOf pd_3 rfl) rfl (by show 2 * 0 + _ ≤ _; exact Nat.le_of_eq rfl) (hb hby at_123) (fun _ _ => ⟨rfl, e151, (by decide : ((((((1 + 2) + 1) + 2) + 1) + 2) + 1) + 2 ≤ _), (by decide : ((((((4 + 8) + 6) + 8) + 6) + 8) + 6) + 8 ≤ _)⟩)
            dsimp only [Pt.U, Pt.locs, Pt.cells, Pt.slots] at X152 l152 y152 z152 st152 hQ152
            rw [l152, y152, z152] at X152
            obtain ⟨o152, rfl, Nq152, Kq152, Bq152⟩ := hQ152
            have N152 := Fr.app N151 Nq152
            have e152 : T152.heap = T152.heap := rfl
            refine own_by st152 ?_
            have O152 := O151.keep Kq152 all0
            have K152 := K151.trans Kq152 all0
            show own_Go p e below s _ _ (T152.setTop (mkF m 126 #[.val (.int pp), .val (.long c0), .second, .val (.long c1), .second, .val (.long c2), .second, .val (.long c3), .second, .val (.int (4 : Int32)), .val (.ref b129), .unset, .unset] [(.ref o152), (.ref b129)]))
            have f153 := ((f146.keep Kq151).keep Kq152)
            have f154 := (Fa151.keep Kq152 nin0)
            have f155 := (Fb151.keep Kq152 nin0)
            have f156 := (Fc151.keep Kq152 nin0)
            have f157 := (Fd151.keep Kq152 nin0)
            obtain ⟨cq158, kq158, q158a, q158b, q158c⟩ := isOf hZ e152 f153
            obtain ⟨_, _, ⟨T158, L158, k158, n158⟩, -, X158, ⟨Lc158, hQ158, l158, y158, z158⟩, st158⟩ := X152.virtualBack hx (y := (⟨"com/example/liftwise/liftwise/eval/arithmetic/Solver$Sides", "add", "(Ljava/math/BigInteger;)V"⟩ : MethodName)) (z := (⟨"com/example/liftwise/liftwise/eval/arithmetic/Solver$Sides", "add", "(Ljava/math/BigInteger;)V"⟩ : MethodName)) hown (mvT hZ (hw _ (List.mem_of_getElem? (i := 49) rfl))) (mvT hZ (hw _ (List.mem_of_getElem? (i := 50) rfl))) (notFace_of_selects (args := #[]) (mvT hZ (hw _ (List.mem_of_getElem? (i := 52) rfl)))) (mvT hZ (hw _ (List.mem_of_getElem? (i := 52) rfl))) (mvT hZ (hw _ (List.mem_of_getElem? (i := 51) rfl))) (by decide) (backOf (W := 0) (rm_add l Z a0 hw [] b129 o152 one om ko (own_sg c3) (own_un c3) (own_up c2 (own_up c1 (own_up c0 (0 : Int32)))) (own_dn c2 (own_dn c1 (own_dn c0 (0 : Int32)))) (own_lu c2 (own_lu c1 (own_lu c0 (1 : Int32)))) (own_uu c2 (own_uu c1 (own_uu c0 (1 : Int32)))) (own_up c3 (own_up c2 (own_up c1 (own_up c0 (0 : Int32))))) (own_dn c3 (own_dn c2 (own_dn c1 (own_dn c0 (0 : Int32))))) (own_lu c3 (own_lu c2 (own_lu c1 (own_lu c0 (1 : Int32))))) (own_uu c3 (own_uu c2 (own_uu c1 (own_uu c0 (1 : Int32))))) T152.heap n0 O152 S_ONE E_one Fs_one Fm_one V_one f153 f154 f155 f156 f157 g_b129 Bq152 (own_sg_or _) (own_un_or _) (own_lu_or c2 (own_lu_or c1 (own_lu_or c0 (Or.inr rfl)))) (own_uu_or c2 (own_uu_or c1 (own_uu_or c0 (Or.inr rfl)))) rfl rfl rfl rfl) hZ (hw _ (List.mem_of_getElem? (i := 53) rfl)) (hw _ (List.mem_of_getElem? (i := 3) rfl)) (by decide) (by decide)) q158a q158c (g := (mkF m 126 #[.val (.int pp), .val (.long c0), .second, .val (.long c1), .second, .val (.long c2), .second, .val (.long c3), .second, .val (.int (4 : Int32)), .val (.ref b129), .unset, .unset] [(.ref o152), (.ref b129)])) rfl (by rw [hml]; rfl) (Steps.refl _) (argsL := [(.ref o152)]) (rest := []) (lenOf pd_5 rfl) rfl (by show 2 * 0 + _ ≤ _; exact Nat.le_of_eq rfl) (hb hby at_126) (fun _ _ => ⟨rfl, e152, (by decide : (((((((1 + 2) + 1) + 2) + 1) + 2) + 1) + 2) + 1 ≤ _), (by decide : (((((((4 + 8) + 6) + 8) + 6) + 8) + 6) + 8) + 6 ≤ _)⟩)
            dsimp only [Pt.U, Pt.locs, Pt.cells, Pt.slots] at X158 l158 y158 z158 st158 hQ158
            rw [l158, y158, z158] at X158
            obtain ⟨rfl, Nq158, Kq158, Fa158, Fb158, Fc158, Fd158⟩ := hQ158
            have N158 := Fr.app N152 Nq158
            have e158 : T158.heap = T158.heap := rfl
            refine own_via st158 ?_
            have O158 := O152.keep Kq158 (allS g_b129 all0)
            have K158 := K152.trans Kq158 (allS (Or.inr sz_b129) all0)
            have J209 : ∀ (Tj159 : State) (Lj159 : List Loc), Stand p l e room_1 s m #[(.int pp), (.long c0), (.long c1), (.long c2), (.long c3)] below meth c Tj159 Lj159 ((((((((1 + 2) + 1) + 2) + 1) + 2) + 1) + 2) + 1) ((((((((4 + 8) + 6) + 8) + 6) + 8) + 6) + 8) + 6) → Tj159.heap = T158.heap → Fr n0 Lj159 → ∀ lo : Int32, lo = own_all LF0 LF1 LF2 LF3 → own_Go p e below s (Q_rm0 n0) room_1 (Tj159.setTop (mkF m 209 #[.val (.int pp), .val (.long c0), .second, .val (.long c1), .second, .val (.long c2), .second, .val (.long c3), .second, .val (.int (4 : Int32)), .val (.ref b129), .val (.int lo), .unset] [])) := by
              intro Tj159 Lj159 Xj159 ej159 Nj159 lo hlo
              have J289 : ∀ (Tj160 : State) (Lj160 : List Loc), Stand p l e room_1 s m #[(.int pp), (.long c0), (.long c1), (.long c2), (.long c3)] below meth c Tj160 Lj160 ((((((((1 + 2) + 1) + 2) + 1) + 2) + 1) + 2) + 1) ((((((((4 + 8) + 6) + 8) + 6) + 8) + 6) + 8) + 6) → Tj160.heap = T158.heap → Fr n0 Lj160 → ∀ up : Int32, up = own_all UF0 UF1 UF2 UF3 → own_Go p e below s (Q_rm0 n0) room_1 (Tj160.setTop (mkF m 289 #[.val (.int pp), .val (.long c0), .second, .val (.long c1), .second, .val (.long c2), .second, .val (.long c3), .second, .val (.int (4 : Int32)), .val (.ref b129), .val (.int lo), .val (.int up)] [])) := by
                intro Tj160 Lj160 Xj160 ej160 Nj160 up hup
                show own_Go p e below s _ _ (Tj160.setTop (mkF m 289 #[.val (.int pp), .val (.long c0), .second, .val (.long c1), .second, .val (.long c2), .second, .val (.long c3), .second, .val (.int (4 : Int32)), .val (.ref b129), .val (.int lo), .val (.int up)] []))
                refine own_by (fun tz kz => XS.aload Xj160.here hx rfl (hb hby at_289) rfl rfl kz) ?_
                show own_Go p e below s _ _ (Tj160.setTop (mkF m 291 #[.val (.int pp), .val (.long c0), .second, .val (.long c1), .second, .val (.long c2), .second, .val (.long c3), .second, .val (.int (4 : Int32)), .val (.ref b129), .val (.int lo), .val (.int up)] [(.ref b129)]))
                have f161 := (f153.keep Kq158)
                obtain ⟨cq162, kq162, q162a, q162b, q162c⟩ := isOf hZ ej160 f161
                obtain ⟨_, _, ⟨T162, L162, k162, n162⟩, -, X162, ⟨Lc162, hQ162, l162, y162, z162⟩, st162⟩ := Xj160.virtualBack hx (y := (⟨"com/example/liftwise/liftwise/eval/arithmetic/Solver$Sides", "isExact", "()Z"⟩ : MethodName)) (z := (⟨"com/example/liftwise/liftwise/eval/arithmetic/Solver$Sides", "isExact", "()Z"⟩ : MethodName)) hown (mvT hZ (hw _ (List.mem_of_getElem? (i := 21) rfl))) (mvT hZ (hw _ (List.mem_of_getElem? (i := 22) rfl))) (notFace_of_selects (args := #[]) (mvT hZ (hw _ (List.mem_of_getElem? (i := 24) rfl)))) (mvT hZ (hw _ (List.mem_of_getElem? (i := 24) rfl))) (mvT hZ (hw _ (List.mem_of_getElem? (i := 23) rfl))) (by decide) (backOf (W := 0) (rm_exact l Z a0 hw [] b129 (own_lu c3 (own_lu c2 (own_lu c1 (own_lu c0 (1 : Int32))))) (own_uu c3 (own_uu c2 (own_uu c1 (own_uu c0 (1 : Int32))))) (if ¬ lo = (0 : Int32) ∨ ¬ up = (0 : Int32) then (1 : Int32) else (0 : Int32)) T158.heap n0 Fc158 Fd158 (own_ex ((own_rell4 c0 c1 c2 c3 hLF0 hc16_125 hLF1 hc28_126 hLF2 hc41_127 hLF3 hc54_128).trans hlo.symm) ((own_relu4 c0 c1 c2 c3 hUF0 hc16_125 hUF1 hc28_126 hUF2 hc41_127 hUF3 hc54_128).trans hup.symm))) hZ (hw _ (List.mem_of_getElem? (i := 25) rfl)) (hw _ (List.mem_of_getElem? (i := 3) rfl)) (by decide) (by decide)) q162a q162c (g := (mkF m 291 #[.val (.int pp), .val (.long c0), .second, .val (.long c1), .second, .val (.long c2), .second, .val (.long c3), .second, .val (.int (4 : Int32)), .val (.ref b129), .val (.int lo), .val (.int up)] [(.ref b129)])) rfl (by rw [hml]; rfl) (Steps.refl _) (argsL := []) (rest := []) (lenOf pd_2 rfl) rfl (by show 2 * 0 + _ ≤ _; exact Nat.le_of_eq rfl) (hb hby at_291) (fun _ _ => ⟨rfl, ej160, (by decide : ((((((((1 + 2) + 1) + 2) + 1) + 2) + 1) + 2) + 1) + 0 ≤ _), (by decide : ((((((((4 + 8) + 6) + 8) + 6) + 8) + 6) + 8) + 6) + 0 ≤ _)⟩)
                dsimp only [Pt.U, Pt.locs, Pt.cells, Pt.slots] at X162 l162 y162 z162 st162 hQ162
                rw [l162, y162, z162] at X162
                obtain ⟨rfl, Nq162, e162⟩ := hQ162
                have N162 := Fr.app Nj160 Nq162
                refine own_via st162 ?_
                show own_Go p e below s _ _ (T162.setTop (mkF m 294 #[.val (.int pp), .val (.long c0), .second, .val (.long c1), .second, .val (.long c2), .second, .val (.long c3), .second, .val (.int (4 : Int32)), .val (.ref b129), .val (.int lo), .val (.int up)] [(.int (if ¬ lo = (0 : Int32) ∨ ¬ up = (0 : Int32) then (1 : Int32) else (0 : Int32)))]))
                refine own_by (fun tz kz => XS.iload X162.here hx rfl (hb hby at_294) rfl  kz) ?_
                show own_Go p e below s _ _ (T162.setTop (mkF m 296 #[.val (.int pp), .val (.long c0), .second, .val (.long c1), .second, .val (.long c2), .second, .val (.long c3), .second, .val (.int (4 : Int32)), .val (.ref b129), .val (.int lo), .val (.int up)] [(.int lo), (.int (if ¬ lo = (0 : Int32) ∨ ¬ up = (0 : Int32) then (1 : Int32) else (0 : Int32)))]))
                by_cases hc296_163 : lo = (0 : Int32)
                · refine own_by (fun tz kz => XS.ifNo X162.here hx rfl (hb hby at_296) rfl ((if0 _ _).trans (teq hc296_163).2) kz) ?_
                  show own_Go p e below s _ _ (T162.setTop (mkF m 299 #[.val (.int pp), .val (.long c0), .second, .val (.long c1), .second, .val (.long c2), .second, .val (.long c3), .second, .val (.int (4 : Int32)), .val (.ref b129), .val (.int lo), .val (.int up)] [(.int (if ¬ lo = (0 : Int32) ∨ ¬ up = (0 : Int32) then (1 : Int32) else (0 : Int32)))]))
                  refine own_by (fun tz kz => XS.iload X162.here hx rfl (hb hby at_299) rfl  kz) ?_
                  show own_Go p e below s _ _ (T162.setTop (mkF m 301 #[.val (.int pp), .val (.long c0), .second, .val (.long c1), .second, .val (.long c2), .second, .val (.long c3), .second, .val (.int (4 : Int32)), .val (.ref b129), .val (.int lo), .val (.int up)] [(.int up), (.int (if ¬ lo = (0 : Int32) ∨ ¬ up = (0 : Int32) then (1 : Int32) else (0 : Int32)))]))
                  by_cases hc301_164 : up = (0 : Int32)
                  · refine own_by (fun tz kz => XS.ifYes X162.here hx rfl (pc0 := 301) (pc' := 308) rfl (hb hby at_301) rfl ((if0 _ _).trans (teq hc301_164).1) (by decide) (by decide) kz) ?_
                    show own_Go p e below s _ _ (T162.setTop (mkF m 308 #[.val (.int pp), .val (.long c0), .second, .val (.long c1), .second, .val (.long c2), .second, .val (.long c3), .second, .val (.int (4 : Int32)), .val (.ref b129), .val (.int lo), .val (.int up)] [(.int (if ¬ lo = (0 : Int32) ∨ ¬ up = (0 : Int32) then (1 : Int32) else (0 : Int32)))]))
                    refine own_by (fun tz kz => XS.iconst X162.here hx rfl (hb hby at_308) kz) ?_
                    show own_Go p e below s _ _ (T162.setTop (mkF m 309 #[.val (.int pp), .val (.long c0), .second, .val (.long c1), .second, .val (.long c2), .second, .val (.long c3), .second, .val (.int (4 : Int32)), .val (.ref b129), .val (.int lo), .val (.int up)] [(.int (0 : Int32)), (.int (if ¬ lo = (0 : Int32) ∨ ¬ up = (0 : Int32) then (1 : Int32) else (0 : Int32)))]))
                    refine own_by (fun tz kz => XS.icmpNo X162.here hx rfl (hb hby at_309) rfl (teq (if_neg (fun q => q.elim (fun q => q hc296_163) (fun q => q hc301_164)))).2 kz) ?_
                    show own_Go p e below s _ _ (T162.setTop (mkF m 312 #[.val (.int pp), .val (.long c0), .second, .val (.long c1), .second, .val (.long c2), .second, .val (.long c3), .second, .val (.int (4 : Int32)), .val (.ref b129), .val (.int lo), .val (.int up)] []))
                    refine own_by (fun tz kz => XS.iconst X162.here hx rfl (hb hby at_312) kz) ?_
                    show own_Go p e below s _ _ (T162.setTop (mkF m 313 #[.val (.int pp), .val (.long c0), .second, .val (.long c1), .second, .val (.long c2), .second, .val (.long c3), .second, .val (.int (4 : Int32)), .val (.ref b129), .val (.int lo), .val (.int up)] [(.int (1 : Int32))]))
                    refine own_by (fun tz kz => XS.goto X162.here hx rfl (pc0 := 313) (pc' := 317) rfl (hb hby at_313) (by decide) (by decide) kz) ?_
                    show own_Go p e below s _ _ (T162.setTop (mkF m 317 #[.val (.int pp), .val (.long c0), .second, .val (.long c1), .second, .val (.long c2), .second, .val (.long c3), .second, .val (.int (4 : Int32)), .val (.ref b129), .val (.int lo), .val (.int up)] [(.int (1 : Int32))]))
                    refine own_retI X162 hx hlk (t := .boolean) hret (by simp) rfl (hb hby at_317) ?_ (by decide) (by decide)
                    exact ⟨rfl, N162⟩
                  · refine own_by (fun tz kz => XS.ifNo X162.here hx rfl (hb hby at_301) rfl ((if0 _ _).trans (feq hc301_164).1) kz) ?_
                    show own_Go p e below s _ _ (T162.setTop (mkF m 304 #[.val (.int pp), .val (.long c0), .second, .val (.long c1), .second, .val (.long c2), .second, .val (.long c3), .second, .val (.int (4 : Int32)), .val (.ref b129), .val (.int lo), .val (.int up)] [(.int (if ¬ lo = (0 : Int32) ∨ ¬ up = (0 : Int32) then (1 : Int32) else (0 : Int32)))]))
                    refine own_by (fun tz kz => XS.iconst X162.here hx rfl (hb hby at_304) kz) ?_
                    show own_Go p e below s _ _ (T162.setTop (mkF m 305 #[.val (.int pp), .val (.long c0), .second, .val (.long c1), .second, .val (.long c2), .second, .val (.long c3), .second, .val (.int (4 : Int32)), .val (.ref b129), .val (.int lo), .val (.int up)] [(.int (1 : Int32)), (.int (if ¬ lo = (0 : Int32) ∨ ¬ up = (0 : Int32) then (1 : Int32) else (0 : Int32)))]))
                    refine own_by (fun tz kz => XS.goto X162.here hx rfl (pc0 := 305) (pc' := 309) rfl (hb hby at_305) (by decide) (by decide) kz) ?_
                    show own_Go p e below s _ _ (T162.setTop (mkF m 309 #[.val (.int pp), .val (.long c0), .second, .val (.long c1), .second, .val (.long c2), .second, .val (.long c3), .second, .val (.int (4 : Int32)), .val (.ref b129), .val (.int lo), .val (.int up)] [(.int (1 : Int32)), (.int (if ¬ lo = (0 : Int32) ∨ ¬ up = (0 : Int32) then (1 : Int32) else (0 : Int32)))]))
                    refine own_by (fun tz kz => XS.icmpNo X162.here hx rfl (hb hby at_309) rfl (teq (if_pos (Or.inr hc301_164))).2 kz) ?_
                    show own_Go p e below s _ _ (T162.setTop (mkF m 312 #[.val (.int pp), .val (.long c0), .second, .val (.long c1), .second, .val (.long c2), .second, .val (.long c3), .second, .val (.int (4 : Int32)), .val (.ref b129), .val (.int lo), .val (.int up)] []))
                    refine own_by (fun tz kz => XS.iconst X162.here hx rfl (hb hby at_312) kz) ?_
                    show own_Go p e below s _ _ (T162.setTop (mkF m 313 #[.val (.int pp), .val (.long c0), .second, .val (.long c1), .second, .val (.long c2), .second, .val (.long c3), .second, .val (.int (4 : Int32)), .val (.ref b129), .val (.int lo), .val (.int up)] [(.int (1 : Int32))]))
                    refine own_by (fun tz kz => XS.goto X162.here hx rfl (pc0 := 313) (pc' := 317) rfl (hb hby at_313) (by decide) (by decide) kz) ?_
                    show own_Go p e below s _ _ (T162.setTop (mkF m 317 #[.val (.int pp), .val (.long c0), .second, .val (.long c1), .second, .val (.long c2), .second, .val (.long c3), .second, .val (.int (4 : Int32)), .val (.ref b129), .val (.int lo), .val (.int up)] [(.int (1 : Int32))]))
                    refine own_retI X162 hx hlk (t := .boolean) hret (by simp) rfl (hb hby at_317) ?_ (by decide) (by decide)
                    exact ⟨rfl, N162⟩
                · refine own_by (fun tz kz => XS.ifYes X162.here hx rfl (pc0 := 296) (pc' := 304) rfl (hb hby at_296) rfl ((if0 _ _).trans (feq hc296_163).2) (by decide) (by decide) kz) ?_
                  show own_Go p e below s _ _ (T162.setTop (mkF m 304 #[.val (.int pp), .val (.long c0), .second, .val (.long c1), .second, .val (.long c2), .second, .val (.long c3), .second, .val (.int (4 : Int32)), .val (.ref b129), .val (.int lo), .val (.int up)] [(.int (if ¬ lo = (0 : Int32) ∨ ¬ up = (0 : Int32) then (1 : Int32) else (0 : Int32)))]))
                  refine own_by (fun tz kz => XS.iconst X162.here hx rfl (hb hby at_304) kz) ?_
                  show own_Go p e below s _ _ (T162.setTop (mkF m 305 #[.val (.int pp), .val (.long c0), .second, .val (.long c1), .second, .val (.long c2), .second, .val (.long c3), .second, .val (.int (4 : Int32)), .val (.ref b129), .val (.int lo), .val (.int up)] [(.int (1 : Int32)), (.int (if ¬ lo = (0 : Int32) ∨ ¬ up = (0 : Int32) then (1 : Int32) else (0 : Int32)))]))
                  refine own_by (fun tz kz => XS.goto X162.here hx rfl (pc0 := 305) (pc' := 309) rfl (hb hby at_305) (by decide) (by decide) kz) ?_
                  show own_Go p e below s _ _ (T162.setTop (mkF m 309 #[.val (.int pp), .val (.long c0), .second, .val (.long c1), .second, .val (.long c2), .second, .val (.long c3), .second, .val (.int (4 : Int32)), .val (.ref b129), .val (.int lo), .val (.int up)] [(.int (1 : Int32)), (.int (if ¬ lo = (0 : Int32) ∨ ¬ up = (0 : Int32) then (1 : Int32) else (0 : Int32)))]))
                  refine own_by (fun tz kz => XS.icmpNo X162.here hx rfl (hb hby at_309) rfl (teq (if_pos (Or.inl hc296_163))).2 kz) ?_
                  show own_Go p e below s _ _ (T162.setTop (mkF m 312 #[.val (.int pp), .val (.long c0), .second, .val (.long c1), .second, .val (.long c2), .second, .val (.long c3), .second, .val (.int (4 : Int32)), .val (.ref b129), .val (.int lo), .val (.int up)] []))
                  refine own_by (fun tz kz => XS.iconst X162.here hx rfl (hb hby at_312) kz) ?_
                  show own_Go p e below s _ _ (T162.setTop (mkF m 313 #[.val (.int pp), .val (.long c0), .second, .val (.long c1), .second, .val (.long c2), .second, .val (.long c3), .second, .val (.int (4 : Int32)), .val (.ref b129), .val (.int lo), .val (.int up)] [(.int (1 : Int32))]))
                  refine own_by (fun tz kz => XS.goto X162.here hx rfl (pc0 := 313) (pc' := 317) rfl (hb hby at_313) (by decide) (by decide) kz) ?_
                  show own_Go p e below s _ _ (T162.setTop (mkF m 317 #[.val (.int pp), .val (.long c0), .second, .val (.long c1), .second, .val (.long c2), .second, .val (.long c3), .second, .val (.int (4 : Int32)), .val (.ref b129), .val (.int lo), .val (.int up)] [(.int (1 : Int32))]))
                  refine own_retI X162 hx hlk (t := .boolean) hret (by simp) rfl (hb hby at_317) ?_ (by decide) (by decide)
                  exact ⟨rfl, N162⟩
              show own_Go p e below s _ _ (Tj159.setTop (mkF m 209 #[.val (.int pp), .val (.long c0), .second, .val (.long c1), .second, .val (.long c2), .second, .val (.long c3), .second, .val (.int (4 : Int32)), .val (.ref b129), .val (.int lo), .unset] []))
              refine own_by (fun tz kz => XS.iload Xj159.here hx rfl (hb hby at_209) rfl  kz) ?_
              show own_Go p e below s _ _ (Tj159.setTop (mkF m 211 #[.val (.int pp), .val (.long c0), .second, .val (.long c1), .second, .val (.long c2), .second, .val (.long c3), .second, .val (.int (4 : Int32)), .val (.ref b129), .val (.int lo), .unset] [(.int (4 : Int32))]))
              refine own_by (fun tz kz => XS.ifNo Xj159.here hx rfl (hb hby at_211) rfl ((if0 _ _).trans (tlt (by decide : (0 : Int32) < (4 : Int32))).2.2.2) kz) ?_
              show own_Go p e below s _ _ (Tj159.setTop (mkF m 214 #[.val (.int pp), .val (.long c0), .second, .val (.long c1), .second, .val (.long c2), .second, .val (.long c3), .second, .val (.int (4 : Int32)), .val (.ref b129), .val (.int lo), .unset] []))
              refine own_by (fun tz kz => XS.iconst Xj159.here hx rfl (hb hby at_214) kz) ?_
              show own_Go p e below s _ _ (Tj159.setTop (mkF m 215 #[.val (.int pp), .val (.long c0), .second, .val (.long c1), .second, .val (.long c2), .second, .val (.long c3), .second, .val (.int (4 : Int32)), .val (.ref b129), .val (.int lo), .unset] [(.int (1 : Int32))]))
              refine own_by (fun tz kz => XS.goto Xj159.here hx rfl (pc0 := 215) (pc' := 219) rfl (hb hby at_215) (by decide) (by decide) kz) ?_
              show own_Go p e below s _ _ (Tj159.setTop (mkF m 219 #[.val (.int pp), .val (.long c0), .second, .val (.long c1), .second, .val (.long c2), .second, .val (.long c3), .second, .val (.int (4 : Int32)), .val (.ref b129), .val (.int lo), .unset] [(.int (1 : Int32))]))
              refine own_by (fun tz kz => XS.lloadN Xj159.here hx rfl (hb hby at_219) rfl kz) ?_
              show own_Go p e below s _ _ (Tj159.setTop (mkF m 220 #[.val (.int pp), .val (.long c0), .second, .val (.long c1), .second, .val (.long c2), .second, .val (.long c3), .second, .val (.int (4 : Int32)), .val (.ref b129), .val (.int lo), .unset] [(.long c0), (.int (1 : Int32))]))
              obtain ⟨_, _, ⟨T165, L165, k165, n165⟩, -, X165, ⟨Lc165, hQ165, l165, y165, z165⟩, st165⟩ := Jvm.LawKit.callS Xj159 hx (y := (⟨"com/example/liftwise/liftwise/eval/arithmetic/SidesIsExactPinLaw", "upperFine", "(ZJ)Z"⟩ : MethodName)) hown (mvT hZ (hw _ (List.mem_of_getElem? (i := 18) rfl))) (mvT hZ (hw _ (List.mem_of_getElem? (i := 19) rfl))) (mvT hZ (hw _ (List.mem_of_getElem? (i := 16) rfl))) (mvT hZ (hw _ (List.mem_of_getElem? (i := 20) rfl))) (by decide) (backOf (W := 0) (rm_upperFine l Z a0 hw [] (1 : Int32) c0 UF0 T158.heap n0 hUF0) hZ (hw _ (List.mem_of_getElem? (i := 20) rfl)) (hw _ (List.mem_of_getElem? (i := 16) rfl)) (by decide) (by decide)) (g := (mkF m 220 #[.val (.int pp), .val (.long c0), .second, .val (.long c1), .second, .val (.long c2), .second, .val (.long c3), .second, .val (.int (4 : Int32)), .val (.ref b129), .val (.int lo), .unset] [(.long c0), (.int (1 : Int32))])) rfl (by rw [hml]; rfl) (argsL := [(.int (1 : Int32)), (.long c0)]) (rest := []) (lenOf pd_1 rfl) rfl (by show 2 * 0 + _ ≤ _; exact Nat.le_of_eq rfl) (hb hby at_220) (fun _ _ => ⟨rfl, ej159, (by decide : ((((((((1 + 2) + 1) + 2) + 1) + 2) + 1) + 2) + 1) + 0 ≤ _), (by decide : ((((((((4 + 8) + 6) + 8) + 6) + 8) + 6) + 8) + 6) + 0 ≤ _)⟩)
              dsimp only [Pt.U, Pt.locs, Pt.cells, Pt.slots] at X165 l165 y165 z165 st165 hQ165
              rw [l165, y165, z165] at X165
              obtain ⟨rfl, Nq165, e165⟩ := hQ165
              have N165 := Fr.app Nj159 Nq165
              refine own_by st165 ?_
              show own_Go p e below s _ _ (T165.setTop (mkF m 223 #[.val (.int pp), .val (.long c0), .second, .val (.long c1), .second, .val (.long c2), .second, .val (.long c3), .second, .val (.int (4 : Int32)), .val (.ref b129), .val (.int lo), .unset] [(.int UF0)]))
              by_cases hc223_166 : UF0 = (0 : Int32)
              · refine own_by (fun tz kz => XS.ifYes X165.here hx rfl (pc0 := 223) (pc' := 286) rfl (hb hby at_223) rfl ((if0 _ _).trans (teq hc223_166).1) (by decide) (by decide) kz) ?_
                show own_Go p e below s _ _ (T165.setTop (mkF m 286 #[.val (.int pp), .val (.long c0), .second, .val (.long c1), .second, .val (.long c2), .second, .val (.long c3), .second, .val (.int (4 : Int32)), .val (.ref b129), .val (.int lo), .unset] []))
                refine own_by (fun tz kz => XS.iconst X165.here hx rfl (hb hby at_286) kz) ?_
                show own_Go p e below s _ _ (T165.setTop (mkF m 287 #[.val (.int pp), .val (.long c0), .second, .val (.long c1), .second, .val (.long c2), .second, .val (.long c3), .second, .val (.int (4 : Int32)), .val (.ref b129), .val (.int lo), .unset] [(.int (0 : Int32))]))
                refine own_by (fun tz kz => XS.istore X165.here hx rfl (hb hby at_287) rfl (l' := #[.val (.int pp), .val (.long c0), .second, .val (.long c1), .second, .val (.long c2), .second, .val (.long c3), .second, .val (.int (4 : Int32)), .val (.ref b129), .val (.int lo), .val (.int (0 : Int32))]) rfl kz) ?_
                exact J289 _ _ X165 e165 N165 _ (by simp [own_all, hc223_166])
              · refine own_by (fun tz kz => XS.ifNo X165.here hx rfl (hb hby at_223) rfl ((if0 _ _).trans (feq hc223_166).1) kz) ?_
                show own_Go p e below s _ _ (T165.setTop (mkF m 226 #[.val (.int pp), .val (.long c0), .second, .val (.long c1), .second, .val (.long c2), .second, .val (.long c3), .second, .val (.int (4 : Int32)), .val (.ref b129), .val (.int lo), .unset] []))
                refine own_by (fun tz kz => XS.iload X165.here hx rfl (hb hby at_226) rfl  kz) ?_
                show own_Go p e below s _ _ (T165.setTop (mkF m 228 #[.val (.int pp), .val (.long c0), .second, .val (.long c1), .second, .val (.long c2), .second, .val (.long c3), .second, .val (.int (4 : Int32)), .val (.ref b129), .val (.int lo), .unset] [(.int (4 : Int32))]))
                refine own_by (fun tz kz => XS.iconst X165.here hx rfl (hb hby at_228) kz) ?_
                show own_Go p e below s _ _ (T165.setTop (mkF m 229 #[.val (.int pp), .val (.long c0), .second, .val (.long c1), .second, .val (.long c2), .second, .val (.long c3), .second, .val (.int (4 : Int32)), .val (.ref b129), .val (.int lo), .unset] [(.int (1 : Int32)), (.int (4 : Int32))]))
                refine own_by (fun tz kz => XS.icmpNo X165.here hx rfl (hb hby at_229) rfl (tlt (by decide : (1 : Int32) < (4 : Int32))).2.2.2 kz) ?_
                show own_Go p e below s _ _ (T165.setTop (mkF m 232 #[.val (.int pp), .val (.long c0), .second, .val (.long c1), .second, .val (.long c2), .second, .val (.long c3), .second, .val (.int (4 : Int32)), .val (.ref b129), .val (.int lo), .unset] []))
                refine own_by (fun tz kz => XS.iconst X165.here hx rfl (hb hby at_232) kz) ?_
                show own_Go p e below s _ _ (T165.setTop (mkF m 233 #[.val (.int pp), .val (.long c0), .second, .val (.long c1), .second, .val (.long c2), .second, .val (.long c3), .second, .val (.int (4 : Int32)), .val (.ref b129), .val (.int lo), .unset] [(.int (1 : Int32))]))
                refine own_by (fun tz kz => XS.goto X165.here hx rfl (pc0 := 233) (pc' := 237) rfl (hb hby at_233) (by decide) (by decide) kz) ?_
                show own_Go p e below s _ _ (T165.setTop (mkF m 237 #[.val (.int pp), .val (.long c0), .second, .val (.long c1), .second, .val (.long c2), .second, .val (.long c3), .second, .val (.int (4 : Int32)), .val (.ref b129), .val (.int lo), .unset] [(.int (1 : Int32))]))
                refine own_by (fun tz kz => XS.lloadN X165.here hx rfl (hb hby at_237) rfl kz) ?_
                show own_Go p e below s _ _ (T165.setTop (mkF m 238 #[.val (.int pp), .val (.long c0), .second, .val (.long c1), .second, .val (.long c2), .second, .val (.long c3), .second, .val (.int (4 : Int32)), .val (.ref b129), .val (.int lo), .unset] [(.long c1), (.int (1 : Int32))]))
                obtain ⟨_, _, ⟨T167, L167, k167, n167⟩, -, X167, ⟨Lc167, hQ167, l167, y167, z167⟩, st167⟩ := Jvm.LawKit.callS X165 hx (y := (⟨"com/example/liftwise/liftwise/eval/arithmetic/SidesIsExactPinLaw", "upperFine", "(ZJ)Z"⟩ : MethodName)) hown (mvT hZ (hw _ (List.mem_of_getElem? (i := 18) rfl))) (mvT hZ (hw _ (List.mem_of_getElem? (i := 19) rfl))) (mvT hZ (hw _ (List.mem_of_getElem? (i := 16) rfl))) (mvT hZ (hw _ (List.mem_of_getElem? (i := 20) rfl))) (by decide) (backOf (W := 0) (rm_upperFine l Z a0 hw [] (1 : Int32) c1 UF1 T158.heap n0 hUF1) hZ (hw _ (List.mem_of_getElem? (i := 20) rfl)) (hw _ (List.mem_of_getElem? (i := 16) rfl)) (by decide) (by decide)) (g := (mkF m 238 #[.val (.int pp), .val (.long c0), .second, .val (.long c1), .second, .val (.long c2), .second, .val (.long c3), .second, .val (.int (4 : Int32)), .val (.ref b129), .val (.int lo), .unset] [(.long c1), (.int (1 : Int32))])) rfl (by rw [hml]; rfl) (argsL := [(.int (1 : Int32)), (.long c1)]) (rest := []) (lenOf pd_1 rfl) rfl (by show 2 * 0 + _ ≤ _; exact Nat.le_of_eq rfl) (hb hby at_238) (fun _ _ => ⟨rfl, e165, (by decide : ((((((((1 + 2) + 1) + 2) + 1) + 2) + 1) + 2) + 1) + 0 ≤ _), (by decide : ((((((((4 + 8) + 6) + 8) + 6) + 8) + 6) + 8) + 6) + 0 ≤ _)⟩)
                dsimp only [Pt.U, Pt.locs, Pt.cells, Pt.slots] at X167 l167 y167 z167 st167 hQ167
                rw [l167, y167, z167] at X167
                obtain ⟨rfl, Nq167, e167⟩ := hQ167
                have N167 := Fr.app N165 Nq167
                refine own_by st167 ?_
                show own_Go p e below s _ _ (T167.setTop (mkF m 241 #[.val (.int pp), .val (.long c0), .second, .val (.long c1), .second, .val (.long c2), .second, .val (.long c3), .second, .val (.int (4 : Int32)), .val (.ref b129), .val (.int lo), .unset] [(.int UF1)]))
                by_cases hc241_168 : UF1 = (0 : Int32)
                · refine own_by (fun tz kz => XS.ifYes X167.here hx rfl (pc0 := 241) (pc' := 286) rfl (hb hby at_241) rfl ((if0 _ _).trans (teq hc241_168).1) (by decide) (by decide) kz) ?_
                  show own_Go p e below s _ _ (T167.setTop (mkF m 286 #[.val (.int pp), .val (.long c0), .second, .val (.long c1), .second, .val (.long c2), .second, .val (.long c3), .second, .val (.int (4 : Int32)), .val (.ref b129), .val (.int lo), .unset] []))
                  refine own_by (fun tz kz => XS.iconst X167.here hx rfl (hb hby at_286) kz) ?_
                  show own_Go p e below s _ _ (T167.setTop (mkF m 287 #[.val (.int pp), .val (.long c0), .second, .val (.long c1), .second, .val (.long c2), .second, .val (.long c3), .second, .val (.int (4 : Int32)), .val (.ref b129), .val (.int lo), .unset] [(.int (0 : Int32))]))
                  refine own_by (fun tz kz => XS.istore X167.here hx rfl (hb hby at_287) rfl (l' := #[.val (.int pp), .val (.long c0), .second, .val (.long c1), .second, .val (.long c2), .second, .val (.long c3), .second, .val (.int (4 : Int32)), .val (.ref b129), .val (.int lo), .val (.int (0 : Int32))]) rfl kz) ?_
                  exact J289 _ _ X167 e167 N167 _ (by simp [own_all, hc223_166, hc241_168])
                · refine own_by (fun tz kz => XS.ifNo X167.here hx rfl (hb hby at_241) rfl ((if0 _ _).trans (feq hc241_168).1) kz) ?_
                  show own_Go p e below s _ _ (T167.setTop (mkF m 244 #[.val (.int pp), .val (.long c0), .second, .val (.long c1), .second, .val (.long c2), .second, .val (.long c3), .second, .val (.int (4 : Int32)), .val (.ref b129), .val (.int lo), .unset] []))
                  refine own_by (fun tz kz => XS.iload X167.here hx rfl (hb hby at_244) rfl  kz) ?_
                  show own_Go p e below s _ _ (T167.setTop (mkF m 246 #[.val (.int pp), .val (.long c0), .second, .val (.long c1), .second, .val (.long c2), .second, .val (.long c3), .second, .val (.int (4 : Int32)), .val (.ref b129), .val (.int lo), .unset] [(.int (4 : Int32))]))
                  refine own_by (fun tz kz => XS.iconst X167.here hx rfl (hb hby at_246) kz) ?_
                  show own_Go p e below s _ _ (T167.setTop (mkF m 247 #[.val (.int pp), .val (.long c0), .second, .val (.long c1), .second, .val (.long c2), .second, .val (.long c3), .second, .val (.int (4 : Int32)), .val (.ref b129), .val (.int lo), .unset] [(.int (2 : Int32)), (.int (4 : Int32))]))
                  refine own_by (fun tz kz => XS.icmpNo X167.here hx rfl (hb hby at_247) rfl (tlt (by decide : (2 : Int32) < (4 : Int32))).2.2.2 kz) ?_
                  show own_Go p e below s _ _ (T167.setTop (mkF m 250 #[.val (.int pp), .val (.long c0), .second, .val (.long c1), .second, .val (.long c2), .second, .val (.long c3), .second, .val (.int (4 : Int32)), .val (.ref b129), .val (.int lo), .unset] []))
                  refine own_by (fun tz kz => XS.iconst X167.here hx rfl (hb hby at_250) kz) ?_
                  show own_Go p e below s _ _ (T167.setTop (mkF m 251 #[.val (.int pp), .val (.long c0), .second, .val (.long c1), .second, .val (.long c2), .second, .val (.long c3), .second, .val (.int (4 : Int32)), .val (.ref b129), .val (.int lo), .unset] [(.int (1 : Int32))]))
                  refine own_by (fun tz kz => XS.goto X167.here hx rfl (pc0 := 251) (pc' := 255) rfl (hb hby at_251) (by decide) (by decide) kz) ?_
                  show own_Go p e below s _ _ (T167.setTop (mkF m 255 #[.val (.int pp), .val (.long c0), .second, .val (.long c1), .second, .val (.long c2), .second, .val (.long c3), .second, .val (.int (4 : Int32)), .val (.ref b129), .val (.int lo), .unset] [(.int (1 : Int32))]))
                  refine own_by (fun tz kz => XS.lload X167.here hx rfl (hb hby at_255) rfl kz) ?_
                  show own_Go p e below s _ _ (T167.setTop (mkF m 257 #[.val (.int pp), .val (.long c0), .second, .val (.long c1), .second, .val (.long c2), .second, .val (.long c3), .second, .val (.int (4 : Int32)), .val (.ref b129), .val (.int lo), .unset] [(.long c2), (.int (1 : Int32))]))
                  obtain ⟨_, _, ⟨T169, L169, k169, n169⟩, -, X169, ⟨Lc169, hQ169, l169, y169, z169⟩, st169⟩ := Jvm.LawKit.callS X167 hx (y := (⟨"com/example/liftwise/liftwise/eval/arithmetic/SidesIsExactPinLaw", "upperFine", "(ZJ)Z"⟩ : MethodName)) hown (mvT hZ (hw _ (List.mem_of_getElem? (i := 18) rfl))) (mvT hZ (hw _ (List.mem_of_getElem? (i := 19) rfl))) (mvT hZ (hw _ (List.mem_of_getElem? (i := 16) rfl))) (mvT hZ (hw _ (List.mem_of_getElem? (i := 20) rfl))) (by decide) (backOf (W := 0) (rm_upperFine l Z a0 hw [] (1 : Int32) c2 UF2 T158.heap n0 hUF2) hZ (hw _ (List.mem_of_getElem? (i := 20) rfl)) (hw _ (List.mem_of_getElem? (i := 16) rfl)) (by decide) (by decide)) (g := (mkF m 257 #[.val (.int pp), .val (.long c0), .second, .val (.long c1), .second, .val (.long c2), .second, .val (.long c3), .second, .val (.int (4 : Int32)), .val (.ref b129), .val (.int lo), .unset] [(.long c2), (.int (1 : Int32))])) rfl (by rw [hml]; rfl) (argsL := [(.int (1 : Int32)), (.long c2)]) (rest := []) (lenOf pd_1 rfl) rfl (by show 2 * 0 + _ ≤ _; exact Nat.le_of_eq rfl) (hb hby at_257) (fun _ _ => ⟨rfl, e167, (by decide : ((((((((1 + 2) + 1) + 2) + 1) + 2) + 1) + 2) + 1) + 0 ≤ _), (by decide : ((((((((4 + 8) + 6) + 8) + 6) + 8) + 6) + 8) + 6) + 0 ≤ _)⟩)
                  dsimp only [Pt.U, Pt.locs, Pt.cells, Pt.slots] at X169 l169 y169 z169 st169 hQ169
                  rw [l169, y169, z169] at X169
                  obtain ⟨rfl, Nq169, e169⟩ := hQ169
                  have N169 := Fr.app N167 Nq169
                  refine own_by st169 ?_
                  show own_Go p e below s _ _ (T169.setTop (mkF m 260 #[.val (.int pp), .val (.long c0), .second, .val (.long c1), .second, .val (.long c2), .second, .val (.long c3), .second, .val (.int (4 : Int32)), .val (.ref b129), .val (.int lo), .unset] [(.int UF2)]))
                  by_cases hc260_170 : UF2 = (0 : Int32)
                  · refine own_by (fun tz kz => XS.ifYes X169.here hx rfl (pc0 := 260) (pc' := 286) rfl (hb hby at_260) rfl ((if0 _ _).trans (teq hc260_170).1) (by decide) (by decide) kz) ?_
                    show own_Go p e below s _ _ (T169.setTop (mkF m 286 #[.val (.int pp), .val (.long c0), .second, .val (.long c1), .second, .val (.long c2), .second, .val (.long c3), .second, .val (.int (4 : Int32)), .val (.ref b129), .val (.int lo), .unset] []))
                    refine own_by (fun tz kz => XS.iconst X169.here hx rfl (hb hby at_286) kz) ?_
                    show own_Go p e below s _ _ (T169.setTop (mkF m 287 #[.val (.int pp), .val (.long c0), .second, .val (.long c1), .second, .val (.long c2), .second, .val (.long c3), .second, .val (.int (4 : Int32)), .val (.ref b129), .val (.int lo), .unset] [(.int (0 : Int32))]))
                    refine own_by (fun tz kz => XS.istore X169.here hx rfl (hb hby at_287) rfl (l' := #[.val (.int pp), .val (.long c0), .second, .val (.long c1), .second, .val (.long c2), .second, .val (.long c3), .second, .val (.int (4 : Int32)), .val (.ref b129), .val (.int lo), .val (.int (0 : Int32))]) rfl kz) ?_
                    exact J289 _ _ X169 e169 N169 _ (by simp [own_all, hc223_166, hc241_168, hc260_170])
                  · refine own_by (fun tz kz => XS.ifNo X169.here hx rfl (hb hby at_260) rfl ((if0 _ _).trans (feq hc260_170).1) kz) ?_
                    show own_Go p e below s _ _ (T169.setTop (mkF m 263 #[.val (.int pp), .val (.long c0), .second, .val (.long c1), .second, .val (.long c2), .second, .val (.long c3), .second, .val (.int (4 : Int32)), .val (.ref b129), .val (.int lo), .unset] []))
                    refine own_by (fun tz kz => XS.iload X169.here hx rfl (hb hby at_263) rfl  kz) ?_
                    show own_Go p e below s _ _ (T169.setTop (mkF m 265 #[.val (.int pp), .val (.long c0), .second, .val (.long c1), .second, .val (.long c2), .second, .val (.long c3), .second, .val (.int (4 : Int32)), .val (.ref b129), .val (.int lo), .unset] [(.int (4 : Int32))]))
                    refine own_by (fun tz kz => XS.iconst X169.here hx rfl (hb hby at_265) kz) ?_
                    show own_Go p e below s _ _ (T169.setTop (mkF m 266 #[.val (.int pp), .val (.long c0), .second, .val (.long c1), .second, .val (.long c2), .second, .val (.long c3), .second, .val (.int (4 : Int32)), .val (.ref b129), .val (.int lo), .unset] [(.int (3 : Int32)), (.int (4 : Int32))]))
                    refine own_by (fun tz kz => XS.icmpNo X169.here hx rfl (hb hby at_266) rfl (tlt (by decide : (3 : Int32) < (4 : Int32))).2.2.2 kz) ?_
                    show own_Go p e below s _ _ (T169.setTop (mkF m 269 #[.val (.int pp), .val (.long c0), .second, .val (.long c1), .second, .val (.long c2), .second, .val (.long c3), .second, .val (.int (4 : Int32)), .val (.ref b129), .val (.int lo), .unset] []))
                    refine own_by (fun tz kz => XS.iconst X169.here hx rfl (hb hby at_269) kz) ?_
                    show own_Go p e below s _ _ (T169.setTop (mkF m 270 #[.val (.int pp), .val (.long c0), .second, .val (.long c1), .second, .val (.long c2), .second, .val (.long c3), .second, .val (.int (4 : Int32)), .val (.ref b129), .val (.int lo), .unset] [(.int (1 : Int32))]))
                    refine own_by (fun tz kz => XS.goto X169.here hx rfl (pc0 := 270) (pc' := 274) rfl (hb hby at_270) (by decide) (by decide) kz) ?_
                    show own_Go p e below s _ _ (T169.setTop (mkF m 274 #[.val (.int pp), .val (.long c0), .second, .val (.long c1), .second, .val (.long c2), .second, .val (.long c3), .second, .val (.int (4 : Int32)), .val (.ref b129), .val (.int lo), .unset] [(.int (1 : Int32))]))
                    refine own_by (fun tz kz => XS.lload X169.here hx rfl (hb hby at_274) rfl kz) ?_
                    show own_Go p e below s _ _ (T169.setTop (mkF m 276 #[.val (.int pp), .val (.long c0), .second, .val (.long c1), .second, .val (.long c2), .second, .val (.long c3), .second, .val (.int (4 : Int32)), .val (.ref b129), .val (.int lo), .unset] [(.long c3), (.int (1 : Int32))]))
                    obtain ⟨_, _, ⟨T171, L171, k171, n171⟩, -, X171, ⟨Lc171, hQ171, l171, y171, z171⟩, st171⟩ := Jvm.LawKit.callS X169 hx (y := (⟨"com/example/liftwise/liftwise/eval/arithmetic/SidesIsExactPinLaw", "upperFine", "(ZJ)Z"⟩ : MethodName)) hown (mvT hZ (hw _ (List.mem_of_getElem? (i := 18) rfl))) (mvT hZ (hw _ (List.mem_of_getElem? (i := 19) rfl))) (mvT hZ (hw _ (List.mem_of_getElem? (i := 16) rfl))) (mvT hZ (hw _ (List.mem_of_getElem? (i := 20) rfl))) (by decide) (backOf (W := 0) (rm_upperFine l Z a0 hw [] (1 : Int32) c3 UF3 T158.heap n0 hUF3) hZ (hw _ (List.mem_of_getElem? (i := 20) rfl)) (hw _ (List.mem_of_getElem? (i := 16) rfl)) (by decide) (by decide)) (g := (mkF m 276 #[.val (.int pp), .val (.long c0), .second, .val (.long c1), .second, .val (.long c2), .second, .val (.long c3), .second, .val (.int (4 : Int32)), .val (.ref b129), .val (.int lo), .unset] [(.long c3), (.int (1 : Int32))])) rfl (by rw [hml]; rfl) (argsL := [(.int (1 : Int32)), (.long c3)]) (rest := []) (lenOf pd_1 rfl) rfl (by show 2 * 0 + _ ≤ _; exact Nat.le_of_eq rfl) (hb hby at_276) (fun _ _ => ⟨rfl, e169, (by decide : ((((((((1 + 2) + 1) + 2) + 1) + 2) + 1) + 2) + 1) + 0 ≤ _), (by decide : ((((((((4 + 8) + 6) + 8) + 6) + 8) + 6) + 8) + 6) + 0 ≤ _)⟩)
                    dsimp only [Pt.U, Pt.locs, Pt.cells, Pt.slots] at X171 l171 y171 z171 st171 hQ171
                    rw [l171, y171, z171] at X171
                    obtain ⟨rfl, Nq171, e171⟩ := hQ171
                    have N171 := Fr.app N169 Nq171
                    refine own_by st171 ?_
                    show own_Go p e below s _ _ (T171.setTop (mkF m 279 #[.val (.int pp), .val (.long c0), .second, .val (.long c1), .second, .val (.long c2), .second, .val (.long c3), .second, .val (.int (4 : Int32)), .val (.ref b129), .val (.int lo), .unset] [(.int UF3)]))
                    by_cases hc279_172 : UF3 = (0 : Int32)
                    · refine own_by (fun tz kz => XS.ifYes X171.here hx rfl (pc0 := 279) (pc' := 286) rfl (hb hby at_279) rfl ((if0 _ _).trans (teq hc279_172).1) (by decide) (by decide) kz) ?_
                      show own_Go p e below s _ _ (T171.setTop (mkF m 286 #[.val (.int pp), .val (.long c0), .second, .val (.long c1), .second, .val (.long c2), .second, .val (.long c3), .second, .val (.int (4 : Int32)), .val (.ref b129), .val (.int lo), .unset] []))
                      refine own_by (fun tz kz => XS.iconst X171.here hx rfl (hb hby at_286) kz) ?_
                      show own_Go p e below s _ _ (T171.setTop (mkF m 287 #[.val (.int pp), .val (.long c0), .second, .val (.long c1), .second, .val (.long c2), .second, .val (.long c3), .second, .val (.int (4 : Int32)), .val (.ref b129), .val (.int lo), .unset] [(.int (0 : Int32))]))
                      refine own_by (fun tz kz => XS.istore X171.here hx rfl (hb hby at_287) rfl (l' := #[.val (.int pp), .val (.long c0), .second, .val (.long c1), .second, .val (.long c2), .second, .val (.long c3), .second, .val (.int (4 : Int32)), .val (.ref b129), .val (.int lo), .val (.int (0 : Int32))]) rfl kz) ?_
                      exact J289 _ _ X171 e171 N171 _ (by simp [own_all, hc223_166, hc241_168, hc260_170, hc279_172])
                    · refine own_by (fun tz kz => XS.ifNo X171.here hx rfl (hb hby at_279) rfl ((if0 _ _).trans (feq hc279_172).1) kz) ?_
                      show own_Go p e below s _ _ (T171.setTop (mkF m 282 #[.val (.int pp), .val (.long c0), .second, .val (.long c1), .second, .val (.long c2), .second, .val (.long c3), .second, .val (.int (4 : Int32)), .val (.ref b129), .val (.int lo), .unset] []))
                      refine own_by (fun tz kz => XS.iconst X171.here hx rfl (hb hby at_282) kz) ?_
                      show own_Go p e below s _ _ (T171.setTop (mkF m 283 #[.val (.int pp), .val (.long c0), .second, .val (.long c1), .second, .val (.long c2), .second, .val (.long c3), .second, .val (.int (4 : Int32)), .val (.ref b129), .val (.int lo), .unset] [(.int (1 : Int32))]))
                      refine own_by (fun tz kz => XS.goto X171.here hx rfl (pc0 := 283) (pc' := 287) rfl (hb hby at_283) (by decide) (by decide) kz) ?_
                      show own_Go p e below s _ _ (T171.setTop (mkF m 287 #[.val (.int pp), .val (.long c0), .second, .val (.long c1), .second, .val (.long c2), .second, .val (.long c3), .second, .val (.int (4 : Int32)), .val (.ref b129), .val (.int lo), .unset] [(.int (1 : Int32))]))
                      refine own_by (fun tz kz => XS.istore X171.here hx rfl (hb hby at_287) rfl (l' := #[.val (.int pp), .val (.long c0), .second, .val (.long c1), .second, .val (.long c2), .second, .val (.long c3), .second, .val (.int (4 : Int32)), .val (.ref b129), .val (.int lo), .val (.int (1 : Int32))]) rfl kz) ?_
                      exact J289 _ _ X171 e171 N171 _ (by simp [own_all, hc223_166, hc241_168, hc260_170, hc279_172])
            show own_Go p e below s _ _ (T158.setTop (mkF m 129 #[.val (.int pp), .val (.long c0), .second, .val (.long c1), .second, .val (.long c2), .second, .val (.long c3), .second, .val (.int (4 : Int32)), .val (.ref b129), .unset, .unset] []))
            refine own_by (fun tz kz => XS.iload X158.here hx rfl (hb hby at_129) rfl  kz) ?_
            show own_Go p e below s _ _ (T158.setTop (mkF m 131 #[.val (.int pp), .val (.long c0), .second, .val (.long c1), .second, .val (.long c2), .second, .val (.long c3), .second, .val (.int (4 : Int32)), .val (.ref b129), .unset, .unset] [(.int (4 : Int32))]))
            refine own_by (fun tz kz => XS.ifNo X158.here hx rfl (hb hby at_131) rfl ((if0 _ _).trans (tlt (by decide : (0 : Int32) < (4 : Int32))).2.2.2) kz) ?_
            show own_Go p e below s _ _ (T158.setTop (mkF m 134 #[.val (.int pp), .val (.long c0), .second, .val (.long c1), .second, .val (.long c2), .second, .val (.long c3), .second, .val (.int (4 : Int32)), .val (.ref b129), .unset, .unset] []))
            refine own_by (fun tz kz => XS.iconst X158.here hx rfl (hb hby at_134) kz) ?_
            show own_Go p e below s _ _ (T158.setTop (mkF m 135 #[.val (.int pp), .val (.long c0), .second, .val (.long c1), .second, .val (.long c2), .second, .val (.long c3), .second, .val (.int (4 : Int32)), .val (.ref b129), .unset, .unset] [(.int (1 : Int32))]))
            refine own_by (fun tz kz => XS.goto X158.here hx rfl (pc0 := 135) (pc' := 139) rfl (hb hby at_135) (by decide) (by decide) kz) ?_
            show own_Go p e below s _ _ (T158.setTop (mkF m 139 #[.val (.int pp), .val (.long c0), .second, .val (.long c1), .second, .val (.long c2), .second, .val (.long c3), .second, .val (.int (4 : Int32)), .val (.ref b129), .unset, .unset] [(.int (1 : Int32))]))
            refine own_by (fun tz kz => XS.lloadN X158.here hx rfl (hb hby at_139) rfl kz) ?_
            show own_Go p e below s _ _ (T158.setTop (mkF m 140 #[.val (.int pp), .val (.long c0), .second, .val (.long c1), .second, .val (.long c2), .second, .val (.long c3), .second, .val (.int (4 : Int32)), .val (.ref b129), .unset, .unset] [(.long c0), (.int (1 : Int32))]))
            obtain ⟨_, _, ⟨T173, L173, k173, n173⟩, -, X173, ⟨Lc173, hQ173, l173, y173, z173⟩, st173⟩ := Jvm.LawKit.callS X158 hx (y := (⟨"com/example/liftwise/liftwise/eval/arithmetic/SidesIsExactPinLaw", "lowerFine", "(ZJ)Z"⟩ : MethodName)) hown (mvT hZ (hw _ (List.mem_of_getElem? (i := 14) rfl))) (mvT hZ (hw _ (List.mem_of_getElem? (i := 15) rfl))) (mvT hZ (hw _ (List.mem_of_getElem? (i := 16) rfl))) (mvT hZ (hw _ (List.mem_of_getElem? (i := 17) rfl))) (by decide) (backOf (W := 0) (rm_lowerFine l Z a0 hw [] (1 : Int32) c0 LF0 T158.heap n0 hLF0) hZ (hw _ (List.mem_of_getElem? (i := 17) rfl)) (hw _ (List.mem_of_getElem? (i := 16) rfl)) (by decide) (by decide)) (g := (mkF m 140 #[.val (.int pp), .val (.long c0), .second, .val (.long c1), .second, .val (.long c2), .second, .val (.long c3), .second, .val (.int (4 : Int32)), .val (.ref b129), .unset, .unset] [(.long c0), (.int (1 : Int32))])) rfl (by rw [hml]; rfl) (argsL := [(.int (1 : Int32)), (.long c0)]) (rest := []) (lenOf pd_1 rfl) rfl (by show 2 * 0 + _ ≤ _; exact Nat.le_of_eq rfl) (hb hby at_140) (fun _ _ => ⟨rfl, e158, (by decide : ((((((((1 + 2) + 1) + 2) + 1) + 2) + 1) + 2) + 1) + 0 ≤ _), (by decide : ((((((((4 + 8) + 6) + 8) + 6) + 8) + 6) + 8) + 6) + 0 ≤ _)⟩)
            dsimp only [Pt.U, Pt.locs, Pt.cells, Pt.slots] at X173 l173 y173 z173 st173 hQ173
            rw [l173, y173, z173] at X173
            obtain ⟨rfl, Nq173, e173⟩ := hQ173
            have N173 := Fr.app N158 Nq173
            refine own_by st173 ?_
            show own_Go p e below s _ _ (T173.setTop (mkF m 143 #[.val (.int pp), .val (.long c0), .second, .val (.long c1), .second, .val (.long c2), .second, .val (.long c3), .second, .val (.int (4 : Int32)), .val (.ref b129), .unset, .unset] [(.int LF0)]))
            by_cases hc143_174 : LF0 = (0 : Int32)
            · refine own_by (fun tz kz => XS.ifYes X173.here hx rfl (pc0 := 143) (pc' := 206) rfl (hb hby at_143) rfl ((if0 _ _).trans (teq hc143_174).1) (by decide) (by decide) kz) ?_
              show own_Go p e below s _ _ (T173.setTop (mkF m 206 #[.val (.int pp), .val (.long c0), .second, .val (.long c1), .second, .val (.long c2), .second, .val (.long c3), .second, .val (.int (4 : Int32)), .val (.ref b129), .unset, .unset] []))
              refine own_by (fun tz kz => XS.iconst X173.here hx rfl (hb hby at_206) kz) ?_
              show own_Go p e below s _ _ (T173.setTop (mkF m 207 #[.val (.int pp), .val (.long c0), .second, .val (.long c1), .second, .val (.long c2), .second, .val (.long c3), .second, .val (.int (4 : Int32)), .val (.ref b129), .unset, .unset] [(.int (0 : Int32))]))
              refine own_by (fun tz kz => XS.istore X173.here hx rfl (hb hby at_207) rfl (l' := #[.val (.int pp), .val (.long c0), .second, .val (.long c1), .second, .val (.long c2), .second, .val (.long c3), .second, .val (.int (4 : Int32)), .val (.ref b129), .val (.int (0 : Int32)), .unset]) rfl kz) ?_
              exact J209 _ _ X173 e173 N173 _ (by simp [own_all, hc143_174])
            · refine own_by (fun tz kz => XS.ifNo X173.here hx rfl (hb hby at_143) rfl ((if0 _ _).trans (feq hc143_174).1) kz) ?_
              show own_Go p e below s _ _ (T173.setTop (mkF m 146 #[.val (.int pp), .val (.long c0), .second, .val (.long c1), .second, .val (.long c2), .second, .val (.long c3), .second, .val (.int (4 : Int32)), .val (.ref b129), .unset, .unset] []))
              refine own_by (fun tz kz => XS.iload X173.here hx rfl (hb hby at_146) rfl  kz) ?_
              show own_Go p e below s _ _ (T173.setTop (mkF m 148 #[.val (.int pp), .val (.long c0), .second, .val (.long c1), .second, .val (.long c2), .second, .val (.long c3), .second, .val (.int (4 : Int32)), .val (.ref b129), .unset, .unset] [(.int (4 : Int32))]))
              refine own_by (fun tz kz => XS.iconst X173.here hx rfl (hb hby at_148) kz) ?_
              show own_Go p e below s _ _ (T173.setTop (mkF m 149 #[.val (.int pp), .val (.long c0), .second, .val (.long c1), .second, .val (.long c2), .second, .val (.long c3), .second, .val (.int (4 : Int32)), .val (.ref b129), .unset, .unset] [(.int (1 : Int32)), (.int (4 : Int32))]))
              refine own_by (fun tz kz => XS.icmpNo X173.here hx rfl (hb hby at_149) rfl (tlt (by decide : (1 : Int32) < (4 : Int32))).2.2.2 kz) ?_
              show own_Go p e below s _ _ (T173.setTop (mkF m 152 #[.val (.int pp), .val (.long c0), .second, .val (.long c1), .second, .val (.long c2), .second, .val (.long c3), .second, .val (.int (4 : Int32)), .val (.ref b129), .unset, .unset] []))
              refine own_by (fun tz kz => XS.iconst X173.here hx rfl (hb hby at_152) kz) ?_
              show own_Go p e below s _ _ (T173.setTop (mkF m 153 #[.val (.int pp), .val (.long c0), .second, .val (.long c1), .second, .val (.long c2), .second, .val (.long c3), .second, .val (.int (4 : Int32)), .val (.ref b129), .unset, .unset] [(.int (1 : Int32))]))
              refine own_by (fun tz kz => XS.goto X173.here hx rfl (pc0 := 153) (pc' := 157) rfl (hb hby at_153) (by decide) (by decide) kz) ?_
              show own_Go p e below s _ _ (T173.setTop (mkF m 157 #[.val (.int pp), .val (.long c0), .second, .val (.long c1), .second, .val (.long c2), .second, .val (.long c3), .second, .val (.int (4 : Int32)), .val (.ref b129), .unset, .unset] [(.int (1 : Int32))]))
              refine own_by (fun tz kz => XS.lloadN X173.here hx rfl (hb hby at_157) rfl kz) ?_
              show own_Go p e below s _ _ (T173.setTop (mkF m 158 #[.val (.int pp), .val (.long c0), .second, .val (.long c1), .second, .val (.long c2), .second, .val (.long c3), .second, .val (.int (4 : Int32)), .val (.ref b129), .unset, .unset] [(.long c1), (.int (1 : Int32))]))
              obtain ⟨_, _, ⟨T175, L175, k175, n175⟩, -, X175, ⟨Lc175, hQ175, l175, y175, z175⟩, st175⟩ := Jvm.LawKit.callS X173 hx (y := (⟨"com/example/liftwise/liftwise/eval/arithmetic/SidesIsExactPinLaw", "lowerFine", "(ZJ)Z"⟩ : MethodName)) hown (mvT hZ (hw _ (List.mem_of_getElem? (i := 14) rfl))) (mvT hZ (hw _ (List.mem_of_getElem? (i := 15) rfl))) (mvT hZ (hw _ (List.mem_of_getElem? (i := 16) rfl))) (mvT hZ (hw _ (List.mem_of_getElem? (i := 17) rfl))) (by decide) (backOf (W := 0) (rm_lowerFine l Z a0 hw [] (1 : Int32) c1 LF1 T158.heap n0 hLF1) hZ (hw _ (List.mem_of_getElem? (i := 17) rfl)) (hw _ (List.mem_of_getElem? (i := 16) rfl)) (by decide) (by decide)) (g := (mkF m 158 #[.val (.int pp), .val (.long c0), .second, .val (.long c1), .second, .val (.long c2), .second, .val (.long c3), .second, .val (.int (4 : Int32)), .val (.ref b129), .unset, .unset] [(.long c1), (.int (1 : Int32))])) rfl (by rw [hml]; rfl) (argsL := [(.int (1 : Int32)), (.long c1)]) (rest := []) (lenOf pd_1 rfl) rfl (by show 2 * 0 + _ ≤ _; exact Nat.le_of_eq rfl) (hb hby at_158) (fun _ _ => ⟨rfl, e173, (by decide : ((((((((1 + 2) + 1) + 2) + 1) + 2) + 1) + 2) + 1) + 0 ≤ _), (by decide : ((((((((4 + 8) + 6) + 8) + 6) + 8) + 6) + 8) + 6) + 0 ≤ _)⟩)
              dsimp only [Pt.U, Pt.locs, Pt.cells, Pt.slots] at X175 l175 y175 z175 st175 hQ175
              rw [l175, y175, z175] at X175
              obtain ⟨rfl, Nq175, e175⟩ := hQ175
              have N175 := Fr.app N173 Nq175
              refine own_by st175 ?_
              show own_Go p e below s _ _ (T175.setTop (mkF m 161 #[.val (.int pp), .val (.long c0), .second, .val (.long c1), .second, .val (.long c2), .second, .val (.long c3), .second, .val (.int (4 : Int32)), .val (.ref b129), .unset, .unset] [(.int LF1)]))
              by_cases hc161_176 : LF1 = (0 : Int32)
              · refine own_by (fun tz kz => XS.ifYes X175.here hx rfl (pc0 := 161) (pc' := 206) rfl (hb hby at_161) rfl ((if0 _ _).trans (teq hc161_176).1) (by decide) (by decide) kz) ?_
                show own_Go p e below s _ _ (T175.setTop (mkF m 206 #[.val (.int pp), .val (.long c0), .second, .val (.long c1), .second, .val (.long c2), .second, .val (.long c3), .second, .val (.int (4 : Int32)), .val (.ref b129), .unset, .unset] []))
                refine own_by (fun tz kz => XS.iconst X175.here hx rfl (hb hby at_206) kz) ?_
                show own_Go p e below s _ _ (T175.setTop (mkF m 207 #[.val (.int pp), .val (.long c0), .second, .val (.long c1), .second, .val (.long c2), .second, .val (.long c3), .second, .val (.int (4 : Int32)), .val (.ref b129), .unset, .unset] [(.int (0 : Int32))]))
                refine own_by (fun tz kz => XS.istore X175.here hx rfl (hb hby at_207) rfl (l' := #[.val (.int pp), .val (.long c0), .second, .val (.long c1), .second, .val (.long c2), .second, .val (.long c3), .second, .val (.int (4 : Int32)), .val (.ref b129), .val (.int (0 : Int32)), .unset]) rfl kz) ?_
                exact J209 _ _ X175 e175 N175 _ (by simp [own_all, hc143_174, hc161_176])
              · refine own_by (fun tz kz => XS.ifNo X175.here hx rfl (hb hby at_161) rfl ((if0 _ _).trans (feq hc161_176).1) kz) ?_
                show own_Go p e below s _ _ (T175.setTop (mkF m 164 #[.val (.int pp), .val (.long c0), .second, .val (.long c1), .second, .val (.long c2), .second, .val (.long c3), .second, .val (.int (4 : Int32)), .val (.ref b129), .unset, .unset] []))
                refine own_by (fun tz kz => XS.iload X175.here hx rfl (hb hby at_164) rfl  kz) ?_
                show own_Go p e below s _ _ (T175.setTop (mkF m 166 #[.val (.int pp), .val (.long c0), .second, .val (.long c1), .second, .val (.long c2), .second, .val (.long c3), .second, .val (.int (4 : Int32)), .val (.ref b129), .unset, .unset] [(.int (4 : Int32))]))
                refine own_by (fun tz kz => XS.iconst X175.here hx rfl (hb hby at_166) kz) ?_
                show own_Go p e below s _ _ (T175.setTop (mkF m 167 #[.val (.int pp), .val (.long c0), .second, .val (.long c1), .second, .val (.long c2), .second, .val (.long c3), .second, .val (.int (4 : Int32)), .val (.ref b129), .unset, .unset] [(.int (2 : Int32)), (.int (4 : Int32))]))
                refine own_by (fun tz kz => XS.icmpNo X175.here hx rfl (hb hby at_167) rfl (tlt (by decide : (2 : Int32) < (4 : Int32))).2.2.2 kz) ?_
                show own_Go p e below s _ _ (T175.setTop (mkF m 170 #[.val (.int pp), .val (.long c0), .second, .val (.long c1), .second, .val (.long c2), .second, .val (.long c3), .second, .val (.int (4 : Int32)), .val (.ref b129), .unset, .unset] []))
                refine own_by (fun tz kz => XS.iconst X175.here hx rfl (hb hby at_170) kz) ?_
                show own_Go p e below s _ _ (T175.setTop (mkF m 171 #[.val (.int pp), .val (.long c0), .second, .val (.long c1), .second, .val (.long c2), .second, .val (.long c3), .second, .val (.int (4 : Int32)), .val (.ref b129), .unset, .unset] [(.int (1 : Int32))]))
                refine own_by (fun tz kz => XS.goto X175.here hx rfl (pc0 := 171) (pc' := 175) rfl (hb hby at_171) (by decide) (by decide) kz) ?_
                show own_Go p e below s _ _ (T175.setTop (mkF m 175 #[.val (.int pp), .val (.long c0), .second, .val (.long c1), .second, .val (.long c2), .second, .val (.long c3), .second, .val (.int (4 : Int32)), .val (.ref b129), .unset, .unset] [(.int (1 : Int32))]))
                refine own_by (fun tz kz => XS.lload X175.here hx rfl (hb hby at_175) rfl kz) ?_
                show own_Go p e below s _ _ (T175.setTop (mkF m 177 #[.val (.int pp), .val (.long c0), .second, .val (.long c1), .second, .val (.long c2), .second, .val (.long c3), .second, .val (.int (4 : Int32)), .val (.ref b129), .unset, .unset] [(.long c2), (.int (1 : Int32))]))
                obtain ⟨_, _, ⟨T177, L177, k177, n177⟩, -, X177, ⟨Lc177, hQ177, l177, y177, z177⟩, st177⟩ := Jvm.LawKit.callS X175 hx (y := (⟨"com/example/liftwise/liftwise/eval/arithmetic/SidesIsExactPinLaw", "lowerFine", "(ZJ)Z"⟩ : MethodName)) hown (mvT hZ (hw _ (List.mem_of_getElem? (i := 14) rfl))) (mvT hZ (hw _ (List.mem_of_getElem? (i := 15) rfl))) (mvT hZ (hw _ (List.mem_of_getElem? (i := 16) rfl))) (mvT hZ (hw _ (List.mem_of_getElem? (i := 17) rfl))) (by decide) (backOf (W := 0) (rm_lowerFine l Z a0 hw [] (1 : Int32) c2 LF2 T158.heap n0 hLF2) hZ (hw _ (List.mem_of_getElem? (i := 17) rfl)) (hw _ (List.mem_of_getElem? (i := 16) rfl)) (by decide) (by decide)) (g := (mkF m 177 #[.val (.int pp), .val (.long c0), .second, .val (.long c1), .second, .val (.long c2), .second, .val (.long c3), .second, .val (.int (4 : Int32)), .val (.ref b129), .unset, .unset] [(.long c2), (.int (1 : Int32))])) rfl (by rw [hml]; rfl) (argsL := [(.int (1 : Int32)), (.long c2)]) (rest := []) (lenOf pd_1 rfl) rfl (by show 2 * 0 + _ ≤ _; exact Nat.le_of_eq rfl) (hb hby at_177) (fun _ _ => ⟨rfl, e175, (by decide : ((((((((1 + 2) + 1) + 2) + 1) + 2) + 1) + 2) + 1) + 0 ≤ _), (by decide : ((((((((4 + 8) + 6) + 8) + 6) + 8) + 6) + 8) + 6) + 0 ≤ _)⟩)
                dsimp only [Pt.U, Pt.locs, Pt.cells, Pt.slots] at X177 l177 y177 z177 st177 hQ177
                rw [l177, y177, z177] at X177
                obtain ⟨rfl, Nq177, e177⟩ := hQ177
                have N177 := Fr.app N175 Nq177
                refine own_by st177 ?_
                show own_Go p e below s _ _ (T177.setTop (mkF m 180 #[.val (.int pp), .val (.long c0), .second, .val (.long c1), .second, .val (.long c2), .second, .val (.long c3), .second, .val (.int (4 : Int32)), .val (.ref b129), .unset, .unset] [(.int LF2)]))
                by_cases hc180_178 : LF2 = (0 : Int32)
                · refine own_by (fun tz kz => XS.ifYes X177.here hx rfl (pc0 := 180) (pc' := 206) rfl (hb hby at_180) rfl ((if0 _ _).trans (teq hc180_178).1) (by decide) (by decide) kz) ?_
                  show own_Go p e below s _ _ (T177.setTop (mkF m 206 #[.val (.int pp), .val (.long c0), .second, .val (.long c1), .second, .val (.long c2), .second, .val (.long c3), .second, .val (.int (4 : Int32)), .val (.ref b129), .unset, .unset] []))
                  refine own_by (fun tz kz => XS.iconst X177.here hx rfl (hb hby at_206) kz) ?_
                  show own_Go p e below s _ _ (T177.setTop (mkF m 207 #[.val (.int pp), .val (.long c0), .second, .val (.long c1), .second, .val (.long c2), .second, .val (.long c3), .second, .val (.int (4 : Int32)), .val (.ref b129), .unset, .unset] [(.int (0 : Int32))]))
                  refine own_by (fun tz kz => XS.istore X177.here hx rfl (hb hby at_207) rfl (l' := #[.val (.int pp), .val (.long c0), .second, .val (.long c1), .second, .val (.long c2), .second, .val (.long c3), .second, .val (.int (4 : Int32)), .val (.ref b129), .val (.int (0 : Int32)), .unset]) rfl kz) ?_
                  exact J209 _ _ X177 e177 N177 _ (by simp [own_all, hc143_174, hc161_176, hc180_178])
                · refine own_by (fun tz kz => XS.ifNo X177.here hx rfl (hb hby at_180) rfl ((if0 _ _).trans (feq hc180_178).1) kz) ?_
                  show own_Go p e below s _ _ (T177.setTop (mkF m 183 #[.val (.int pp), .val (.long c0), .second, .val (.long c1), .second, .val (.long c2), .second, .val (.long c3), .second, .val (.int (4 : Int32)), .val (.ref b129), .unset, .unset] []))
                  refine own_by (fun tz kz => XS.iload X177.here hx rfl (hb hby at_183) rfl  kz) ?_
                  show own_Go p e below s _ _ (T177.setTop (mkF m 185 #[.val (.int pp), .val (.long c0), .second, .val (.long c1), .second, .val (.long c2), .second, .val (.long c3), .second, .val (.int (4 : Int32)), .val (.ref b129), .unset, .unset] [(.int (4 : Int32))]))
                  refine own_by (fun tz kz => XS.iconst X177.here hx rfl (hb hby at_185) kz) ?_
                  show own_Go p e below s _ _ (T177.setTop (mkF m 186 #[.val (.int pp), .val (.long c0), .second, .val (.long c1), .second, .val (.long c2), .second, .val (.long c3), .second, .val (.int (4 : Int32)), .val (.ref b129), .unset, .unset] [(.int (3 : Int32)), (.int (4 : Int32))]))
                  refine own_by (fun tz kz => XS.icmpNo X177.here hx rfl (hb hby at_186) rfl (tlt (by decide : (3 : Int32) < (4 : Int32))).2.2.2 kz) ?_
                  show own_Go p e below s _ _ (T177.setTop (mkF m 189 #[.val (.int pp), .val (.long c0), .second, .val (.long c1), .second, .val (.long c2), .second, .val (.long c3), .second, .val (.int (4 : Int32)), .val (.ref b129), .unset, .unset] []))
                  refine own_by (fun tz kz => XS.iconst X177.here hx rfl (hb hby at_189) kz) ?_
                  show own_Go p e below s _ _ (T177.setTop (mkF m 190 #[.val (.int pp), .val (.long c0), .second, .val (.long c1), .second, .val (.long c2), .second, .val (.long c3), .second, .val (.int (4 : Int32)), .val (.ref b129), .unset, .unset] [(.int (1 : Int32))]))
                  refine own_by (fun tz kz => XS.goto X177.here hx rfl (pc0 := 190) (pc' := 194) rfl (hb hby at_190) (by decide) (by decide) kz) ?_
                  show own_Go p e below s _ _ (T177.setTop (mkF m 194 #[.val (.int pp), .val (.long c0), .second, .val (.long c1), .second, .val (.long c2), .second, .val (.long c3), .second, .val (.int (4 : Int32)), .val (.ref b129), .unset, .unset] [(.int (1 : Int32))]))
                  refine own_by (fun tz kz => XS.lload X177.here hx rfl (hb hby at_194) rfl kz) ?_
                  show own_Go p e below s _ _ (T177.setTop (mkF m 196 #[.val (.int pp), .val (.long c0), .second, .val (.long c1), .second, .val (.long c2), .second, .val (.long c3), .second, .val (.int (4 : Int32)), .val (.ref b129), .unset, .unset] [(.long c3), (.int (1 : Int32))]))
                  obtain ⟨_, _, ⟨T179, L179, k179, n179⟩, -, X179, ⟨Lc179, hQ179, l179, y179, z179⟩, st179⟩ := Jvm.LawKit.callS X177 hx (y := (⟨"com/example/liftwise/liftwise/eval/arithmetic/SidesIsExactPinLaw", "lowerFine", "(ZJ)Z"⟩ : MethodName)) hown (mvT hZ (hw _ (List.mem_of_getElem? (i := 14) rfl))) (mvT hZ (hw _ (List.mem_of_getElem? (i := 15) rfl))) (mvT hZ (hw _ (List.mem_of_getElem? (i := 16) rfl))) (mvT hZ (hw _ (List.mem_of_getElem? (i := 17) rfl))) (by decide) (backOf (W := 0) (rm_lowerFine l Z a0 hw [] (1 : Int32) c3 LF3 T158.heap n0 hLF3) hZ (hw _ (List.mem_of_getElem? (i := 17) rfl)) (hw _ (List.mem_of_getElem? (i := 16) rfl)) (by decide) (by decide)) (g := (mkF m 196 #[.val (.int pp), .val (.long c0), .second, .val (.long c1), .second, .val (.long c2), .second, .val (.long c3), .second, .val (.int (4 : Int32)), .val (.ref b129), .unset, .unset] [(.long c3), (.int (1 : Int32))])) rfl (by rw [hml]; rfl) (argsL := [(.int (1 : Int32)), (.long c3)]) (rest := []) (lenOf pd_1 rfl) rfl (by show 2 * 0 + _ ≤ _; exact Nat.le_of_eq rfl) (hb hby at_196) (fun _ _ => ⟨rfl, e177, (by decide : ((((((((1 + 2) + 1) + 2) + 1) + 2) + 1) + 2) + 1) + 0 ≤ _), (by decide : ((((((((4 + 8) + 6) + 8) + 6) + 8) + 6) + 8) + 6) + 0 ≤ _)⟩)
                  dsimp only [Pt.U, Pt.locs, Pt.cells, Pt.slots] at X179 l179 y179 z179 st179 hQ179
                  rw [l179, y179, z179] at X179
                  obtain ⟨rfl, Nq179, e179⟩ := hQ179
                  have N179 := Fr.app N177 Nq179
                  refine own_by st179 ?_
                  show own_Go p e below s _ _ (T179.setTop (mkF m 199 #[.val (.int pp), .val (.long c0), .second, .val (.long c1), .second, .val (.long c2), .second, .val (.long c3), .second, .val (.int (4 : Int32)), .val (.ref b129), .unset, .unset] [(.int LF3)]))
                  by_cases hc199_180 : LF3 = (0 : Int32)
                  · refine own_by (fun tz kz => XS.ifYes X179.here hx rfl (pc0 := 199) (pc' := 206) rfl (hb hby at_199) rfl ((if0 _ _).trans (teq hc199_180).1) (by decide) (by decide) kz) ?_
                    show own_Go p e below s _ _ (T179.setTop (mkF m 206 #[.val (.int pp), .val (.long c0), .second, .val (.long c1), .second, .val (.long c2), .second, .val (.long c3), .second, .val (.int (4 : Int32)), .val (.ref b129), .unset, .unset] []))
                    refine own_by (fun tz kz => XS.iconst X179.here hx rfl (hb hby at_206) kz) ?_
                    show own_Go p e below s _ _ (T179.setTop (mkF m 207 #[.val (.int pp), .val (.long c0), .second, .val (.long c1), .second, .val (.long c2), .second, .val (.long c3), .second, .val (.int (4 : Int32)), .val (.ref b129), .unset, .unset] [(.int (0 : Int32))]))
                    refine own_by (fun tz kz => XS.istore X179.here hx rfl (hb hby at_207) rfl (l' := #[.val (.int pp), .val (.long c0), .second, .val (.long c1), .second, .val (.long c2), .second, .val (.long c3), .second, .val (.int (4 : Int32)), .val (.ref b129), .val (.int (0 : Int32)), .unset]) rfl kz) ?_
                    exact J209 _ _ X179 e179 N179 _ (by simp [own_all, hc143_174, hc161_176, hc180_178, hc199_180])
                  · refine own_by (fun tz kz => XS.ifNo X179.here hx rfl (hb hby at_199) rfl ((if0 _ _).trans (feq hc199_180).1) kz) ?_
                    show own_Go p e below s _ _ (T179.setTop (mkF m 202 #[.val (.int pp), .val (.long c0), .second, .val (.long c1), .second, .val (.long c2), .second, .val (.long c3), .second, .val (.int (4 : Int32)), .val (.ref b129), .unset, .unset] []))
                    refine own_by (fun tz kz => XS.iconst X179.here hx rfl (hb hby at_202) kz) ?_
                    show own_Go p e below s _ _ (T179.setTop (mkF m 203 #[.val (.int pp), .val (.long c0), .second, .val (.long c1), .second, .val (.long c2), .second, .val (.long c3), .second, .val (.int (4 : Int32)), .val (.ref b129), .unset, .unset] [(.int (1 : Int32))]))
                    refine own_by (fun tz kz => XS.goto X179.here hx rfl (pc0 := 203) (pc' := 207) rfl (hb hby at_203) (by decide) (by decide) kz) ?_
                    show own_Go p e below s _ _ (T179.setTop (mkF m 207 #[.val (.int pp), .val (.long c0), .second, .val (.long c1), .second, .val (.long c2), .second, .val (.long c3), .second, .val (.int (4 : Int32)), .val (.ref b129), .unset, .unset] [(.int (1 : Int32))]))
                    refine own_by (fun tz kz => XS.istore X179.here hx rfl (hb hby at_207) rfl (l' := #[.val (.int pp), .val (.long c0), .second, .val (.long c1), .second, .val (.long c2), .second, .val (.long c3), .second, .val (.int (4 : Int32)), .val (.ref b129), .val (.int (1 : Int32)), .unset]) rfl kz) ?_
                    exact J209 _ _ X179 e179 N179 _ (by simp [own_all, hc143_174, hc161_176, hc180_178, hc199_180])
set_option maxRecDepth 65536 in
set_option maxHeartbeats 40000000 in
theorem comes_1 {Post : Tables → Env → Array Value → State → Outcome → State → Prop} (hpost : ∀ tb e args s v u, (limb_1_1.after args s (.returned v) u = true ∧ limb_1_2.after args s (.returned v) u = true ∧ True) → FrameEnd s (.returned v) u (Jvm.fieldLocs frame_1_writes args s ++ Jvm.arrayLocs frame_1_arrays args s ++ Jvm.staticLocs frame_1_statics s) 40 192 → Post tb e args s (.returned v) u) :
    ArmFor flags0 classFile x code maxLocals ret World_1 tables_1 room_1 Calls_1 rest_1 Pre_1 Post := by
  intro l hfl _ _ p e ha hc hk s m args below hf hA hF happ hP
  obtain ⟨hcalls, hrest, hpre⟩ := hP
  obtain ⟨-, -, -, hnamed, -, -, -, hat⟩ := (Spec.applies_iff hf).mp happ
  obtain ⟨hg, hn⟩ := and_e (Cond.before_iff.mp (show (Jvm.Cond.and given_1 narrow_1).before args s = true from hpre))
  obtain ⟨g1a, g1b⟩ := and_e hg
  obtain ⟨g2a, g2b⟩ := and_e g1b
  obtain ⟨g3a, g3b⟩ := and_e g2b
  obtain ⟨g4a, g4b⟩ := and_e g3b
  obtain ⟨g5a, g5b⟩ := and_e g4b
  obtain ⟨w0, w1, w2, w3, w4, rfl⟩ : ∃ w0 w1 w2 w3 w4 : Value, args = #[w0, w1, w2, w3, w4] := by
    have hs : args.size = 5 := by simpa [Cond.value, given_1] using g1a
    obtain ⟨L⟩ := args
    match L, hs with
    | [w0, w1, w2, w3, w4], _ => exact ⟨w0, w1, w2, w3, w4, rfl⟩
  have hw := fun d (hd : d ∈ tables_1) => atoms_spec (ws := Jvm.Cond.code x code maxLocals ret :: tables_1) hat d (List.mem_cons_of_mem _ hd)
  have hfit : Fit s := fun {y c} hc i hi => by
    obtain ⟨ha, rfl⟩ := Array.getElem?_eq_some_iff.mp hc
    have q := List.all_eq_true.mp ((Array.all_eq_true_iff_forall_mem.mp hF) _ (Array.getElem_mem ha)) i (List.mem_range.mpr hi)
    simpa [Array.getElem?_eq_getElem hi] using q
  obtain ⟨i0, ei0⟩ := is_v g2a
  obtain rfl : w0 = (.int i0) := Option.some.inj ei0
  obtain ⟨i1, ei1⟩ := isL_v g3a
  obtain rfl : w1 = (.long i1) := Option.some.inj ei1
  obtain ⟨i2, ei2⟩ := isL_v g4a
  obtain rfl : w2 = (.long i2) := Option.some.inj ei2
  obtain ⟨i3, ei3⟩ := isL_v g5a
  obtain rfl : w3 = (.long i3) := Option.some.inj ei3
  obtain ⟨i4, ei4⟩ := isL_v g5b
  obtain rfl : w4 = (.long i4) := Option.some.inj ei4
  obtain ⟨hsets, hown0⟩ := atoms_of _ (show (jdkStatics_1.foldr Jvm.Cond.and restOwn_1).before _ s = true from (show rest_1_c.before _ s = true from hrest))
  have h_posConst := (Cond.before_iff.mp (hsets _ (List.mem_of_getElem? (i := 16) rfl)))
  obtain ⟨a_posConst, ev_posConst⟩ := arr_v h_posConst
  have S_posConst : Sta s s.heap "java/math/BigInteger" "posConst" "[Ljava/math/BigInteger;" (.ref a_posConst) := Sta.start ev_posConst (Or.inl (hsets _ (List.mem_of_getElem? (i := 9) rfl)))
  obtain ⟨c_posConst, A_posConst⟩ := Arr.start ev_posConst h_posConst
  have hl_posConst := eqv_i (Term.int_eval (17)) (Cond.before_iff.mp (hsets _ (List.mem_of_getElem? (i := 18) rfl)))
  obtain ⟨_, _, le1, le2, le3⟩ := Term.length_spec hl_posConst
  cases ev_posConst.symm.trans le1
  cases (State.arrayAt?_spec le2).1.symm.trans A_posConst.1
  have sz_posConst : c_posConst.slots.size = (17 : Int32).toNatClampNeg := by
    have q := own_len31 hl_posConst ev_posConst A_posConst.1
    have z : c_posConst.slots.size.toInt32 = (17 : Int32) := (Value.int.inj le3).symm
    rw [← z]; simp only [Int32.toNatClampNeg, len_toInt q]; rfl
  obtain ⟨o_posConst_1, ev_posConst_1⟩ := exa_v (Cond.before_iff.mp (hsets _ (List.mem_of_getElem? (i := 20) rfl)))
  have E_posConst_1 : Exa s s.heap o_posConst_1 "java/math/BigInteger" := Exa.start ev_posConst_1 (Cond.before_iff.mp (hsets _ (List.mem_of_getElem? (i := 20) rfl)))
  have F_posConst_1 : Fld s s.heap o_posConst_1 "java/math/BigInteger" "signum" "I" (.int (1 : Int32)) := Fld.start ((fld_at ev_posConst_1).symm.trans (eqv_i (Term.int_eval (1)) (Cond.before_iff.mp (hsets _ (List.mem_of_getElem? (i := 21) rfl)))))
  have hm_posConst_1 := (Cond.before_iff.mp (hsets _ (List.mem_of_getElem? (i := 22) rfl)))
  obtain ⟨m_posConst_1, em_posConst_1⟩ := arr_v hm_posConst_1
  have G_posConst_1 : Fld s s.heap o_posConst_1 "java/math/BigInteger" "mag" "[I" (.ref m_posConst_1) := Fld.start ((fld_at ev_posConst_1).symm.trans em_posConst_1)
  obtain ⟨cm_posConst_1, Am_posConst_1⟩ := Arr.start em_posConst_1 hm_posConst_1
  have lm_posConst_1 := eqv_i (Term.int_eval (1)) (Cond.before_iff.mp (hsets _ (List.mem_of_getElem? (i := 24) rfl)))
  obtain ⟨_, _, le1, le2, le3⟩ := Term.length_spec lm_posConst_1
  cases em_posConst_1.symm.trans le1
  cases (State.arrayAt?_spec le2).1.symm.trans Am_posConst_1.1
  have V_posConst_1 : Arv s s.heap m_posConst_1 cm_posConst_1.cls .int (1 : Int32) [.int (1 : Int32)] (.int (0 : Int32)) := Arv.start hfit Am_posConst_1 (own_len31 lm_posConst_1 em_posConst_1 Am_posConst_1.1) (Value.int.inj le3).symm (by decide) rfl ⟨(elem_in (eqv_i (Term.int_eval (1)) (Cond.before_iff.mp (hsets _ (List.mem_of_getElem? (i := 25) rfl)))) em_posConst_1 (Term.int_eval (0)) Am_posConst_1.1).2, trivial⟩
  have B_posConst_1 : own_Big s s.heap o_posConst_1 (1 : Int32) (if (1 : Int32) = (1 : Int32) then (1 : Int32) else (0 : Int32)) := ⟨m_posConst_1, cm_posConst_1.cls, _, _, E_posConst_1, F_posConst_1, G_posConst_1, V_posConst_1, Or.inl ⟨rfl, _, rfl, rfl⟩⟩
  have el_posConst_1 := (elem_in ev_posConst_1 ev_posConst (Term.int_eval (1)) A_posConst.1).2
  obtain ⟨o_posConst_2, ev_posConst_2⟩ := exa_v (Cond.before_iff.mp (hsets _ (List.mem_of_getElem? (i := 27) rfl)))
  have E_posConst_2 : Exa s s.heap o_posConst_2 "java/math/BigInteger" := Exa.start ev_posConst_2 (Cond.before_iff.mp (hsets _ (List.mem_of_getElem? (i := 27) rfl)))
  have F_posConst_2 : Fld s s.heap o_posConst_2 "java/math/BigInteger" "signum" "I" (.int (1 : Int32)) := Fld.start ((fld_at ev_posConst_2).symm.trans (eqv_i (Term.int_eval (1)) (Cond.before_iff.mp (hsets _ (List.mem_of_getElem? (i := 28) rfl)))))
  have hm_posConst_2 := (Cond.before_iff.mp (hsets _ (List.mem_of_getElem? (i := 29) rfl)))
  obtain ⟨m_posConst_2, em_posConst_2⟩ := arr_v hm_posConst_2
  have G_posConst_2 : Fld s s.heap o_posConst_2 "java/math/BigInteger" "mag" "[I" (.ref m_posConst_2) := Fld.start ((fld_at ev_posConst_2).symm.trans em_posConst_2)
  obtain ⟨cm_posConst_2, Am_posConst_2⟩ := Arr.start em_posConst_2 hm_posConst_2
  have lm_posConst_2 := eqv_i (Term.int_eval (1)) (Cond.before_iff.mp (hsets _ (List.mem_of_getElem? (i := 31) rfl)))
  obtain ⟨_, _, le1, le2, le3⟩ := Term.length_spec lm_posConst_2
  cases em_posConst_2.symm.trans le1
  cases (State.arrayAt?_spec le2).1.symm.trans Am_posConst_2.1
  have V_posConst_2 : Arv s s.heap m_posConst_2 cm_posConst_2.cls .int (1 : Int32) [.int (2 : Int32)] (.int (0 : Int32)) := Arv.start hfit Am_posConst_2 (own_len31 lm_posConst_2 em_posConst_2 Am_posConst_2.1) (Value.int.inj le3).symm (by decide) rfl ⟨(elem_in (eqv_i (Term.int_eval (2)) (Cond.before_iff.mp (hsets _ (List.mem_of_getElem? (i := 32) rfl)))) em_posConst_2 (Term.int_eval (0)) Am_posConst_2.1).2, trivial⟩
  have B_posConst_2 : own_Big s s.heap o_posConst_2 (1 : Int32) (if (2 : Int32) = (1 : Int32) then (1 : Int32) else (0 : Int32)) := ⟨m_posConst_2, cm_posConst_2.cls, _, _, E_posConst_2, F_posConst_2, G_posConst_2, V_posConst_2, Or.inl ⟨rfl, _, rfl, rfl⟩⟩
  have el_posConst_2 := (elem_in ev_posConst_2 ev_posConst (Term.int_eval (2)) A_posConst.1).2
  obtain ⟨o_posConst_3, ev_posConst_3⟩ := exa_v (Cond.before_iff.mp (hsets _ (List.mem_of_getElem? (i := 33) rfl)))
  have E_posConst_3 : Exa s s.heap o_posConst_3 "java/math/BigInteger" := Exa.start ev_posConst_3 (Cond.before_iff.mp (hsets _ (List.mem_of_getElem? (i := 33) rfl)))
  have F_posConst_3 : Fld s s.heap o_posConst_3 "java/math/BigInteger" "signum" "I" (.int (1 : Int32)) := Fld.start ((fld_at ev_posConst_3).symm.trans (eqv_i (Term.int_eval (1)) (Cond.before_iff.mp (hsets _ (List.mem_of_getElem? (i := 34) rfl)))))
  have hm_posConst_3 := (Cond.before_iff.mp (hsets _ (List.mem_of_getElem? (i := 35) rfl)))
  obtain ⟨m_posConst_3, em_posConst_3⟩ := arr_v hm_posConst_3
  have G_posConst_3 : Fld s s.heap o_posConst_3 "java/math/BigInteger" "mag" "[I" (.ref m_posConst_3) := Fld.start ((fld_at ev_posConst_3).symm.trans em_posConst_3)
  obtain ⟨cm_posConst_3, Am_posConst_3⟩ := Arr.start em_posConst_3 hm_posConst_3
  have lm_posConst_3 := eqv_i (Term.int_eval (1)) (Cond.before_iff.mp (hsets _ (List.mem_of_getElem? (i := 37) rfl)))
  obtain ⟨_, _, le1, le2, le3⟩ := Term.length_spec lm_posConst_3
  cases em_posConst_3.symm.trans le1
  cases (State.arrayAt?_spec le2).1.symm.trans Am_posConst_3.1
  have V_posConst_3 : Arv s s.heap m_posConst_3 cm_posConst_3.cls .int (1 : Int32) [.int (3 : Int32)] (.int (0 : Int32)) := Arv.start hfit Am_posConst_3 (own_len31 lm_posConst_3 em_posConst_3 Am_posConst_3.1) (Value.int.inj le3).symm (by decide) rfl ⟨(elem_in (eqv_i (Term.int_eval (3)) (Cond.before_iff.mp (hsets _ (List.mem_of_getElem? (i := 38) rfl)))) em_posConst_3 (Term.int_eval (0)) Am_posConst_3.1).2, trivial⟩
  have B_posConst_3 : own_Big s s.heap o_posConst_3 (1 : Int32) (if (3 : Int32) = (1 : Int32) then (1 : Int32) else (0 : Int32)) := ⟨m_posConst_3, cm_posConst_3.cls, _, _, E_posConst_3, F_posConst_3, G_posConst_3, V_posConst_3, Or.inl ⟨rfl, _, rfl, rfl⟩⟩
  have el_posConst_3 := (elem_in ev_posConst_3 ev_posConst (Term.int_eval (3)) A_posConst.1).2
  obtain ⟨o_posConst_4, ev_posConst_4⟩ := exa_v (Cond.before_iff.mp (hsets _ (List.mem_of_getElem? (i := 39) rfl)))
  have E_posConst_4 : Exa s s.heap o_posConst_4 "java/math/BigInteger" := Exa.start ev_posConst_4 (Cond.before_iff.mp (hsets _ (List.mem_of_getElem? (i := 39) rfl)))
  have F_posConst_4 : Fld s s.heap o_posConst_4 "java/math/BigInteger" "signum" "I" (.int (1 : Int32)) := Fld.start ((fld_at ev_posConst_4).symm.trans (eqv_i (Term.int_eval (1)) (Cond.before_iff.mp (hsets _ (List.mem_of_getElem? (i := 40) rfl)))))
  have hm_posConst_4 := (Cond.before_iff.mp (hsets _ (List.mem_of_getElem? (i := 41) rfl)))
  obtain ⟨m_posConst_4, em_posConst_4⟩ := arr_v hm_posConst_4
  have G_posConst_4 : Fld s s.heap o_posConst_4 "java/math/BigInteger" "mag" "[I" (.ref m_posConst_4) := Fld.start ((fld_at ev_posConst_4).symm.trans em_posConst_4)
  obtain ⟨cm_posConst_4, Am_posConst_4⟩ := Arr.start em_posConst_4 hm_posConst_4
  have lm_posConst_4 := eqv_i (Term.int_eval (1)) (Cond.before_iff.mp (hsets _ (List.mem_of_getElem? (i := 43) rfl)))
  obtain ⟨_, _, le1, le2, le3⟩ := Term.length_spec lm_posConst_4
  cases em_posConst_4.symm.trans le1
  cases (State.arrayAt?_spec le2).1.symm.trans Am_posConst_4.1
  have V_posConst_4 : Arv s s.heap m_posConst_4 cm_posConst_4.cls .int (1 : Int32) [.int (4 : Int32)] (.int (0 : Int32)) := Arv.start hfit Am_posConst_4 (own_len31 lm_posConst_4 em_posConst_4 Am_posConst_4.1) (Value.int.inj le3).symm (by decide) rfl ⟨(elem_in (eqv_i (Term.int_eval (4)) (Cond.before_iff.mp (hsets _ (List.mem_of_getElem? (i := 44) rfl)))) em_posConst_4 (Term.int_eval (0)) Am_posConst_4.1).2, trivial⟩
  have B_posConst_4 : own_Big s s.heap o_posConst_4 (1 : Int32) (if (4 : Int32) = (1 : Int32) then (1 : Int32) else (0 : Int32)) := ⟨m_posConst_4, cm_posConst_4.cls, _, _, E_posConst_4, F_posConst_4, G_posConst_4, V_posConst_4, Or.inl ⟨rfl, _, rfl, rfl⟩⟩
  have el_posConst_4 := (elem_in ev_posConst_4 ev_posConst (Term.int_eval (4)) A_posConst.1).2
  obtain ⟨o_posConst_5, ev_posConst_5⟩ := exa_v (Cond.before_iff.mp (hsets _ (List.mem_of_getElem? (i := 45) rfl)))
  have E_posConst_5 : Exa s s.heap o_posConst_5 "java/math/BigInteger" := Exa.start ev_posConst_5 (Cond.before_iff.mp (hsets _ (List.mem_of_getElem? (i := 45) rfl)))
  have F_posConst_5 : Fld s s.heap o_posConst_5 "java/math/BigInteger" "signum" "I" (.int (1 : Int32)) := Fld.start ((fld_at ev_posConst_5).symm.trans (eqv_i (Term.int_eval (1)) (Cond.before_iff.mp (hsets _ (List.mem_of_getElem? (i := 46) rfl)))))
  have hm_posConst_5 := (Cond.before_iff.mp (hsets _ (List.mem_of_getElem? (i := 47) rfl)))
  obtain ⟨m_posConst_5, em_posConst_5⟩ := arr_v hm_posConst_5
  have G_posConst_5 : Fld s s.heap o_posConst_5 "java/math/BigInteger" "mag" "[I" (.ref m_posConst_5) := Fld.start ((fld_at ev_posConst_5).symm.trans em_posConst_5)
  obtain ⟨cm_posConst_5, Am_posConst_5⟩ := Arr.start em_posConst_5 hm_posConst_5
  have lm_posConst_5 := eqv_i (Term.int_eval (1)) (Cond.before_iff.mp (hsets _ (List.mem_of_getElem? (i := 49) rfl)))
  obtain ⟨_, _, le1, le2, le3⟩ := Term.length_spec lm_posConst_5
  cases em_posConst_5.symm.trans le1
  cases (State.arrayAt?_spec le2).1.symm.trans Am_posConst_5.1
  have V_posConst_5 : Arv s s.heap m_posConst_5 cm_posConst_5.cls .int (1 : Int32) [.int (5 : Int32)] (.int (0 : Int32)) := Arv.start hfit Am_posConst_5 (own_len31 lm_posConst_5 em_posConst_5 Am_posConst_5.1) (Value.int.inj le3).symm (by decide) rfl ⟨(elem_in (eqv_i (Term.int_eval (5)) (Cond.before_iff.mp (hsets _ (List.mem_of_getElem? (i := 50) rfl)))) em_posConst_5 (Term.int_eval (0)) Am_posConst_5.1).2, trivial⟩
  have B_posConst_5 : own_Big s s.heap o_posConst_5 (1 : Int32) (if (5 : Int32) = (1 : Int32) then (1 : Int32) else (0 : Int32)) := ⟨m_posConst_5, cm_posConst_5.cls, _, _, E_posConst_5, F_posConst_5, G_posConst_5, V_posConst_5, Or.inl ⟨rfl, _, rfl, rfl⟩⟩
  have el_posConst_5 := (elem_in ev_posConst_5 ev_posConst (Term.int_eval (5)) A_posConst.1).2
  obtain ⟨o_posConst_6, ev_posConst_6⟩ := exa_v (Cond.before_iff.mp (hsets _ (List.mem_of_getElem? (i := 51) rfl)))
  have E_posConst_6 : Exa s s.heap o_posConst_6 "java/math/BigInteger" := Exa.start ev_posConst_6 (Cond.before_iff.mp (hsets _ (List.mem_of_getElem? (i := 51) rfl)))
  have F_posConst_6 : Fld s s.heap o_posConst_6 "java/math/BigInteger" "signum" "I" (.int (1 : Int32)) := Fld.start ((fld_at ev_posConst_6).symm.trans (eqv_i (Term.int_eval (1)) (Cond.before_iff.mp (hsets _ (List.mem_of_getElem? (i := 52) rfl)))))
  have hm_posConst_6 := (Cond.before_iff.mp (hsets _ (List.mem_of_getElem? (i := 53) rfl)))
  obtain ⟨m_posConst_6, em_posConst_6⟩ := arr_v hm_posConst_6
  have G_posConst_6 : Fld s s.heap o_posConst_6 "java/math/BigInteger" "mag" "[I" (.ref m_posConst_6) := Fld.start ((fld_at ev_posConst_6).symm.trans em_posConst_6)
  obtain ⟨cm_posConst_6, Am_posConst_6⟩ := Arr.start em_posConst_6 hm_posConst_6
  have lm_posConst_6 := eqv_i (Term.int_eval (1)) (Cond.before_iff.mp (hsets _ (List.mem_of_getElem? (i := 55) rfl)))
  obtain ⟨_, _, le1, le2, le3⟩ := Term.length_spec lm_posConst_6
  cases em_posConst_6.symm.trans le1
  cases (State.arrayAt?_spec le2).1.symm.trans Am_posConst_6.1
  have V_posConst_6 : Arv s s.heap m_posConst_6 cm_posConst_6.cls .int (1 : Int32) [.int (6 : Int32)] (.int (0 : Int32)) := Arv.start hfit Am_posConst_6 (own_len31 lm_posConst_6 em_posConst_6 Am_posConst_6.1) (Value.int.inj le3).symm (by decide) rfl ⟨(elem_in (eqv_i (Term.int_eval (6)) (Cond.before_iff.mp (hsets _ (List.mem_of_getElem? (i := 56) rfl)))) em_posConst_6 (Term.int_eval (0)) Am_posConst_6.1).2, trivial⟩
  have B_posConst_6 : own_Big s s.heap o_posConst_6 (1 : Int32) (if (6 : Int32) = (1 : Int32) then (1 : Int32) else (0 : Int32)) := ⟨m_posConst_6, cm_posConst_6.cls, _, _, E_posConst_6, F_posConst_6, G_posConst_6, V_posConst_6, Or.inl ⟨rfl, _, rfl, rfl⟩⟩
  have el_posConst_6 := (elem_in ev_posConst_6 ev_posConst (Term.int_eval (6)) A_posConst.1).2
  obtain ⟨o_posConst_7, ev_posConst_7⟩ := exa_v (Cond.before_iff.mp (hsets _ (List.mem_of_getElem? (i := 57) rfl)))
  have E_posConst_7 : Exa s s.heap o_posConst_7 "java/math/BigInteger" := Exa.start ev_posConst_7 (Cond.before_iff.mp (hsets _ (List.mem_of_getElem? (i := 57) rfl)))
  have F_posConst_7 : Fld s s.heap o_posConst_7 "java/math/BigInteger" "signum" "I" (.int (1 : Int32)) := Fld.start ((fld_at ev_posConst_7).symm.trans (eqv_i (Term.int_eval (1)) (Cond.before_iff.mp (hsets _ (List.mem_of_getElem? (i := 58) rfl)))))
  have hm_posConst_7 := (Cond.before_iff.mp (hsets _ (List.mem_of_getElem? (i := 59) rfl)))
  obtain ⟨m_posConst_7, em_posConst_7⟩ := arr_v hm_posConst_7
  have G_posConst_7 : Fld s s.heap o_posConst_7 "java/math/BigInteger" "mag" "[I" (.ref m_posConst_7) := Fld.start ((fld_at ev_posConst_7).symm.trans em_posConst_7)
  obtain ⟨cm_posConst_7, Am_posConst_7⟩ := Arr.start em_posConst_7 hm_posConst_7
  have lm_posConst_7 := eqv_i (Term.int_eval (1)) (Cond.before_iff.mp (hsets _ (List.mem_of_getElem? (i := 61) rfl)))
  obtain ⟨_, _, le1, le2, le3⟩ := Term.length_spec lm_posConst_7
  cases em_posConst_7.symm.trans le1
  cases (State.arrayAt?_spec le2).1.symm.trans Am_posConst_7.1
  have V_posConst_7 : Arv s s.heap m_posConst_7 cm_posConst_7.cls .int (1 : Int32) [.int (7 : Int32)] (.int (0 : Int32)) := Arv.start hfit Am_posConst_7 (own_len31 lm_posConst_7 em_posConst_7 Am_posConst_7.1) (Value.int.inj le3).symm (by decide) rfl ⟨(elem_in (eqv_i (Term.int_eval (7)) (Cond.before_iff.mp (hsets _ (List.mem_of_getElem? (i := 62) rfl)))) em_posConst_7 (Term.int_eval (0)) Am_posConst_7.1).2, trivial⟩
  have B_posConst_7 : own_Big s s.heap o_posConst_7 (1 : Int32) (if (7 : Int32) = (1 : Int32) then (1 : Int32) else (0 : Int32)) := ⟨m_posConst_7, cm_posConst_7.cls, _, _, E_posConst_7, F_posConst_7, G_posConst_7, V_posConst_7, Or.inl ⟨rfl, _, rfl, rfl⟩⟩
  have el_posConst_7 := (elem_in ev_posConst_7 ev_posConst (Term.int_eval (7)) A_posConst.1).2
  obtain ⟨o_posConst_8, ev_posConst_8⟩ := exa_v (Cond.before_iff.mp (hsets _ (List.mem_of_getElem? (i := 63) rfl)))
  have E_posConst_8 : Exa s s.heap o_posConst_8 "java/math/BigInteger" := Exa.start ev_posConst_8 (Cond.before_iff.mp (hsets _ (List.mem_of_getElem? (i := 63) rfl)))
  have F_posConst_8 : Fld s s.heap o_posConst_8 "java/math/BigInteger" "signum" "I" (.int (1 : Int32)) := Fld.start ((fld_at ev_posConst_8).symm.trans (eqv_i (Term.int_eval (1)) (Cond.before_iff.mp (hsets _ (List.mem_of_getElem? (i := 64) rfl)))))
  have hm_posConst_8 := (Cond.before_iff.mp (hsets _ (List.mem_of_getElem? (i := 65) rfl)))
  obtain ⟨m_posConst_8, em_posConst_8⟩ := arr_v hm_posConst_8
  have G_posConst_8 : Fld s s.heap o_posConst_8 "java/math/BigInteger" "mag" "[I" (.ref m_posConst_8) := Fld.start ((fld_at ev_posConst_8).symm.trans em_posConst_8)
  obtain ⟨cm_posConst_8, Am_posConst_8⟩ := Arr.start em_posConst_8 hm_posConst_8
  have lm_posConst_8 := eqv_i (Term.int_eval (1)) (Cond.before_iff.mp (hsets _ (List.mem_of_getElem? (i := 67) rfl)))
  obtain ⟨_, _, le1, le2, le3⟩ := Term.length_spec lm_posConst_8
  cases em_posConst_8.symm.trans le1
  cases (State.arrayAt?_spec le2).1.symm.trans Am_posConst_8.1
  have V_posConst_8 : Arv s s.heap m_posConst_8 cm_posConst_8.cls .int (1 : Int32) [.int (8 : Int32)] (.int (0 : Int32)) := Arv.start hfit Am_posConst_8 (own_len31 lm_posConst_8 em_posConst_8 Am_posConst_8.1) (Value.int.inj le3).symm (by decide) rfl ⟨(elem_in (eqv_i (Term.int_eval (8)) (Cond.before_iff.mp (hsets _ (List.mem_of_getElem? (i := 68) rfl)))) em_posConst_8 (Term.int_eval (0)) Am_posConst_8.1).2, trivial⟩
  have B_posConst_8 : own_Big s s.heap o_posConst_8 (1 : Int32) (if (8 : Int32) = (1 : Int32) then (1 : Int32) else (0 : Int32)) := ⟨m_posConst_8, cm_posConst_8.cls, _, _, E_posConst_8, F_posConst_8, G_posConst_8, V_posConst_8, Or.inl ⟨rfl, _, rfl, rfl⟩⟩
  have el_posConst_8 := (elem_in ev_posConst_8 ev_posConst (Term.int_eval (8)) A_posConst.1).2
  obtain ⟨o_posConst_9, ev_posConst_9⟩ := exa_v (Cond.before_iff.mp (hsets _ (List.mem_of_getElem? (i := 69) rfl)))
  have E_posConst_9 : Exa s s.heap o_posConst_9 "java/math/BigInteger" := Exa.start ev_posConst_9 (Cond.before_iff.mp (hsets _ (List.mem_of_getElem? (i := 69) rfl)))
  have F_posConst_9 : Fld s s.heap o_posConst_9 "java/math/BigInteger" "signum" "I" (.int (1 : Int32)) := Fld.start ((fld_at ev_posConst_9).symm.trans (eqv_i (Term.int_eval (1)) (Cond.before_iff.mp (hsets _ (List.mem_of_getElem? (i := 70) rfl)))))
  have hm_posConst_9 := (Cond.before_iff.mp (hsets _ (List.mem_of_getElem? (i := 71) rfl)))
  obtain ⟨m_posConst_9, em_posConst_9⟩ := arr_v hm_posConst_9
  have G_posConst_9 : Fld s s.heap o_posConst_9 "java/math/BigInteger" "mag" "[I" (.ref m_posConst_9) := Fld.start ((fld_at ev_posConst_9).symm.trans em_posConst_9)
  obtain ⟨cm_posConst_9, Am_posConst_9⟩ := Arr.start em_posConst_9 hm_posConst_9
  have lm_posConst_9 := eqv_i (Term.int_eval (1)) (Cond.before_iff.mp (hsets _ (List.mem_of_getElem? (i := 73) rfl)))
  obtain ⟨_, _, le1, le2, le3⟩ := Term.length_spec lm_posConst_9
  cases em_posConst_9.symm.trans le1
  cases (State.arrayAt?_spec le2).1.symm.trans Am_posConst_9.1
  have V_posConst_9 : Arv s s.heap m_posConst_9 cm_posConst_9.cls .int (1 : Int32) [.int (9 : Int32)] (.int (0 : Int32)) := Arv.start hfit Am_posConst_9 (own_len31 lm_posConst_9 em_posConst_9 Am_posConst_9.1) (Value.int.inj le3).symm (by decide) rfl ⟨(elem_in (eqv_i (Term.int_eval (9)) (Cond.before_iff.mp (hsets _ (List.mem_of_getElem? (i := 74) rfl)))) em_posConst_9 (Term.int_eval (0)) Am_posConst_9.1).2, trivial⟩
  have B_posConst_9 : own_Big s s.heap o_posConst_9 (1 : Int32) (if (9 : Int32) = (1 : Int32) then (1 : Int32) else (0 : Int32)) := ⟨m_posConst_9, cm_posConst_9.cls, _, _, E_posConst_9, F_posConst_9, G_posConst_9, V_posConst_9, Or.inl ⟨rfl, _, rfl, rfl⟩⟩
  have el_posConst_9 := (elem_in ev_posConst_9 ev_posConst (Term.int_eval (9)) A_posConst.1).2
  obtain ⟨o_posConst_10, ev_posConst_10⟩ := exa_v (Cond.before_iff.mp (hsets _ (List.mem_of_getElem? (i := 76) rfl)))
  have E_posConst_10 : Exa s s.heap o_posConst_10 "java/math/BigInteger" := Exa.start ev_posConst_10 (Cond.before_iff.mp (hsets _ (List.mem_of_getElem? (i := 76) rfl)))
  have F_posConst_10 : Fld s s.heap o_posConst_10 "java/math/BigInteger" "signum" "I" (.int (1 : Int32)) := Fld.start ((fld_at ev_posConst_10).symm.trans (eqv_i (Term.int_eval (1)) (Cond.before_iff.mp (hsets _ (List.mem_of_getElem? (i := 77) rfl)))))
  have hm_posConst_10 := (Cond.before_iff.mp (hsets _ (List.mem_of_getElem? (i := 78) rfl)))
  obtain ⟨m_posConst_10, em_posConst_10⟩ := arr_v hm_posConst_10
  have G_posConst_10 : Fld s s.heap o_posConst_10 "java/math/BigInteger" "mag" "[I" (.ref m_posConst_10) := Fld.start ((fld_at ev_posConst_10).symm.trans em_posConst_10)
  obtain ⟨cm_posConst_10, Am_posConst_10⟩ := Arr.start em_posConst_10 hm_posConst_10
  have lm_posConst_10 := eqv_i (Term.int_eval (1)) (Cond.before_iff.mp (hsets _ (List.mem_of_getElem? (i := 80) rfl)))
  obtain ⟨_, _, le1, le2, le3⟩ := Term.length_spec lm_posConst_10
  cases em_posConst_10.symm.trans le1
  cases (State.arrayAt?_spec le2).1.symm.trans Am_posConst_10.1
  have V_posConst_10 : Arv s s.heap m_posConst_10 cm_posConst_10.cls .int (1 : Int32) [.int (10 : Int32)] (.int (0 : Int32)) := Arv.start hfit Am_posConst_10 (own_len31 lm_posConst_10 em_posConst_10 Am_posConst_10.1) (Value.int.inj le3).symm (by decide) rfl ⟨(elem_in (eqv_i (Term.int_eval (10)) (Cond.before_iff.mp (hsets _ (List.mem_of_getElem? (i := 81) rfl)))) em_posConst_10 (Term.int_eval (0)) Am_posConst_10.1).2, trivial⟩
  have B_posConst_10 : own_Big s s.heap o_posConst_10 (1 : Int32) (if (10 : Int32) = (1 : Int32) then (1 : Int32) else (0 : Int32)) := ⟨m_posConst_10, cm_posConst_10.cls, _, _, E_posConst_10, F_posConst_10, G_posConst_10, V_posConst_10, Or.inl ⟨rfl, _, rfl, rfl⟩⟩
  have el_posConst_10 := (elem_in ev_posConst_10 ev_posConst (Term.int_eval (10)) A_posConst.1).2
  obtain ⟨o_posConst_11, ev_posConst_11⟩ := exa_v (Cond.before_iff.mp (hsets _ (List.mem_of_getElem? (i := 82) rfl)))
  have E_posConst_11 : Exa s s.heap o_posConst_11 "java/math/BigInteger" := Exa.start ev_posConst_11 (Cond.before_iff.mp (hsets _ (List.mem_of_getElem? (i := 82) rfl)))
  have F_posConst_11 : Fld s s.heap o_posConst_11 "java/math/BigInteger" "signum" "I" (.int (1 : Int32)) := Fld.start ((fld_at ev_posConst_11).symm.trans (eqv_i (Term.int_eval (1)) (Cond.before_iff.mp (hsets _ (List.mem_of_getElem? (i := 83) rfl)))))
  have hm_posConst_11 := (Cond.before_iff.mp (hsets _ (List.mem_of_getElem? (i := 84) rfl)))
  obtain ⟨m_posConst_11, em_posConst_11⟩ := arr_v hm_posConst_11
  have G_posConst_11 : Fld s s.heap o_posConst_11 "java/math/BigInteger" "mag" "[I" (.ref m_posConst_11) := Fld.start ((fld_at ev_posConst_11).symm.trans em_posConst_11)
  obtain ⟨cm_posConst_11, Am_posConst_11⟩ := Arr.start em_posConst_11 hm_posConst_11
  have lm_posConst_11 := eqv_i (Term.int_eval (1)) (Cond.before_iff.mp (hsets _ (List.mem_of_getElem? (i := 86) rfl)))
  obtain ⟨_, _, le1, le2, le3⟩ := Term.length_spec lm_posConst_11
  cases em_posConst_11.symm.trans le1
  cases (State.arrayAt?_spec le2).1.symm.trans Am_posConst_11.1
  have V_posConst_11 : Arv s s.heap m_posConst_11 cm_posConst_11.cls .int (1 : Int32) [.int (11 : Int32)] (.int (0 : Int32)) := Arv.start hfit Am_posConst_11 (own_len31 lm_posConst_11 em_posConst_11 Am_posConst_11.1) (Value.int.inj le3).symm (by decide) rfl ⟨(elem_in (eqv_i (Term.int_eval (11)) (Cond.before_iff.mp (hsets _ (List.mem_of_getElem? (i := 87) rfl)))) em_posConst_11 (Term.int_eval (0)) Am_posConst_11.1).2, trivial⟩
  have B_posConst_11 : own_Big s s.heap o_posConst_11 (1 : Int32) (if (11 : Int32) = (1 : Int32) then (1 : Int32) else (0 : Int32)) := ⟨m_posConst_11, cm_posConst_11.cls, _, _, E_posConst_11, F_posConst_11, G_posConst_11, V_posConst_11, Or.inl ⟨rfl, _, rfl, rfl⟩⟩
  have el_posConst_11 := (elem_in ev_posConst_11 ev_posConst (Term.int_eval (11)) A_posConst.1).2
  obtain ⟨o_posConst_12, ev_posConst_12⟩ := exa_v (Cond.before_iff.mp (hsets _ (List.mem_of_getElem? (i := 88) rfl)))
  have E_posConst_12 : Exa s s.heap o_posConst_12 "java/math/BigInteger" := Exa.start ev_posConst_12 (Cond.before_iff.mp (hsets _ (List.mem_of_getElem? (i := 88) rfl)))
  have F_posConst_12 : Fld s s.heap o_posConst_12 "java/math/BigInteger" "signum" "I" (.int (1 : Int32)) := Fld.start ((fld_at ev_posConst_12).symm.trans (eqv_i (Term.int_eval (1)) (Cond.before_iff.mp (hsets _ (List.mem_of_getElem? (i := 89) rfl)))))
  have hm_posConst_12 := (Cond.before_iff.mp (hsets _ (List.mem_of_getElem? (i := 90) rfl)))
  obtain ⟨m_posConst_12, em_posConst_12⟩ := arr_v hm_posConst_12
  have G_posConst_12 : Fld s s.heap o_posConst_12 "java/math/BigInteger" "mag" "[I" (.ref m_posConst_12) := Fld.start ((fld_at ev_posConst_12).symm.trans em_posConst_12)
  obtain ⟨cm_posConst_12, Am_posConst_12⟩ := Arr.start em_posConst_12 hm_posConst_12
  have lm_posConst_12 := eqv_i (Term.int_eval (1)) (Cond.before_iff.mp (hsets _ (List.mem_of_getElem? (i := 92) rfl)))
  obtain ⟨_, _, le1, le2, le3⟩ := Term.length_spec lm_posConst_12
  cases em_posConst_12.symm.trans le1
  cases (State.arrayAt?_spec le2).1.symm.trans Am_posConst_12.1
  have V_posConst_12 : Arv s s.heap m_posConst_12 cm_posConst_12.cls .int (1 : Int32) [.int (12 : Int32)] (.int (0 : Int32)) := Arv.start hfit Am_posConst_12 (own_len31 lm_posConst_12 em_posConst_12 Am_posConst_12.1) (Value.int.inj le3).symm (by decide) rfl ⟨(elem_in (eqv_i (Term.int_eval (12)) (Cond.before_iff.mp (hsets _ (List.mem_of_getElem? (i := 93) rfl)))) em_posConst_12 (Term.int_eval (0)) Am_posConst_12.1).2, trivial⟩
  have B_posConst_12 : own_Big s s.heap o_posConst_12 (1 : Int32) (if (12 : Int32) = (1 : Int32) then (1 : Int32) else (0 : Int32)) := ⟨m_posConst_12, cm_posConst_12.cls, _, _, E_posConst_12, F_posConst_12, G_posConst_12, V_posConst_12, Or.inl ⟨rfl, _, rfl, rfl⟩⟩
  have el_posConst_12 := (elem_in ev_posConst_12 ev_posConst (Term.int_eval (12)) A_posConst.1).2
  obtain ⟨o_posConst_13, ev_posConst_13⟩ := exa_v (Cond.before_iff.mp (hsets _ (List.mem_of_getElem? (i := 94) rfl)))
  have E_posConst_13 : Exa s s.heap o_posConst_13 "java/math/BigInteger" := Exa.start ev_posConst_13 (Cond.before_iff.mp (hsets _ (List.mem_of_getElem? (i := 94) rfl)))
  have F_posConst_13 : Fld s s.heap o_posConst_13 "java/math/BigInteger" "signum" "I" (.int (1 : Int32)) := Fld.start ((fld_at ev_posConst_13).symm.trans (eqv_i (Term.int_eval (1)) (Cond.before_iff.mp (hsets _ (List.mem_of_getElem? (i := 95) rfl)))))
  have hm_posConst_13 := (Cond.before_iff.mp (hsets _ (List.mem_of_getElem? (i := 96) rfl)))
  obtain ⟨m_posConst_13, em_posConst_13⟩ := arr_v hm_posConst_13
  have G_posConst_13 : Fld s s.heap o_posConst_13 "java/math/BigInteger" "mag" "[I" (.ref m_posConst_13) := Fld.start ((fld_at ev_posConst_13).symm.trans em_posConst_13)
  obtain ⟨cm_posConst_13, Am_posConst_13⟩ := Arr.start em_posConst_13 hm_posConst_13
  have lm_posConst_13 := eqv_i (Term.int_eval (1)) (Cond.before_iff.mp (hsets _ (List.mem_of_getElem? (i := 98) rfl)))
  obtain ⟨_, _, le1, le2, le3⟩ := Term.length_spec lm_posConst_13
  cases em_posConst_13.symm.trans le1
  cases (State.arrayAt?_spec le2).1.symm.trans Am_posConst_13.1
  have V_posConst_13 : Arv s s.heap m_posConst_13 cm_posConst_13.cls .int (1 : Int32) [.int (13 : Int32)] (.int (0 : Int32)) := Arv.start hfit Am_posConst_13 (own_len31 lm_posConst_13 em_posConst_13 Am_posConst_13.1) (Value.int.inj le3).symm (by decide) rfl ⟨(elem_in (eqv_i (Term.int_eval (13)) (Cond.before_iff.mp (hsets _ (List.mem_of_getElem? (i := 99) rfl)))) em_posConst_13 (Term.int_eval (0)) Am_posConst_13.1).2, trivial⟩
  have B_posConst_13 : own_Big s s.heap o_posConst_13 (1 : Int32) (if (13 : Int32) = (1 : Int32) then (1 : Int32) else (0 : Int32)) := ⟨m_posConst_13, cm_posConst_13.cls, _, _, E_posConst_13, F_posConst_13, G_posConst_13, V_posConst_13, Or.inl ⟨rfl, _, rfl, rfl⟩⟩
  have el_posConst_13 := (elem_in ev_posConst_13 ev_posConst (Term.int_eval (13)) A_posConst.1).2
  obtain ⟨o_posConst_14, ev_posConst_14⟩ := exa_v (Cond.before_iff.mp (hsets _ (List.mem_of_getElem? (i := 100) rfl)))
  have E_posConst_14 : Exa s s.heap o_posConst_14 "java/math/BigInteger" := Exa.start ev_posConst_14 (Cond.before_iff.mp (hsets _ (List.mem_of_getElem? (i := 100) rfl)))
  have F_posConst_14 : Fld s s.heap o_posConst_14 "java/math/BigInteger" "signum" "I" (.int (1 : Int32)) := Fld.start ((fld_at ev_posConst_14).symm.trans (eqv_i (Term.int_eval (1)) (Cond.before_iff.mp (hsets _ (List.mem_of_getElem? (i := 101) rfl)))))
  have hm_posConst_14 := (Cond.before_iff.mp (hsets _ (List.mem_of_getElem? (i := 102) rfl)))
  obtain ⟨m_posConst_14, em_posConst_14⟩ := arr_v hm_posConst_14
  have G_posConst_14 : Fld s s.heap o_posConst_14 "java/math/BigInteger" "mag" "[I" (.ref m_posConst_14) := Fld.start ((fld_at ev_posConst_14).symm.trans em_posConst_14)
  obtain ⟨cm_posConst_14, Am_posConst_14⟩ := Arr.start em_posConst_14 hm_posConst_14
  have lm_posConst_14 := eqv_i (Term.int_eval (1)) (Cond.before_iff.mp (hsets _ (List.mem_of_getElem? (i := 104) rfl)))
  obtain ⟨_, _, le1, le2, le3⟩ := Term.length_spec lm_posConst_14
  cases em_posConst_14.symm.trans le1
  cases (State.arrayAt?_spec le2).1.symm.trans Am_posConst_14.1
  have V_posConst_14 : Arv s s.heap m_posConst_14 cm_posConst_14.cls .int (1 : Int32) [.int (14 : Int32)] (.int (0 : Int32)) := Arv.start hfit Am_posConst_14 (own_len31 lm_posConst_14 em_posConst_14 Am_posConst_14.1) (Value.int.inj le3).symm (by decide) rfl ⟨(elem_in (eqv_i (Term.int_eval (14)) (Cond.before_iff.mp (hsets _ (List.mem_of_getElem? (i := 105) rfl)))) em_posConst_14 (Term.int_eval (0)) Am_posConst_14.1).2, trivial⟩
  have B_posConst_14 : own_Big s s.heap o_posConst_14 (1 : Int32) (if (14 : Int32) = (1 : Int32) then (1 : Int32) else (0 : Int32)) := ⟨m_posConst_14, cm_posConst_14.cls, _, _, E_posConst_14, F_posConst_14, G_posConst_14, V_posConst_14, Or.inl ⟨rfl, _, rfl, rfl⟩⟩
  have el_posConst_14 := (elem_in ev_posConst_14 ev_posConst (Term.int_eval (14)) A_posConst.1).2
  obtain ⟨o_posConst_15, ev_posConst_15⟩ := exa_v (Cond.before_iff.mp (hsets _ (List.mem_of_getElem? (i := 106) rfl)))
  have E_posConst_15 : Exa s s.heap o_posConst_15 "java/math/BigInteger" := Exa.start ev_posConst_15 (Cond.before_iff.mp (hsets _ (List.mem_of_getElem? (i := 106) rfl)))
  have F_posConst_15 : Fld s s.heap o_posConst_15 "java/math/BigInteger" "signum" "I" (.int (1 : Int32)) := Fld.start ((fld_at ev_posConst_15).symm.trans (eqv_i (Term.int_eval (1)) (Cond.before_iff.mp (hsets _ (List.mem_of_getElem? (i := 107) rfl)))))
  have hm_posConst_15 := (Cond.before_iff.mp (hsets _ (List.mem_of_getElem? (i := 108) rfl)))
  obtain ⟨m_posConst_15, em_posConst_15⟩ := arr_v hm_posConst_15
  have G_posConst_15 : Fld s s.heap o_posConst_15 "java/math/BigInteger" "mag" "[I" (.ref m_posConst_15) := Fld.start ((fld_at ev_posConst_15).symm.trans em_posConst_15)
  obtain ⟨cm_posConst_15, Am_posConst_15⟩ := Arr.start em_posConst_15 hm_posConst_15
  have lm_posConst_15 := eqv_i (Term.int_eval (1)) (Cond.before_iff.mp (hsets _ (List.mem_of_getElem? (i := 110) rfl)))
  obtain ⟨_, _, le1, le2, le3⟩ := Term.length_spec lm_posConst_15
  cases em_posConst_15.symm.trans le1
  cases (State.arrayAt?_spec le2).1.symm.trans Am_posConst_15.1
  have V_posConst_15 : Arv s s.heap m_posConst_15 cm_posConst_15.cls .int (1 : Int32) [.int (15 : Int32)] (.int (0 : Int32)) := Arv.start hfit Am_posConst_15 (own_len31 lm_posConst_15 em_posConst_15 Am_posConst_15.1) (Value.int.inj le3).symm (by decide) rfl ⟨(elem_in (eqv_i (Term.int_eval (15)) (Cond.before_iff.mp (hsets _ (List.mem_of_getElem? (i := 111) rfl)))) em_posConst_15 (Term.int_eval (0)) Am_posConst_15.1).2, trivial⟩
  have B_posConst_15 : own_Big s s.heap o_posConst_15 (1 : Int32) (if (15 : Int32) = (1 : Int32) then (1 : Int32) else (0 : Int32)) := ⟨m_posConst_15, cm_posConst_15.cls, _, _, E_posConst_15, F_posConst_15, G_posConst_15, V_posConst_15, Or.inl ⟨rfl, _, rfl, rfl⟩⟩
  have el_posConst_15 := (elem_in ev_posConst_15 ev_posConst (Term.int_eval (15)) A_posConst.1).2
  obtain ⟨o_posConst_16, ev_posConst_16⟩ := exa_v (Cond.before_iff.mp (hsets _ (List.mem_of_getElem? (i := 112) rfl)))
  have E_posConst_16 : Exa s s.heap o_posConst_16 "java/math/BigInteger" := Exa.start ev_posConst_16 (Cond.before_iff.mp (hsets _ (List.mem_of_getElem? (i := 112) rfl)))
  have F_posConst_16 : Fld s s.heap o_posConst_16 "java/math/BigInteger" "signum" "I" (.int (1 : Int32)) := Fld.start ((fld_at ev_posConst_16).symm.trans (eqv_i (Term.int_eval (1)) (Cond.before_iff.mp (hsets _ (List.mem_of_getElem? (i := 113) rfl)))))
  have hm_posConst_16 := (Cond.before_iff.mp (hsets _ (List.mem_of_getElem? (i := 114) rfl)))
  obtain ⟨m_posConst_16, em_posConst_16⟩ := arr_v hm_posConst_16
  have G_posConst_16 : Fld s s.heap o_posConst_16 "java/math/BigInteger" "mag" "[I" (.ref m_posConst_16) := Fld.start ((fld_at ev_posConst_16).symm.trans em_posConst_16)
  obtain ⟨cm_posConst_16, Am_posConst_16⟩ := Arr.start em_posConst_16 hm_posConst_16
  have lm_posConst_16 := eqv_i (Term.int_eval (1)) (Cond.before_iff.mp (hsets _ (List.mem_of_getElem? (i := 116) rfl)))
  obtain ⟨_, _, le1, le2, le3⟩ := Term.length_spec lm_posConst_16
  cases em_posConst_16.symm.trans le1
  cases (State.arrayAt?_spec le2).1.symm.trans Am_posConst_16.1
  have V_posConst_16 : Arv s s.heap m_posConst_16 cm_posConst_16.cls .int (1 : Int32) [.int (16 : Int32)] (.int (0 : Int32)) := Arv.start hfit Am_posConst_16 (own_len31 lm_posConst_16 em_posConst_16 Am_posConst_16.1) (Value.int.inj le3).symm (by decide) rfl ⟨(elem_in (eqv_i (Term.int_eval (16)) (Cond.before_iff.mp (hsets _ (List.mem_of_getElem? (i := 117) rfl)))) em_posConst_16 (Term.int_eval (0)) Am_posConst_16.1).2, trivial⟩
  have B_posConst_16 : own_Big s s.heap o_posConst_16 (1 : Int32) (if (16 : Int32) = (1 : Int32) then (1 : Int32) else (0 : Int32)) := ⟨m_posConst_16, cm_posConst_16.cls, _, _, E_posConst_16, F_posConst_16, G_posConst_16, V_posConst_16, Or.inl ⟨rfl, _, rfl, rfl⟩⟩
  have el_posConst_16 := (elem_in ev_posConst_16 ev_posConst (Term.int_eval (16)) A_posConst.1).2
  have T_posConst : own_Tab s a_posConst c_posConst (1 : Int32) := by
    refine ⟨A_posConst, sz_posConst, fun j h1 h2 => ?_⟩
    have q := own_cases16 j h1 h2
    rcases q with rfl | rfl | rfl | rfl | rfl | rfl | rfl | rfl | rfl | rfl | rfl | rfl | rfl | rfl | rfl | rfl
    · exact ⟨_, el_posConst_1, B_posConst_1⟩
    · exact ⟨_, el_posConst_2, B_posConst_2⟩
    · exact ⟨_, el_posConst_3, B_posConst_3⟩
    · exact ⟨_, el_posConst_4, B_posConst_4⟩
    · exact ⟨_, el_posConst_5, B_posConst_5⟩
    · exact ⟨_, el_posConst_6, B_posConst_6⟩
    · exact ⟨_, el_posConst_7, B_posConst_7⟩
    · exact ⟨_, el_posConst_8, B_posConst_8⟩
    · exact ⟨_, el_posConst_9, B_posConst_9⟩
    · exact ⟨_, el_posConst_10, B_posConst_10⟩
    · exact ⟨_, el_posConst_11, B_posConst_11⟩
    · exact ⟨_, el_posConst_12, B_posConst_12⟩
    · exact ⟨_, el_posConst_13, B_posConst_13⟩
    · exact ⟨_, el_posConst_14, B_posConst_14⟩
    · exact ⟨_, el_posConst_15, B_posConst_15⟩
    · exact ⟨_, el_posConst_16, B_posConst_16⟩
  have h_negConst := (Cond.before_iff.mp (hsets _ (List.mem_of_getElem? (i := 122) rfl)))
  obtain ⟨a_negConst, ev_negConst⟩ := arr_v h_negConst
  have S_negConst : Sta s s.heap "java/math/BigInteger" "negConst" "[Ljava/math/BigInteger;" (.ref a_negConst) := Sta.start ev_negConst (Or.inl (hsets _ (List.mem_of_getElem? (i := 119) rfl)))
  obtain ⟨c_negConst, A_negConst⟩ := Arr.start ev_negConst h_negConst
  have hl_negConst := eqv_i (Term.int_eval (17)) (Cond.before_iff.mp (hsets _ (List.mem_of_getElem? (i := 124) rfl)))
  obtain ⟨_, _, le1, le2, le3⟩ := Term.length_spec hl_negConst
  cases ev_negConst.symm.trans le1
  cases (State.arrayAt?_spec le2).1.symm.trans A_negConst.1
  have sz_negConst : c_negConst.slots.size = (17 : Int32).toNatClampNeg := by
    have q := own_len31 hl_negConst ev_negConst A_negConst.1
    have z : c_negConst.slots.size.toInt32 = (17 : Int32) := (Value.int.inj le3).symm
    rw [← z]; simp only [Int32.toNatClampNeg, len_toInt q]; rfl
  obtain ⟨o_negConst_1, ev_negConst_1⟩ := exa_v (Cond.before_iff.mp (hsets _ (List.mem_of_getElem? (i := 126) rfl)))
  have E_negConst_1 : Exa s s.heap o_negConst_1 "java/math/BigInteger" := Exa.start ev_negConst_1 (Cond.before_iff.mp (hsets _ (List.mem_of_getElem? (i := 126) rfl)))
  have F_negConst_1 : Fld s s.heap o_negConst_1 "java/math/BigInteger" "signum" "I" (.int (-1 : Int32)) := Fld.start ((fld_at ev_negConst_1).symm.trans (eqv_i (Term.int_eval (-1)) (Cond.before_iff.mp (hsets _ (List.mem_of_getElem? (i := 127) rfl)))))
  have hm_negConst_1 := (Cond.before_iff.mp (hsets _ (List.mem_of_getElem? (i := 128) rfl)))
  obtain ⟨m_negConst_1, em_negConst_1⟩ := arr_v hm_negConst_1
  have G_negConst_1 : Fld s s.heap o_negConst_1 "java/math/BigInteger" "mag" "[I" (.ref m_negConst_1) := Fld.start ((fld_at ev_negConst_1).symm.trans em_negConst_1)
  obtain ⟨cm_negConst_1, Am_negConst_1⟩ := Arr.start em_negConst_1 hm_negConst_1
  have lm_negConst_1 := eqv_i (Term.int_eval (1)) (Cond.before_iff.mp (hsets _ (List.mem_of_getElem? (i := 130) rfl)))
  obtain ⟨_, _, le1, le2, le3⟩ := Term.length_spec lm_negConst_1
  cases em_negConst_1.symm.trans le1
  cases (State.arrayAt?_spec le2).1.symm.trans Am_negConst_1.1
  have V_negConst_1 : Arv s s.heap m_negConst_1 cm_negConst_1.cls .int (1 : Int32) [.int (1 : Int32)] (.int (0 : Int32)) := Arv.start hfit Am_negConst_1 (own_len31 lm_negConst_1 em_negConst_1 Am_negConst_1.1) (Value.int.inj le3).symm (by decide) rfl ⟨(elem_in (eqv_i (Term.int_eval (1)) (Cond.before_iff.mp (hsets _ (List.mem_of_getElem? (i := 131) rfl)))) em_negConst_1 (Term.int_eval (0)) Am_negConst_1.1).2, trivial⟩
  have B_negConst_1 : own_Big s s.heap o_negConst_1 (-1 : Int32) (if (1 : Int32) = (1 : Int32) then (1 : Int32) else (0 : Int32)) := ⟨m_negConst_1, cm_negConst_1.cls, _, _, E_negConst_1, F_negConst_1, G_negConst_1, V_negConst_1, Or.inl ⟨rfl, _, rfl, rfl⟩⟩
  have el_negConst_1 := (elem_in ev_negConst_1 ev_negConst (Term.int_eval (1)) A_negConst.1).2
  obtain ⟨o_negConst_2, ev_negConst_2⟩ := exa_v (Cond.before_iff.mp (hsets _ (List.mem_of_getElem? (i := 132) rfl)))
  have E_negConst_2 : Exa s s.heap o_negConst_2 "java/math/BigInteger" := Exa.start ev_negConst_2 (Cond.before_iff.mp (hsets _ (List.mem_of_getElem? (i := 132) rfl)))
  have F_negConst_2 : Fld s s.heap o_negConst_2 "java/math/BigInteger" "signum" "I" (.int (-1 : Int32)) := Fld.start ((fld_at ev_negConst_2).symm.trans (eqv_i (Term.int_eval (-1)) (Cond.before_iff.mp (hsets _ (List.mem_of_getElem? (i := 133) rfl)))))
  have hm_negConst_2 := (Cond.before_iff.mp (hsets _ (List.mem_of_getElem? (i := 134) rfl)))
  obtain ⟨m_negConst_2, em_negConst_2⟩ := arr_v hm_negConst_2
  have G_negConst_2 : Fld s s.heap o_negConst_2 "java/math/BigInteger" "mag" "[I" (.ref m_negConst_2) := Fld.start ((fld_at ev_negConst_2).symm.trans em_negConst_2)
  obtain ⟨cm_negConst_2, Am_negConst_2⟩ := Arr.start em_negConst_2 hm_negConst_2
  have lm_negConst_2 := eqv_i (Term.int_eval (1)) (Cond.before_iff.mp (hsets _ (List.mem_of_getElem? (i := 136) rfl)))
  obtain ⟨_, _, le1, le2, le3⟩ := Term.length_spec lm_negConst_2
  cases em_negConst_2.symm.trans le1
  cases (State.arrayAt?_spec le2).1.symm.trans Am_negConst_2.1
  have V_negConst_2 : Arv s s.heap m_negConst_2 cm_negConst_2.cls .int (1 : Int32) [.int (2 : Int32)] (.int (0 : Int32)) := Arv.start hfit Am_negConst_2 (own_len31 lm_negConst_2 em_negConst_2 Am_negConst_2.1) (Value.int.inj le3).symm (by decide) rfl ⟨(elem_in (eqv_i (Term.int_eval (2)) (Cond.before_iff.mp (hsets _ (List.mem_of_getElem? (i := 137) rfl)))) em_negConst_2 (Term.int_eval (0)) Am_negConst_2.1).2, trivial⟩
  have B_negConst_2 : own_Big s s.heap o_negConst_2 (-1 : Int32) (if (2 : Int32) = (1 : Int32) then (1 : Int32) else (0 : Int32)) := ⟨m_negConst_2, cm_negConst_2.cls, _, _, E_negConst_2, F_negConst_2, G_negConst_2, V_negConst_2, Or.inl ⟨rfl, _, rfl, rfl⟩⟩
  have el_negConst_2 := (elem_in ev_negConst_2 ev_negConst (Term.int_eval (2)) A_negConst.1).2
  obtain ⟨o_negConst_3, ev_negConst_3⟩ := exa_v (Cond.before_iff.mp (hsets _ (List.mem_of_getElem? (i := 138) rfl)))
  have E_negConst_3 : Exa s s.heap o_negConst_3 "java/math/BigInteger" := Exa.start ev_negConst_3 (Cond.before_iff.mp (hsets _ (List.mem_of_getElem? (i := 138) rfl)))
  have F_negConst_3 : Fld s s.heap o_negConst_3 "java/math/BigInteger" "signum" "I" (.int (-1 : Int32)) := Fld.start ((fld_at ev_negConst_3).symm.trans (eqv_i (Term.int_eval (-1)) (Cond.before_iff.mp (hsets _ (List.mem_of_getElem? (i := 139) rfl)))))
  have hm_negConst_3 := (Cond.before_iff.mp (hsets _ (List.mem_of_getElem? (i := 140) rfl)))
  obtain ⟨m_negConst_3, em_negConst_3⟩ := arr_v hm_negConst_3
  have G_negConst_3 : Fld s s.heap o_negConst_3 "java/math/BigInteger" "mag" "[I" (.ref m_negConst_3) := Fld.start ((fld_at ev_negConst_3).symm.trans em_negConst_3)
  obtain ⟨cm_negConst_3, Am_negConst_3⟩ := Arr.start em_negConst_3 hm_negConst_3
  have lm_negConst_3 := eqv_i (Term.int_eval (1)) (Cond.before_iff.mp (hsets _ (List.mem_of_getElem? (i := 142) rfl)))
  obtain ⟨_, _, le1, le2, le3⟩ := Term.length_spec lm_negConst_3
  cases em_negConst_3.symm.trans le1
  cases (State.arrayAt?_spec le2).1.symm.trans Am_negConst_3.1
  have V_negConst_3 : Arv s s.heap m_negConst_3 cm_negConst_3.cls .int (1 : Int32) [.int (3 : Int32)] (.int (0 : Int32)) := Arv.start hfit Am_negConst_3 (own_len31 lm_negConst_3 em_negConst_3 Am_negConst_3.1) (Value.int.inj le3).symm (by decide) rfl ⟨(elem_in (eqv_i (Term.int_eval (3)) (Cond.before_iff.mp (hsets _ (List.mem_of_getElem? (i := 143) rfl)))) em_negConst_3 (Term.int_eval (0)) Am_negConst_3.1).2, trivial⟩
  have B_negConst_3 : own_Big s s.heap o_negConst_3 (-1 : Int32) (if (3 : Int32) = (1 : Int32) then (1 : Int32) else (0 : Int32)) := ⟨m_negConst_3, cm_negConst_3.cls, _, _, E_negConst_3, F_negConst_3, G_negConst_3, V_negConst_3, Or.inl ⟨rfl, _, rfl, rfl⟩⟩
  have el_negConst_3 := (elem_in ev_negConst_3 ev_negConst (Term.int_eval (3)) A_negConst.1).2
  obtain ⟨o_negConst_4, ev_negConst_4⟩ := exa_v (Cond.before_iff.mp (hsets _ (List.mem_of_getElem? (i := 144) rfl)))
  have E_negConst_4 : Exa s s.heap o_negConst_4 "java/math/BigInteger" := Exa.start ev_negConst_4 (Cond.before_iff.mp (hsets _ (List.mem_of_getElem? (i := 144) rfl)))
  have F_negConst_4 : Fld s s.heap o_negConst_4 "java/math/BigInteger" "signum" "I" (.int (-1 : Int32)) := Fld.start ((fld_at ev_negConst_4).symm.trans (eqv_i (Term.int_eval (-1)) (Cond.before_iff.mp (hsets _ (List.mem_of_getElem? (i := 145) rfl)))))
  have hm_negConst_4 := (Cond.before_iff.mp (hsets _ (List.mem_of_getElem? (i := 146) rfl)))
  obtain ⟨m_negConst_4, em_negConst_4⟩ := arr_v hm_negConst_4
  have G_negConst_4 : Fld s s.heap o_negConst_4 "java/math/BigInteger" "mag" "[I" (.ref m_negConst_4) := Fld.start ((fld_at ev_negConst_4).symm.trans em_negConst_4)
  obtain ⟨cm_negConst_4, Am_negConst_4⟩ := Arr.start em_negConst_4 hm_negConst_4
  have lm_negConst_4 := eqv_i (Term.int_eval (1)) (Cond.before_iff.mp (hsets _ (List.mem_of_getElem? (i := 148) rfl)))
  obtain ⟨_, _, le1, le2, le3⟩ := Term.length_spec lm_negConst_4
  cases em_negConst_4.symm.trans le1
  cases (State.arrayAt?_spec le2).1.symm.trans Am_negConst_4.1
  have V_negConst_4 : Arv s s.heap m_negConst_4 cm_negConst_4.cls .int (1 : Int32) [.int (4 : Int32)] (.int (0 : Int32)) := Arv.start hfit Am_negConst_4 (own_len31 lm_negConst_4 em_negConst_4 Am_negConst_4.1) (Value.int.inj le3).symm (by decide) rfl ⟨(elem_in (eqv_i (Term.int_eval (4)) (Cond.before_iff.mp (hsets _ (List.mem_of_getElem? (i := 149) rfl)))) em_negConst_4 (Term.int_eval (0)) Am_negConst_4.1).2, trivial⟩
  have B_negConst_4 : own_Big s s.heap o_negConst_4 (-1 : Int32) (if (4 : Int32) = (1 : Int32) then (1 : Int32) else (0 : Int32)) := ⟨m_negConst_4, cm_negConst_4.cls, _, _, E_negConst_4, F_negConst_4, G_negConst_4, V_negConst_4, Or.inl ⟨rfl, _, rfl, rfl⟩⟩
  have el_negConst_4 := (elem_in ev_negConst_4 ev_negConst (Term.int_eval (4)) A_negConst.1).2
  obtain ⟨o_negConst_5, ev_negConst_5⟩ := exa_v (Cond.before_iff.mp (hsets _ (List.mem_of_getElem? (i := 150) rfl)))
  have E_negConst_5 : Exa s s.heap o_negConst_5 "java/math/BigInteger" := Exa.start ev_negConst_5 (Cond.before_iff.mp (hsets _ (List.mem_of_getElem? (i := 150) rfl)))
  have F_negConst_5 : Fld s s.heap o_negConst_5 "java/math/BigInteger" "signum" "I" (.int (-1 : Int32)) := Fld.start ((fld_at ev_negConst_5).symm.trans (eqv_i (Term.int_eval (-1)) (Cond.before_iff.mp (hsets _ (List.mem_of_getElem? (i := 151) rfl)))))
  have hm_negConst_5 := (Cond.before_iff.mp (hsets _ (List.mem_of_getElem? (i := 152) rfl)))
  obtain ⟨m_negConst_5, em_negConst_5⟩ := arr_v hm_negConst_5
  have G_negConst_5 : Fld s s.heap o_negConst_5 "java/math/BigInteger" "mag" "[I" (.ref m_negConst_5) := Fld.start ((fld_at ev_negConst_5).symm.trans em_negConst_5)
  obtain ⟨cm_negConst_5, Am_negConst_5⟩ := Arr.start em_negConst_5 hm_negConst_5
  have lm_negConst_5 := eqv_i (Term.int_eval (1)) (Cond.before_iff.mp (hsets _ (List.mem_of_getElem? (i := 154) rfl)))
  obtain ⟨_, _, le1, le2, le3⟩ := Term.length_spec lm_negConst_5
  cases em_negConst_5.symm.trans le1
  cases (State.arrayAt?_spec le2).1.symm.trans Am_negConst_5.1
  have V_negConst_5 : Arv s s.heap m_negConst_5 cm_negConst_5.cls .int (1 : Int32) [.int (5 : Int32)] (.int (0 : Int32)) := Arv.start hfit Am_negConst_5 (own_len31 lm_negConst_5 em_negConst_5 Am_negConst_5.1) (Value.int.inj le3).symm (by decide) rfl ⟨(elem_in (eqv_i (Term.int_eval (5)) (Cond.before_iff.mp (hsets _ (List.mem_of_getElem? (i := 155) rfl)))) em_negConst_5 (Term.int_eval (0)) Am_negConst_5.1).2, trivial⟩
  have B_negConst_5 : own_Big s s.heap o_negConst_5 (-1 : Int32) (if (5 : Int32) = (1 : Int32) then (1 : Int32) else (0 : Int32)) := ⟨m_negConst_5, cm_negConst_5.cls, _, _, E_negConst_5, F_negConst_5, G_negConst_5, V_negConst_5, Or.inl ⟨rfl, _, rfl, rfl⟩⟩
  have el_negConst_5 := (elem_in ev_negConst_5 ev_negConst (Term.int_eval (5)) A_negConst.1).2
  obtain ⟨o_negConst_6, ev_negConst_6⟩ := exa_v (Cond.before_iff.mp (hsets _ (List.mem_of_getElem? (i := 156) rfl)))
  have E_negConst_6 : Exa s s.heap o_negConst_6 "java/math/BigInteger" := Exa.start ev_negConst_6 (Cond.before_iff.mp (hsets _ (List.mem_of_getElem? (i := 156) rfl)))
  have F_negConst_6 : Fld s s.heap o_negConst_6 "java/math/BigInteger" "signum" "I" (.int (-1 : Int32)) := Fld.start ((fld_at ev_negConst_6).symm.trans (eqv_i (Term.int_eval (-1)) (Cond.before_iff.mp (hsets _ (List.mem_of_getElem? (i := 157) rfl)))))
  have hm_negConst_6 := (Cond.before_iff.mp (hsets _ (List.mem_of_getElem? (i := 158) rfl)))
  obtain ⟨m_negConst_6, em_negConst_6⟩ := arr_v hm_negConst_6
  have G_negConst_6 : Fld s s.heap o_negConst_6 "java/math/BigInteger" "mag" "[I" (.ref m_negConst_6) := Fld.start ((fld_at ev_negConst_6).symm.trans em_negConst_6)
  obtain ⟨cm_negConst_6, Am_negConst_6⟩ := Arr.start em_negConst_6 hm_negConst_6
  have lm_negConst_6 := eqv_i (Term.int_eval (1)) (Cond.before_iff.mp (hsets _ (List.mem_of_getElem? (i := 160) rfl)))
  obtain ⟨_, _, le1, le2, le3⟩ := Term.length_spec lm_negConst_6
  cases em_negConst_6.symm.trans le1
  cases (State.arrayAt?_spec le2).1.symm.trans Am_negConst_6.1
  have V_negConst_6 : Arv s s.heap m_negConst_6 cm_negConst_6.cls .int (1 : Int32) [.int (6 : Int32)] (.int (0 : Int32)) := Arv.start hfit Am_negConst_6 (own_len31 lm_negConst_6 em_negConst_6 Am_negConst_6.1) (Value.int.inj le3).symm (by decide) rfl ⟨(elem_in (eqv_i (Term.int_eval (6)) (Cond.before_iff.mp (hsets _ (List.mem_of_getElem? (i := 161) rfl)))) em_negConst_6 (Term.int_eval (0)) Am_negConst_6.1).2, trivial⟩
  have B_negConst_6 : own_Big s s.heap o_negConst_6 (-1 : Int32) (if (6 : Int32) = (1 : Int32) then (1 : Int32) else (0 : Int32)) := ⟨m_negConst_6, cm_negConst_6.cls, _, _, E_negConst_6, F_negConst_6, G_negConst_6, V_negConst_6, Or.inl ⟨rfl, _, rfl, rfl⟩⟩
  have el_negConst_6 := (elem_in ev_negConst_6 ev_negConst (Term.int_eval (6)) A_negConst.1).2
  obtain ⟨o_negConst_7, ev_negConst_7⟩ := exa_v (Cond.before_iff.mp (hsets _ (List.mem_of_getElem? (i := 162) rfl)))
  have E_negConst_7 : Exa s s.heap o_negConst_7 "java/math/BigInteger" := Exa.start ev_negConst_7 (Cond.before_iff.mp (hsets _ (List.mem_of_getElem? (i := 162) rfl)))
  have F_negConst_7 : Fld s s.heap o_negConst_7 "java/math/BigInteger" "signum" "I" (.int (-1 : Int32)) := Fld.start ((fld_at ev_negConst_7).symm.trans (eqv_i (Term.int_eval (-1)) (Cond.before_iff.mp (hsets _ (List.mem_of_getElem? (i := 163) rfl)))))
  have hm_negConst_7 := (Cond.before_iff.mp (hsets _ (List.mem_of_getElem? (i := 164) rfl)))
  obtain ⟨m_negConst_7, em_negConst_7⟩ := arr_v hm_negConst_7
  have G_negConst_7 : Fld s s.heap o_negConst_7 "java/math/BigInteger" "mag" "[I" (.ref m_negConst_7) := Fld.start ((fld_at ev_negConst_7).symm.trans em_negConst_7)
  obtain ⟨cm_negConst_7, Am_negConst_7⟩ := Arr.start em_negConst_7 hm_negConst_7
  have lm_negConst_7 := eqv_i (Term.int_eval (1)) (Cond.before_iff.mp (hsets _ (List.mem_of_getElem? (i := 166) rfl)))
  obtain ⟨_, _, le1, le2, le3⟩ := Term.length_spec lm_negConst_7
  cases em_negConst_7.symm.trans le1
  cases (State.arrayAt?_spec le2).1.symm.trans Am_negConst_7.1
  have V_negConst_7 : Arv s s.heap m_negConst_7 cm_negConst_7.cls .int (1 : Int32) [.int (7 : Int32)] (.int (0 : Int32)) := Arv.start hfit Am_negConst_7 (own_len31 lm_negConst_7 em_negConst_7 Am_negConst_7.1) (Value.int.inj le3).symm (by decide) rfl ⟨(elem_in (eqv_i (Term.int_eval (7)) (Cond.before_iff.mp (hsets _ (List.mem_of_getElem? (i := 167) rfl)))) em_negConst_7 (Term.int_eval (0)) Am_negConst_7.1).2, trivial⟩
  have B_negConst_7 : own_Big s s.heap o_negConst_7 (-1 : Int32) (if (7 : Int32) = (1 : Int32) then (1 : Int32) else (0 : Int32)) := ⟨m_negConst_7, cm_negConst_7.cls, _, _, E_negConst_7, F_negConst_7, G_negConst_7, V_negConst_7, Or.inl ⟨rfl, _, rfl, rfl⟩⟩
  have el_negConst_7 := (elem_in ev_negConst_7 ev_negConst (Term.int_eval (7)) A_negConst.1).2
  obtain ⟨o_negConst_8, ev_negConst_8⟩ := exa_v (Cond.before_iff.mp (hsets _ (List.mem_of_getElem? (i := 168) rfl)))
  have E_negConst_8 : Exa s s.heap o_negConst_8 "java/math/BigInteger" := Exa.start ev_negConst_8 (Cond.before_iff.mp (hsets _ (List.mem_of_getElem? (i := 168) rfl)))
  have F_negConst_8 : Fld s s.heap o_negConst_8 "java/math/BigInteger" "signum" "I" (.int (-1 : Int32)) := Fld.start ((fld_at ev_negConst_8).symm.trans (eqv_i (Term.int_eval (-1)) (Cond.before_iff.mp (hsets _ (List.mem_of_getElem? (i := 169) rfl)))))
  have hm_negConst_8 := (Cond.before_iff.mp (hsets _ (List.mem_of_getElem? (i := 170) rfl)))
  obtain ⟨m_negConst_8, em_negConst_8⟩ := arr_v hm_negConst_8
  have G_negConst_8 : Fld s s.heap o_negConst_8 "java/math/BigInteger" "mag" "[I" (.ref m_negConst_8) := Fld.start ((fld_at ev_negConst_8).symm.trans em_negConst_8)
  obtain ⟨cm_negConst_8, Am_negConst_8⟩ := Arr.start em_negConst_8 hm_negConst_8
  have lm_negConst_8 := eqv_i (Term.int_eval (1)) (Cond.before_iff.mp (hsets _ (List.mem_of_getElem? (i := 172) rfl)))
  obtain ⟨_, _, le1, le2, le3⟩ := Term.length_spec lm_negConst_8
  cases em_negConst_8.symm.trans le1
  cases (State.arrayAt?_spec le2).1.symm.trans Am_negConst_8.1
  have V_negConst_8 : Arv s s.heap m_negConst_8 cm_negConst_8.cls .int (1 : Int32) [.int (8 : Int32)] (.int (0 : Int32)) := Arv.start hfit Am_negConst_8 (own_len31 lm_negConst_8 em_negConst_8 Am_negConst_8.1) (Value.int.inj le3).symm (by decide) rfl ⟨(elem_in (eqv_i (Term.int_eval (8)) (Cond.before_iff.mp (hsets _ (List.mem_of_getElem? (i := 173) rfl)))) em_negConst_8 (Term.int_eval (0)) Am_negConst_8.1).2, trivial⟩
  have B_negConst_8 : own_Big s s.heap o_negConst_8 (-1 : Int32) (if (8 : Int32) = (1 : Int32) then (1 : Int32) else (0 : Int32)) := ⟨m_negConst_8, cm_negConst_8.cls, _, _, E_negConst_8, F_negConst_8, G_negConst_8, V_negConst_8, Or.inl ⟨rfl, _, rfl, rfl⟩⟩
  have el_negConst_8 := (elem_in ev_negConst_8 ev_negConst (Term.int_eval (8)) A_negConst.1).2
  obtain ⟨o_negConst_9, ev_negConst_9⟩ := exa_v (Cond.before_iff.mp (hsets _ (List.mem_of_getElem? (i := 174) rfl)))
  have E_negConst_9 : Exa s s.heap o_negConst_9 "java/math/BigInteger" := Exa.start ev_negConst_9 (Cond.before_iff.mp (hsets _ (List.mem_of_getElem? (i := 174) rfl)))
  have F_negConst_9 : Fld s s.heap o_negConst_9 "java/math/BigInteger" "signum" "I" (.int (-1 : Int32)) := Fld.start ((fld_at ev_negConst_9).symm.trans (eqv_i (Term.int_eval (-1)) (Cond.before_iff.mp (hsets _ (List.mem_of_getElem? (i := 175) rfl)))))
  have hm_negConst_9 := (Cond.before_iff.mp (hsets _ (List.mem_of_getElem? (i := 176) rfl)))
  obtain ⟨m_negConst_9, em_negConst_9⟩ := arr_v hm_negConst_9
  have G_negConst_9 : Fld s s.heap o_negConst_9 "java/math/BigInteger" "mag" "[I" (.ref m_negConst_9) := Fld.start ((fld_at ev_negConst_9).symm.trans em_negConst_9)
  obtain ⟨cm_negConst_9, Am_negConst_9⟩ := Arr.start em_negConst_9 hm_negConst_9
  have lm_negConst_9 := eqv_i (Term.int_eval (1)) (Cond.before_iff.mp (hsets _ (List.mem_of_getElem? (i := 178) rfl)))
  obtain ⟨_, _, le1, le2, le3⟩ := Term.length_spec lm_negConst_9
  cases em_negConst_9.symm.trans le1
  cases (State.arrayAt?_spec le2).1.symm.trans Am_negConst_9.1
  have V_negConst_9 : Arv s s.heap m_negConst_9 cm_negConst_9.cls .int (1 : Int32) [.int (9 : Int32)] (.int (0 : Int32)) := Arv.start hfit Am_negConst_9 (own_len31 lm_negConst_9 em_negConst_9 Am_negConst_9.1) (Value.int.inj le3).symm (by decide) rfl ⟨(elem_in (eqv_i (Term.int_eval (9)) (Cond.before_iff.mp (hsets _ (List.mem_of_getElem? (i := 179) rfl)))) em_negConst_9 (Term.int_eval (0)) Am_negConst_9.1).2, trivial⟩
  have B_negConst_9 : own_Big s s.heap o_negConst_9 (-1 : Int32) (if (9 : Int32) = (1 : Int32) then (1 : Int32) else (0 : Int32)) := ⟨m_negConst_9, cm_negConst_9.cls, _, _, E_negConst_9, F_negConst_9, G_negConst_9, V_negConst_9, Or.inl ⟨rfl, _, rfl, rfl⟩⟩
  have el_negConst_9 := (elem_in ev_negConst_9 ev_negConst (Term.int_eval (9)) A_negConst.1).2
  obtain ⟨o_negConst_10, ev_negConst_10⟩ := exa_v (Cond.before_iff.mp (hsets _ (List.mem_of_getElem? (i := 180) rfl)))
  have E_negConst_10 : Exa s s.heap o_negConst_10 "java/math/BigInteger" := Exa.start ev_negConst_10 (Cond.before_iff.mp (hsets _ (List.mem_of_getElem? (i := 180) rfl)))
  have F_negConst_10 : Fld s s.heap o_negConst_10 "java/math/BigInteger" "signum" "I" (.int (-1 : Int32)) := Fld.start ((fld_at ev_negConst_10).symm.trans (eqv_i (Term.int_eval (-1)) (Cond.before_iff.mp (hsets _ (List.mem_of_getElem? (i := 181) rfl)))))
  have hm_negConst_10 := (Cond.before_iff.mp (hsets _ (List.mem_of_getElem? (i := 182) rfl)))
  obtain ⟨m_negConst_10, em_negConst_10⟩ := arr_v hm_negConst_10
  have G_negConst_10 : Fld s s.heap o_negConst_10 "java/math/BigInteger" "mag" "[I" (.ref m_negConst_10) := Fld.start ((fld_at ev_negConst_10).symm.trans em_negConst_10)
  obtain ⟨cm_negConst_10, Am_negConst_10⟩ := Arr.start em_negConst_10 hm_negConst_10
  have lm_negConst_10 := eqv_i (Term.int_eval (1)) (Cond.before_iff.mp (hsets _ (List.mem_of_getElem? (i := 184) rfl)))
  obtain ⟨_, _, le1, le2, le3⟩ := Term.length_spec lm_negConst_10
  cases em_negConst_10.symm.trans le1
  cases (State.arrayAt?_spec le2).1.symm.trans Am_negConst_10.1
  have V_negConst_10 : Arv s s.heap m_negConst_10 cm_negConst_10.cls .int (1 : Int32) [.int (10 : Int32)] (.int (0 : Int32)) := Arv.start hfit Am_negConst_10 (own_len31 lm_negConst_10 em_negConst_10 Am_negConst_10.1) (Value.int.inj le3).symm (by decide) rfl ⟨(elem_in (eqv_i (Term.int_eval (10)) (Cond.before_iff.mp (hsets _ (List.mem_of_getElem? (i := 185) rfl)))) em_negConst_10 (Term.int_eval (0)) Am_negConst_10.1).2, trivial⟩
  have B_negConst_10 : own_Big s s.heap o_negConst_10 (-1 : Int32) (if (10 : Int32) = (1 : Int32) then (1 : Int32) else (0 : Int32)) := ⟨m_negConst_10, cm_negConst_10.cls, _, _, E_negConst_10, F_negConst_10, G_negConst_10, V_negConst_10, Or.inl ⟨rfl, _, rfl, rfl⟩⟩
  have el_negConst_10 := (elem_in ev_negConst_10 ev_negConst (Term.int_eval (10)) A_negConst.1).2
  obtain ⟨o_negConst_11, ev_negConst_11⟩ := exa_v (Cond.before_iff.mp (hsets _ (List.mem_of_getElem? (i := 186) rfl)))
  have E_negConst_11 : Exa s s.heap o_negConst_11 "java/math/BigInteger" := Exa.start ev_negConst_11 (Cond.before_iff.mp (hsets _ (List.mem_of_getElem? (i := 186) rfl)))
  have F_negConst_11 : Fld s s.heap o_negConst_11 "java/math/BigInteger" "signum" "I" (.int (-1 : Int32)) := Fld.start ((fld_at ev_negConst_11).symm.trans (eqv_i (Term.int_eval (-1)) (Cond.before_iff.mp (hsets _ (List.mem_of_getElem? (i := 187) rfl)))))
  have hm_negConst_11 := (Cond.before_iff.mp (hsets _ (List.mem_of_getElem? (i := 188) rfl)))
  obtain ⟨m_negConst_11, em_negConst_11⟩ := arr_v hm_negConst_11
  have G_negConst_11 : Fld s s.heap o_negConst_11 "java/math/BigInteger" "mag" "[I" (.ref m_negConst_11) := Fld.start ((fld_at ev_negConst_11).symm.trans em_negConst_11)
  obtain ⟨cm_negConst_11, Am_negConst_11⟩ := Arr.start em_negConst_11 hm_negConst_11
  have lm_negConst_11 := eqv_i (Term.int_eval (1)) (Cond.before_iff.mp (hsets _ (List.mem_of_getElem? (i := 190) rfl)))
  obtain ⟨_, _, le1, le2, le3⟩ := Term.length_spec lm_negConst_11
  cases em_negConst_11.symm.trans le1
  cases (State.arrayAt?_spec le2).1.symm.trans Am_negConst_11.1
  have V_negConst_11 : Arv s s.heap m_negConst_11 cm_negConst_11.cls .int (1 : Int32) [.int (11 : Int32)] (.int (0 : Int32)) := Arv.start hfit Am_negConst_11 (own_len31 lm_negConst_11 em_negConst_11 Am_negConst_11.1) (Value.int.inj le3).symm (by decide) rfl ⟨(elem_in (eqv_i (Term.int_eval (11)) (Cond.before_iff.mp (hsets _ (List.mem_of_getElem? (i := 191) rfl)))) em_negConst_11 (Term.int_eval (0)) Am_negConst_11.1).2, trivial⟩
  have B_negConst_11 : own_Big s s.heap o_negConst_11 (-1 : Int32) (if (11 : Int32) = (1 : Int32) then (1 : Int32) else (0 : Int32)) := ⟨m_negConst_11, cm_negConst_11.cls, _, _, E_negConst_11, F_negConst_11, G_negConst_11, V_negConst_11, Or.inl ⟨rfl, _, rfl, rfl⟩⟩
  have el_negConst_11 := (elem_in ev_negConst_11 ev_negConst (Term.int_eval (11)) A_negConst.1).2
  obtain ⟨o_negConst_12, ev_negConst_12⟩ := exa_v (Cond.before_iff.mp (hsets _ (List.mem_of_getElem? (i := 192) rfl)))
  have E_negConst_12 : Exa s s.heap o_negConst_12 "java/math/BigInteger" := Exa.start ev_negConst_12 (Cond.before_iff.mp (hsets _ (List.mem_of_getElem? (i := 192) rfl)))
  have F_negConst_12 : Fld s s.heap o_negConst_12 "java/math/BigInteger" "signum" "I" (.int (-1 : Int32)) := Fld.start ((fld_at ev_negConst_12).symm.trans (eqv_i (Term.int_eval (-1)) (Cond.before_iff.mp (hsets _ (List.mem_of_getElem? (i := 193) rfl)))))
  have hm_negConst_12 := (Cond.before_iff.mp (hsets _ (List.mem_of_getElem? (i := 194) rfl)))
  obtain ⟨m_negConst_12, em_negConst_12⟩ := arr_v hm_negConst_12
  have G_negConst_12 : Fld s s.heap o_negConst_12 "java/math/BigInteger" "mag" "[I" (.ref m_negConst_12) := Fld.start ((fld_at ev_negConst_12).symm.trans em_negConst_12)
  obtain ⟨cm_negConst_12, Am_negConst_12⟩ := Arr.start em_negConst_12 hm_negConst_12
  have lm_negConst_12 := eqv_i (Term.int_eval (1)) (Cond.before_iff.mp (hsets _ (List.mem_of_getElem? (i := 196) rfl)))
  obtain ⟨_, _, le1, le2, le3⟩ := Term.length_spec lm_negConst_12
  cases em_negConst_12.symm.trans le1
  cases (State.arrayAt?_spec le2).1.symm.trans Am_negConst_12.1
  have V_negConst_12 : Arv s s.heap m_negConst_12 cm_negConst_12.cls .int (1 : Int32) [.int (12 : Int32)] (.int (0 : Int32)) := Arv.start hfit Am_negConst_12 (own_len31 lm_negConst_12 em_negConst_12 Am_negConst_12.1) (Value.int.inj le3).symm (by decide) rfl ⟨(elem_in (eqv_i (Term.int_eval (12)) (Cond.before_iff.mp (hsets _ (List.mem_of_getElem? (i := 197) rfl)))) em_negConst_12 (Term.int_eval (0)) Am_negConst_12.1).2, trivial⟩
  have B_negConst_12 : own_Big s s.heap o_negConst_12 (-1 : Int32) (if (12 : Int32) = (1 : Int32) then (1 : Int32) else (0 : Int32)) := ⟨m_negConst_12, cm_negConst_12.cls, _, _, E_negConst_12, F_negConst_12, G_negConst_12, V_negConst_12, Or.inl ⟨rfl, _, rfl, rfl⟩⟩
  have el_negConst_12 := (elem_in ev_negConst_12 ev_negConst (Term.int_eval (12)) A_negConst.1).2
  obtain ⟨o_negConst_13, ev_negConst_13⟩ := exa_v (Cond.before_iff.mp (hsets _ (List.mem_of_getElem? (i := 198) rfl)))
  have E_negConst_13 : Exa s s.heap o_negConst_13 "java/math/BigInteger" := Exa.start ev_negConst_13 (Cond.before_iff.mp (hsets _ (List.mem_of_getElem? (i := 198) rfl)))
  have F_negConst_13 : Fld s s.heap o_negConst_13 "java/math/BigInteger" "signum" "I" (.int (-1 : Int32)) := Fld.start ((fld_at ev_negConst_13).symm.trans (eqv_i (Term.int_eval (-1)) (Cond.before_iff.mp (hsets _ (List.mem_of_getElem? (i := 199) rfl)))))
  have hm_negConst_13 := (Cond.before_iff.mp (hsets _ (List.mem_of_getElem? (i := 200) rfl)))
  obtain ⟨m_negConst_13, em_negConst_13⟩ := arr_v hm_negConst_13
  have G_negConst_13 : Fld s s.heap o_negConst_13 "java/math/BigInteger" "mag" "[I" (.ref m_negConst_13) := Fld.start ((fld_at ev_negConst_13).symm.trans em_negConst_13)
  obtain ⟨cm_negConst_13, Am_negConst_13⟩ := Arr.start em_negConst_13 hm_negConst_13
  have lm_negConst_13 := eqv_i (Term.int_eval (1)) (Cond.before_iff.mp (hsets _ (List.mem_of_getElem? (i := 202) rfl)))
  obtain ⟨_, _, le1, le2, le3⟩ := Term.length_spec lm_negConst_13
  cases em_negConst_13.symm.trans le1
  cases (State.arrayAt?_spec le2).1.symm.trans Am_negConst_13.1
  have V_negConst_13 : Arv s s.heap m_negConst_13 cm_negConst_13.cls .int (1 : Int32) [.int (13 : Int32)] (.int (0 : Int32)) := Arv.start hfit Am_negConst_13 (own_len31 lm_negConst_13 em_negConst_13 Am_negConst_13.1) (Value.int.inj le3).symm (by decide) rfl ⟨(elem_in (eqv_i (Term.int_eval (13)) (Cond.before_iff.mp (hsets _ (List.mem_of_getElem? (i := 203) rfl)))) em_negConst_13 (Term.int_eval (0)) Am_negConst_13.1).2, trivial⟩
  have B_negConst_13 : own_Big s s.heap o_negConst_13 (-1 : Int32) (if (13 : Int32) = (1 : Int32) then (1 : Int32) else (0 : Int32)) := ⟨m_negConst_13, cm_negConst_13.cls, _, _, E_negConst_13, F_negConst_13, G_negConst_13, V_negConst_13, Or.inl ⟨rfl, _, rfl, rfl⟩⟩
  have el_negConst_13 := (elem_in ev_negConst_13 ev_negConst (Term.int_eval (13)) A_negConst.1).2
  obtain ⟨o_negConst_14, ev_negConst_14⟩ := exa_v (Cond.before_iff.mp (hsets _ (List.mem_of_getElem? (i := 204) rfl)))
  have E_negConst_14 : Exa s s.heap o_negConst_14 "java/math/BigInteger" := Exa.start ev_negConst_14 (Cond.before_iff.mp (hsets _ (List.mem_of_getElem? (i := 204) rfl)))
  have F_negConst_14 : Fld s s.heap o_negConst_14 "java/math/BigInteger" "signum" "I" (.int (-1 : Int32)) := Fld.start ((fld_at ev_negConst_14).symm.trans (eqv_i (Term.int_eval (-1)) (Cond.before_iff.mp (hsets _ (List.mem_of_getElem? (i := 205) rfl)))))
  have hm_negConst_14 := (Cond.before_iff.mp (hsets _ (List.mem_of_getElem? (i := 206) rfl)))
  obtain ⟨m_negConst_14, em_negConst_14⟩ := arr_v hm_negConst_14
  have G_negConst_14 : Fld s s.heap o_negConst_14 "java/math/BigInteger" "mag" "[I" (.ref m_negConst_14) := Fld.start ((fld_at ev_negConst_14).symm.trans em_negConst_14)
  obtain ⟨cm_negConst_14, Am_negConst_14⟩ := Arr.start em_negConst_14 hm_negConst_14
  have lm_negConst_14 := eqv_i (Term.int_eval (1)) (Cond.before_iff.mp (hsets _ (List.mem_of_getElem? (i := 208) rfl)))
  obtain ⟨_, _, le1, le2, le3⟩ := Term.length_spec lm_negConst_14
  cases em_negConst_14.symm.trans le1
  cases (State.arrayAt?_spec le2).1.symm.trans Am_negConst_14.1
  have V_negConst_14 : Arv s s.heap m_negConst_14 cm_negConst_14.cls .int (1 : Int32) [.int (14 : Int32)] (.int (0 : Int32)) := Arv.start hfit Am_negConst_14 (own_len31 lm_negConst_14 em_negConst_14 Am_negConst_14.1) (Value.int.inj le3).symm (by decide) rfl ⟨(elem_in (eqv_i (Term.int_eval (14)) (Cond.before_iff.mp (hsets _ (List.mem_of_getElem? (i := 209) rfl)))) em_negConst_14 (Term.int_eval (0)) Am_negConst_14.1).2, trivial⟩
  have B_negConst_14 : own_Big s s.heap o_negConst_14 (-1 : Int32) (if (14 : Int32) = (1 : Int32) then (1 : Int32) else (0 : Int32)) := ⟨m_negConst_14, cm_negConst_14.cls, _, _, E_negConst_14, F_negConst_14, G_negConst_14, V_negConst_14, Or.inl ⟨rfl, _, rfl, rfl⟩⟩
  have el_negConst_14 := (elem_in ev_negConst_14 ev_negConst (Term.int_eval (14)) A_negConst.1).2
  obtain ⟨o_negConst_15, ev_negConst_15⟩ := exa_v (Cond.before_iff.mp (hsets _ (List.mem_of_getElem? (i := 210) rfl)))
  have E_negConst_15 : Exa s s.heap o_negConst_15 "java/math/BigInteger" := Exa.start ev_negConst_15 (Cond.before_iff.mp (hsets _ (List.mem_of_getElem? (i := 210) rfl)))
  have F_negConst_15 : Fld s s.heap o_negConst_15 "java/math/BigInteger" "signum" "I" (.int (-1 : Int32)) := Fld.start ((fld_at ev_negConst_15).symm.trans (eqv_i (Term.int_eval (-1)) (Cond.before_iff.mp (hsets _ (List.mem_of_getElem? (i := 211) rfl)))))
  have hm_negConst_15 := (Cond.before_iff.mp (hsets _ (List.mem_of_getElem? (i := 212) rfl)))
  obtain ⟨m_negConst_15, em_negConst_15⟩ := arr_v hm_negConst_15
  have G_negConst_15 : Fld s s.heap o_negConst_15 "java/math/BigInteger" "mag" "[I" (.ref m_negConst_15) := Fld.start ((fld_at ev_negConst_15).symm.trans em_negConst_15)
  obtain ⟨cm_negConst_15, Am_negConst_15⟩ := Arr.start em_negConst_15 hm_negConst_15
  have lm_negConst_15 := eqv_i (Term.int_eval (1)) (Cond.before_iff.mp (hsets _ (List.mem_of_getElem? (i := 214) rfl)))
  obtain ⟨_, _, le1, le2, le3⟩ := Term.length_spec lm_negConst_15
  cases em_negConst_15.symm.trans le1
  cases (State.arrayAt?_spec le2).1.symm.trans Am_negConst_15.1
  have V_negConst_15 : Arv s s.heap m_negConst_15 cm_negConst_15.cls .int (1 : Int32) [.int (15 : Int32)] (.int (0 : Int32)) := Arv.start hfit Am_negConst_15 (own_len31 lm_negConst_15 em_negConst_15 Am_negConst_15.1) (Value.int.inj le3).symm (by decide) rfl ⟨(elem_in (eqv_i (Term.int_eval (15)) (Cond.before_iff.mp (hsets _ (List.mem_of_getElem? (i := 215) rfl)))) em_negConst_15 (Term.int_eval (0)) Am_negConst_15.1).2, trivial⟩
  have B_negConst_15 : own_Big s s.heap o_negConst_15 (-1 : Int32) (if (15 : Int32) = (1 : Int32) then (1 : Int32) else (0 : Int32)) := ⟨m_negConst_15, cm_negConst_15.cls, _, _, E_negConst_15, F_negConst_15, G_negConst_15, V_negConst_15, Or.inl ⟨rfl, _, rfl, rfl⟩⟩
  have el_negConst_15 := (elem_in ev_negConst_15 ev_negConst (Term.int_eval (15)) A_negConst.1).2
  obtain ⟨o_negConst_16, ev_negConst_16⟩ := exa_v (Cond.before_iff.mp (hsets _ (List.mem_of_getElem? (i := 216) rfl)))
  have E_negConst_16 : Exa s s.heap o_negConst_16 "java/math/BigInteger" := Exa.start ev_negConst_16 (Cond.before_iff.mp (hsets _ (List.mem_of_getElem? (i := 216) rfl)))
  have F_negConst_16 : Fld s s.heap o_negConst_16 "java/math/BigInteger" "signum" "I" (.int (-1 : Int32)) := Fld.start ((fld_at ev_negConst_16).symm.trans (eqv_i (Term.int_eval (-1)) (Cond.before_iff.mp (hsets _ (List.mem_of_getElem? (i := 217) rfl)))))
  have hm_negConst_16 := (Cond.before_iff.mp (hsets _ (List.mem_of_getElem? (i := 218) rfl)))
  obtain ⟨m_negConst_16, em_negConst_16⟩ := arr_v hm_negConst_16
  have G_negConst_16 : Fld s s.heap o_negConst_16 "java/math/BigInteger" "mag" "[I" (.ref m_negConst_16) := Fld.start ((fld_at ev_negConst_16).symm.trans em_negConst_16)
  obtain ⟨cm_negConst_16, Am_negConst_16⟩ := Arr.start em_negConst_16 hm_negConst_16
  have lm_negConst_16 := eqv_i (Term.int_eval (1)) (Cond.before_iff.mp (hsets _ (List.mem_of_getElem? (i := 220) rfl)))
  obtain ⟨_, _, le1, le2, le3⟩ := Term.length_spec lm_negConst_16
  cases em_negConst_16.symm.trans le1
  cases (State.arrayAt?_spec le2).1.symm.trans Am_negConst_16.1
  have V_negConst_16 : Arv s s.heap m_negConst_16 cm_negConst_16.cls .int (1 : Int32) [.int (16 : Int32)] (.int (0 : Int32)) := Arv.start hfit Am_negConst_16 (own_len31 lm_negConst_16 em_negConst_16 Am_negConst_16.1) (Value.int.inj le3).symm (by decide) rfl ⟨(elem_in (eqv_i (Term.int_eval (16)) (Cond.before_iff.mp (hsets _ (List.mem_of_getElem? (i := 221) rfl)))) em_negConst_16 (Term.int_eval (0)) Am_negConst_16.1).2, trivial⟩
  have B_negConst_16 : own_Big s s.heap o_negConst_16 (-1 : Int32) (if (16 : Int32) = (1 : Int32) then (1 : Int32) else (0 : Int32)) := ⟨m_negConst_16, cm_negConst_16.cls, _, _, E_negConst_16, F_negConst_16, G_negConst_16, V_negConst_16, Or.inl ⟨rfl, _, rfl, rfl⟩⟩
  have el_negConst_16 := (elem_in ev_negConst_16 ev_negConst (Term.int_eval (16)) A_negConst.1).2
  have T_negConst : own_Tab s a_negConst c_negConst (-1 : Int32) := by
    refine ⟨A_negConst, sz_negConst, fun j h1 h2 => ?_⟩
    have q := own_cases16 j h1 h2
    rcases q with rfl | rfl | rfl | rfl | rfl | rfl | rfl | rfl | rfl | rfl | rfl | rfl | rfl | rfl | rfl | rfl
    · exact ⟨_, el_negConst_1, B_negConst_1⟩
    · exact ⟨_, el_negConst_2, B_negConst_2⟩
    · exact ⟨_, el_negConst_3, B_negConst_3⟩
    · exact ⟨_, el_negConst_4, B_negConst_4⟩
    · exact ⟨_, el_negConst_5, B_negConst_5⟩
    · exact ⟨_, el_negConst_6, B_negConst_6⟩
    · exact ⟨_, el_negConst_7, B_negConst_7⟩
    · exact ⟨_, el_negConst_8, B_negConst_8⟩
    · exact ⟨_, el_negConst_9, B_negConst_9⟩
    · exact ⟨_, el_negConst_10, B_negConst_10⟩
    · exact ⟨_, el_negConst_11, B_negConst_11⟩
    · exact ⟨_, el_negConst_12, B_negConst_12⟩
    · exact ⟨_, el_negConst_13, B_negConst_13⟩
    · exact ⟨_, el_negConst_14, B_negConst_14⟩
    · exact ⟨_, el_negConst_15, B_negConst_15⟩
    · exact ⟨_, el_negConst_16, B_negConst_16⟩
  obtain ⟨o_ONE, ev_ONE⟩ := exa_v (Cond.before_iff.mp (hsets _ (List.mem_of_getElem? (i := 2) rfl)))
  have E_ONE : Exa s s.heap o_ONE "java/math/BigInteger" := Exa.start ev_ONE (Cond.before_iff.mp (hsets _ (List.mem_of_getElem? (i := 2) rfl)))
  have F_ONE : Fld s s.heap o_ONE "java/math/BigInteger" "signum" "I" (.int (1 : Int32)) := Fld.start ((fld_at ev_ONE).symm.trans (eqv_i (Term.int_eval (1)) (Cond.before_iff.mp (hsets _ (List.mem_of_getElem? (i := 3) rfl)))))
  have hm_ONE := (Cond.before_iff.mp (hsets _ (List.mem_of_getElem? (i := 4) rfl)))
  obtain ⟨m_ONE, em_ONE⟩ := arr_v hm_ONE
  have G_ONE : Fld s s.heap o_ONE "java/math/BigInteger" "mag" "[I" (.ref m_ONE) := Fld.start ((fld_at ev_ONE).symm.trans em_ONE)
  obtain ⟨cm_ONE, Am_ONE⟩ := Arr.start em_ONE hm_ONE
  have lm_ONE := eqv_i (Term.int_eval (1)) (Cond.before_iff.mp (hsets _ (List.mem_of_getElem? (i := 6) rfl)))
  obtain ⟨_, _, le1, le2, le3⟩ := Term.length_spec lm_ONE
  cases em_ONE.symm.trans le1
  cases (State.arrayAt?_spec le2).1.symm.trans Am_ONE.1
  have V_ONE : Arv s s.heap m_ONE cm_ONE.cls .int (1 : Int32) [.int (1 : Int32)] (.int (0 : Int32)) := Arv.start hfit Am_ONE (own_len31 lm_ONE em_ONE Am_ONE.1) (Value.int.inj le3).symm (by decide) rfl ⟨(elem_in (eqv_i (Term.int_eval (1)) (Cond.before_iff.mp (hsets _ (List.mem_of_getElem? (i := 7) rfl)))) em_ONE (Term.int_eval (0)) Am_ONE.1).2, trivial⟩
  have B_ONE : own_Big s s.heap o_ONE (1 : Int32) (if (1 : Int32) = (1 : Int32) then (1 : Int32) else (0 : Int32)) := ⟨m_ONE, cm_ONE.cls, _, _, E_ONE, F_ONE, G_ONE, V_ONE, Or.inl ⟨rfl, _, rfl, rfl⟩⟩
  have S_ONE : Sta s s.heap "java/math/BigInteger" "ONE" "Ljava/math/BigInteger;" (.ref o_ONE) := Sta.start ev_ONE (Or.inl (hsets _ (List.mem_of_getElem? (i := 1) rfl)))
  obtain ⟨n, o, h1, h2, h3, _, L, rfl, ⟨rfl, N⟩, hq⟩ := rm0 l s _ hw tables_1 i0 _ i1 i2 i3 i4 _ _ _ _ _ _ _ _ o_ONE m_ONE a_posConst a_negConst cm_ONE.cls c_posConst c_negConst s.heap s.heap.size (Old.start s) S_ONE E_ONE F_ONE G_ONE V_ONE S_posConst S_negConst T_posConst T_negConst rfl (own_cases5 _ (own_mod i0 5 (by decide))) rfl rfl rfl rfl rfl rfl rfl rfl p e ha hc hk s m _ below hf ((Spec.applies_iff_loose hf).mp happ).1 ⟨rfl, State.Warmed39.refl s, rfl⟩ trivial
  refine ⟨n, _, h1, h2, h3, hpost _ _ _ _ _ _ ⟨Cond.after_iff.mpr rfl, Cond.after_iff.mpr (eq_i res_at (Term.int_eval (1)) rfl), trivial⟩ ⟨hq.1, hq.2.1, (hq.2.2.sift fun y hy => Or.inr (N y hy)).mono (by decide) (by decide)⟩⟩
theorem main_1_1 : Claimed_1_1 := comes_1 fun _ _ _ _ _ _ h hF => ⟨h.1, hF⟩
theorem main_1_2 : Claimed_1_2 := comes_1 fun _ _ _ _ _ _ h hF => ⟨h.2.1, hF⟩
end Jvm.Pilot.@@N@@
namespace Jvm.Pilot.@@N@@
open Jvm Jvm.ClassFile Sem Op Lib Jvm.Free Jvm.Stand Jvm.Pilot.@@N@@.Jvm.D
/-! MADE BY PROGRAM (witnessworld.py) out of the Statement's table words and the real class files: 13 classes; the members and pool entries that the words name. The judged class is class 1, her method 1. -/
namespace start1
open Jvm.ClassFile
def u (s : String) : CpInfo := .utf8 (stringToUtf16 s)
/-- a pool by its gaps: so many unusable entries, then the entry; so many at the end -/
def gap : Nat → List CpInfo → List CpInfo
  | 0, r => r
  | n + 1, r => .unusable :: gap n r
def poolList (es : List (Nat × CpInfo)) (last : Nat) : List CpInfo := es.foldr (fun e r => gap e.1 (e.2 :: r)) (gap last [])
def pool (es : List (Nat × CpInfo)) (last : Nat) : Array CpInfo := ⟨poolList es last⟩
def fileOf (pool : Array CpInfo) (this : Nat) (attrs : Array Attribute := #[]) (ms : Array MethodInfo := #[]) (fl : Nat := 33) (sup : Nat := 0) (ifs : Array Nat := #[]) (fds : Array FieldInfo := #[]) : ClassFile where
  minorVersion := 0
  majorVersion := 65
  constantPool := pool
  accessFlags := fl
  thisClass := this
  superClass := sup
  interfaces := ifs
  fields := fds
  methods := ms
  attributes := attrs
def plain (name : String) (sup : Option ClassId) : Class where
  name := name
  kind := .ordinary
  loader := none
  accessFlags := 33
  super := sup
  interfaces := #[]
  cf := none
  fields := #[]
  methods := #[]
  instanceTypes := #[]
  staticTypes := #[]
  resolved := #[]
  callSites := []
  init := .initialized
  statics := none
  mirror := none

def pool0 : Array CpInfo := pool [(5, u "<init>"), (0, u "()V"), (1, .class_ 10), (1, u "java/lang/Object")] 113

def k0c0 : Code := { maxStack := 0, maxLocals := 1, code := object_method_1_code, exceptionTable := #[], attributes := #[] }
def k0m0 : Method := { name := "<init>", desc := "()V", sig := { parameters := [], returnType := none }, accessFlags := 1, code := some k0c0 }
/-- java/lang/Object -/
def k0 : Class := { plain "java/lang/Object" none with
  accessFlags := 33
  interfaces := #[]
  cf := some (fileOf pool0 8 #[] #[{ accessFlags := 1, nameIndex := 5, descriptorIndex := 6, attributes := #[] }] 33 0 #[] #[])
  fields := #[]
  methods := #[k0m0]
  instanceTypes := #[]
  staticTypes := #[]
  resolved := Array.replicate 124 none
  statics := none }

def pool1 : Array CpInfo := pool [(2, .class_ 4), (0, .nameAndType 5 6), (0, u "java/lang/Object"), (0, u "<init>"), (0, u "()V"), (0, .integer 2147483647), (0, .class_ 9), (0, u "com/example/liftwise/liftwise/eval/arithmetic/Solver$Sides"), (0, .methodref 8 3), (0, .methodref 12 13), (0, .class_ 14), (0, .nameAndType 15 16), (0, u "java/math/BigInteger"), (0, u "valueOf"), (0, u "(J)Ljava/math/BigInteger;"), (0, .methodref 8 18), (0, .nameAndType 19 20), (0, u "add"), (0, u "(Ljava/math/BigInteger;)V"), (0, .methodref 22 23), (0, .class_ 24), (0, .nameAndType 25 26), (0, u "com/example/liftwise/liftwise/eval/arithmetic/SidesIsExactPinLaw"), (0, u "lowerFine"), (0, u "(ZJ)Z"), (0, .methodref 22 28), (0, .nameAndType 29 26), (0, u "upperFine"), (0, .methodref 8 31), (0, .nameAndType 32 33), (0, u "isExact"), (0, u "()Z"), (0, .long 18446744073709551615), (3, u "law"), (0, u "(IJJJJ)Z")] 7

def k1m0 : Method := { name := "<init>", desc := "()V", sig := { parameters := [], returnType := none }, accessFlags := 1, code := none }
def k1c1 : Code := { maxStack := 4, maxLocals := 13, code := code, exceptionTable := #[], attributes := #[] }
def k1m1 : Method := { name := "law", desc := "(IJJJJ)Z", sig := { parameters := [.int, .long, .long, .long, .long], returnType := some .boolean }, accessFlags := 9, code := some k1c1 }
def k1c2 : Code := { maxStack := 4, maxLocals := 3, code := method_3_code, exceptionTable := #[], attributes := #[] }
def k1m2 : Method := { name := "lowerFine", desc := "(ZJ)Z", sig := { parameters := [.boolean, .long], returnType := some .boolean }, accessFlags := 10, code := some k1c2 }
def k1c3 : Code := { maxStack := 4, maxLocals := 3, code := method_4_code, exceptionTable := #[], attributes := #[] }
def k1m3 : Method := { name := "upperFine", desc := "(ZJ)Z", sig := { parameters := [.boolean, .long], returnType := some .boolean }, accessFlags := 10, code := some k1c3 }
/-- com/example/liftwise/liftwise/eval/arithmetic/SidesIsExactPinLaw -/
def k1 : Class := { plain "com/example/liftwise/liftwise/eval/arithmetic/SidesIsExactPinLaw" (some 0) with
  accessFlags := 49
  interfaces := #[]
  cf := some (fileOf pool1 22 #[] #[{ accessFlags := 1, nameIndex := 5, descriptorIndex := 6, attributes := #[] }, { accessFlags := 9, nameIndex := 38, descriptorIndex := 39, attributes := #[] }, { accessFlags := 10, nameIndex := 25, descriptorIndex := 26, attributes := #[] }, { accessFlags := 10, nameIndex := 29, descriptorIndex := 26, attributes := #[] }] 49 2 #[] #[])
  fields := #[]
  methods := #[k1m0, k1m1, k1m2, k1m3]
  instanceTypes := #[]
  staticTypes := #[]
  resolved := Array.replicate 47 none
  statics := none }

def pool2 : Array CpInfo := pool [(1, .methodref 2 3), (0, .class_ 4), (0, .nameAndType 5 6), (0, u "java/lang/Object"), (0, u "<init>"), (0, u "()V"), (0, .fieldref 8 9), (0, .class_ 10), (0, .nameAndType 11 12), (0, u "com/example/liftwise/liftwise/eval/arithmetic/Solver$Sides"), (0, u "lowerUnit"), (0, u "Z"), (0, .fieldref 8 14), (0, .nameAndType 15 12), (0, u "upperUnit"), (0, .methodref 17 18), (0, .class_ 19), (0, .nameAndType 20 21), (0, u "java/math/BigInteger"), (0, u "abs"), (0, u "()Ljava/math/BigInteger;"), (0, .fieldref 17 23), (0, .nameAndType 24 25), (0, u "ONE"), (0, u "Ljava/math/BigInteger;"), (0, .methodref 17 27), (0, .nameAndType 28 29), (0, u "equals"), (0, u "(Ljava/lang/Object;)Z"), (0, .methodref 17 31), (0, .nameAndType 32 33), (0, u "signum"), (0, u "()I"), (0, .fieldref 8 35), (0, .nameAndType 36 37), (0, u "lower"), (0, u "I"), (0, .fieldref 8 39), (0, .nameAndType 40 37), (0, u "upper"), (2, u "add"), (0, u "(Ljava/math/BigInteger;)V"), (2, u "()Z"), (2, u "isExact"), (3, .class_ 55), (0, u "com/example/liftwise/liftwise/eval/arithmetic/Solver")] 2

def k2c0 : Code := { maxStack := 2, maxLocals := 1, code := prog_74_method_1_code, exceptionTable := #[], attributes := #[] }
def k2m0 : Method := { name := "<init>", desc := "()V", sig := { parameters := [], returnType := none }, accessFlags := 0, code := some k2c0 }
def k2c1 : Code := { maxStack := 3, maxLocals := 3, code := prog_74_method_2_code, exceptionTable := #[], attributes := #[] }
def k2m1 : Method := { name := "add", desc := "(Ljava/math/BigInteger;)V", sig := { parameters := [(.object "java/math/BigInteger")], returnType := none }, accessFlags := 0, code := some k2c1 }
def k2c2 : Code := { maxStack := 1, maxLocals := 1, code := prog_74_method_5_code, exceptionTable := #[], attributes := #[] }
def k2m2 : Method := { name := "isExact", desc := "()Z", sig := { parameters := [], returnType := some .boolean }, accessFlags := 0, code := some k2c2 }
/-- com/example/liftwise/liftwise/eval/arithmetic/Solver$Sides -/
def k2 : Class := { plain "com/example/liftwise/liftwise/eval/arithmetic/Solver$Sides" (some 0) with
  accessFlags := 48
  interfaces := #[]
  cf := some (fileOf pool2 8 #[.nestHost 54] #[{ accessFlags := 0, nameIndex := 5, descriptorIndex := 6, attributes := #[] }, { accessFlags := 0, nameIndex := 43, descriptorIndex := 44, attributes := #[] }, { accessFlags := 0, nameIndex := 50, descriptorIndex := 47, attributes := #[] }] 48 2 #[] #[{ accessFlags := 2, nameIndex := 36, descriptorIndex := 37, attributes := #[] }, { accessFlags := 2, nameIndex := 40, descriptorIndex := 37, attributes := #[] }, { accessFlags := 2, nameIndex := 11, descriptorIndex := 12, attributes := #[] }, { accessFlags := 2, nameIndex := 15, descriptorIndex := 12, attributes := #[] }])
  fields := #[{ name := "lower", type := .int, accessFlags := 2, slot := 0, constantValue := 0 }, { name := "upper", type := .int, accessFlags := 2, slot := 1, constantValue := 0 }, { name := "lowerUnit", type := .boolean, accessFlags := 2, slot := 2, constantValue := 0 }, { name := "upperUnit", type := .boolean, accessFlags := 2, slot := 3, constantValue := 0 }]
  methods := #[k2m0, k2m1, k2m2]
  instanceTypes := #[.int, .int, .boolean, .boolean]
  staticTypes := #[]
  resolved := Array.replicate 58 none
  statics := none }

def pool3 : Array CpInfo := pool [(1, .class_ 2), (0, u "java/io/Serializable"), (0, .class_ 4), (0, u "java/lang/Object")] 2

/-- java/io/Serializable -/
def k3 : Class := { plain "java/io/Serializable" (some 0) with
  accessFlags := 1537
  interfaces := #[]
  cf := some (fileOf pool3 1 #[] #[] 1537 3 #[] #[])
  fields := #[]
  methods := #[]
  instanceTypes := #[]
  staticTypes := #[]
  resolved := Array.replicate 7 none
  statics := none }

def pool4 : Array CpInfo := pool [(1, .methodref 2 3), (0, .class_ 4), (0, .nameAndType 5 6), (0, u "java/lang/Object"), (0, u "<init>"), (0, u "()V"), (1, .class_ 10), (1, u "java/lang/Number"), (2, .class_ 14), (0, u "java/io/Serializable"), (0, u "serialVersionUID"), (0, u "J")] 20

def k4c0 : Code := { maxStack := 1, maxLocals := 1, code := jdk_18_method_1_code, exceptionTable := #[], attributes := #[] }
def k4m0 : Method := { name := "<init>", desc := "()V", sig := { parameters := [], returnType := none }, accessFlags := 1, code := some k4c0 }
/-- java/lang/Number -/
def k4 : Class := { plain "java/lang/Number" (some 0) with
  accessFlags := 1057
  interfaces := #[3]
  cf := some (fileOf pool4 8 #[] #[{ accessFlags := 1, nameIndex := 5, descriptorIndex := 6, attributes := #[] }] 1057 2 #[13] #[{ accessFlags := 26, nameIndex := 15, descriptorIndex := 16, attributes := #[] }])
  fields := #[{ name := "serialVersionUID", type := .long, accessFlags := 26, slot := 0, constantValue := 0 }]
  methods := #[k4m0]
  instanceTypes := #[]
  staticTypes := #[.long]
  resolved := Array.replicate 37 none
  statics := none }

def pool5 : Array CpInfo := pool [(1, .class_ 2), (0, u "java/lang/Comparable"), (0, .class_ 4), (0, u "java/lang/Object")] 7

/-- java/lang/Comparable -/
def k5 : Class := { plain "java/lang/Comparable" (some 0) with
  accessFlags := 1537
  interfaces := #[]
  cf := some (fileOf pool5 1 #[] #[] 1537 3 #[] #[])
  fields := #[]
  methods := #[]
  instanceTypes := #[]
  staticTypes := #[]
  resolved := Array.replicate 12 none
  statics := none }

def pool6 : Array CpInfo := pool [(3, .methodref 4 5), (0, .class_ 6), (0, .nameAndType 7 8), (0, u "java/lang/Number"), (0, u "<init>"), (0, u "()V"), (14, .class_ 25), (1, u "java/math/BigInteger"), (0, u "ZERO"), (0, u "Ljava/math/BigInteger;"), (0, .fieldref 23 29), (0, .nameAndType 30 31), (0, u "mag"), (0, u "[I"), (0, .fieldref 23 33), (0, .nameAndType 34 35), (0, u "signum"), (0, u "I"), (7, .integer 67108864), (30, u "()I"), (20, u "bitsPerDigit"), (0, u "[J"), (9, u "digitsPerInt"), (12, u "intRadix"), (55, .methodref 23 176), (0, .nameAndType 7 177), (0, u "([II)V"), (2, u "SMALL_PRIME_PRODUCT"), (56, u "valueOf"), (0, u "(J)Ljava/math/BigInteger;"), (21, u "ONE"), (2, u "equals"), (0, u "(Ljava/lang/Object;)Z"), (2, u "TWO"), (30, u "abs"), (12, u "$assertionsDisabled"), (0, u "Z"), (9, u "()Ljava/math/BigInteger;"), (22, .long 16), (1, .fieldref 23 348), (0, .nameAndType 349 350), (0, u "posConst"), (0, u "[Ljava/math/BigInteger;"), (0, .long 18446744073709551600), (1, .fieldref 23 354), (0, .nameAndType 355 350), (0, u "negConst"), (0, .methodref 23 357), (0, .nameAndType 7 358), (0, u "(J)V"), (35, .methodref 23 395), (0, .nameAndType 396 322), (0, u "negate"), (75, .class_ 474), (1, u "java/math/BigInteger$RecursiveOp"), (106, u "NEGATIVE_ONE"), (91, u "bnExpModThreshTable"), (72, u "lowestSetBitPlusTwo"), (2, u "bitLengthPlusOne"), (2, u "bitCountPlusOne"), (6, u "LOG_TWO"), (0, u "D"), (2, u "logCache"), (0, u "[D"), (13, u "NUM_ZEROS"), (2, u "ZEROS"), (0, u "Ljava/lang/String;"), (9, u "longRadix"), (5, u "digitsPerLong"), (22, u "powerCache"), (0, u "[[Ljava/math/BigInteger;"), (45, u "firstNonzeroIntNumPlusTwo"), (38, .class_ 909), (1, u "java/math/BigInteger$UnsafeHolder"), (141, u "TEN"), (106, u "serialPersistentFields"), (0, u "[Ljava/io/ObjectStreamField;"), (0, .class_ 1161), (0, u "java/lang/Comparable"), (0, u "LONG_MASK"), (0, u "J"), (1, u "MAX_MAG_LENGTH"), (0, u "PRIME_SEARCH_BIT_LENGTH_LIMIT"), (1, u "KARATSUBA_THRESHOLD"), (1, u "TOOM_COOK_THRESHOLD"), (1, u "KARATSUBA_SQUARE_THRESHOLD"), (1, u "TOOM_COOK_SQUARE_THRESHOLD"), (1, u "BURNIKEL_ZIEGLER_THRESHOLD"), (0, u "BURNIKEL_ZIEGLER_OFFSET"), (1, u "SCHOENHAGE_BASE_CONVERSION_THRESHOLD"), (1, u "MULTIPLY_SQUARE_THRESHOLD"), (0, u "MONTGOMERY_INTRINSIC_THRESHOLD"), (1, u "SMALL_PRIME_THRESHOLD"), (1, u "DEFAULT_PRIME_CERTAINTY"), (1, u "MAX_CONSTANT"), (3, u "serialVersionUID"), (338, .class_ 1532), (0, u "java/math/BigInteger$RecursiveOp$RecursiveSquare"), (0, .class_ 1534), (0, u "java/math/BigInteger$RecursiveOp$RecursiveMultiply")] 7

def k6c0 : Code := { maxStack := 2, maxLocals := 3, code := jdk_2097_method_25_code, exceptionTable := #[], attributes := #[] }
def k6m0 : Method := { name := "<init>", desc := "([II)V", sig := { parameters := [(.array .int), .int], returnType := none }, accessFlags := 0, code := some k6c0 }
def k6c1 : Code := { maxStack := 4, maxLocals := 2, code := jdk_2097_method_29_code, exceptionTable := #[], attributes := #[] }
def k6m1 : Method := { name := "valueOf", desc := "(J)Ljava/math/BigInteger;", sig := { parameters := [.long], returnType := some (.object "java/math/BigInteger") }, accessFlags := 9, code := some k6c1 }
def k6c2 : Code := { maxStack := 4, maxLocals := 4, code := jdk_2097_method_30_code, exceptionTable := #[], attributes := #[] }
def k6m2 : Method := { name := "<init>", desc := "(J)V", sig := { parameters := [.long], returnType := none }, accessFlags := 2, code := some k6c2 }
def k6c3 : Code := { maxStack := 1, maxLocals := 1, code := jdk_2097_method_79_code, exceptionTable := #[], attributes := #[] }
def k6m3 : Method := { name := "abs", desc := "()Ljava/math/BigInteger;", sig := { parameters := [], returnType := some (.object "java/math/BigInteger") }, accessFlags := 1, code := some k6c3 }
def k6c4 : Code := { maxStack := 4, maxLocals := 1, code := jdk_2097_method_80_code, exceptionTable := #[], attributes := #[] }
def k6m4 : Method := { name := "negate", desc := "()Ljava/math/BigInteger;", sig := { parameters := [], returnType := some (.object "java/math/BigInteger") }, accessFlags := 1, code := some k6c4 }
def k6c5 : Code := { maxStack := 1, maxLocals := 1, code := jdk_2097_method_81_code, exceptionTable := #[], attributes := #[] }
def k6m5 : Method := { name := "signum", desc := "()I", sig := { parameters := [], returnType := some .int }, accessFlags := 1, code := some k6c5 }
def k6c6 : Code := { maxStack := 3, maxLocals := 7, code := jdk_2097_method_124_code, exceptionTable := #[], attributes := #[] }
def k6m6 : Method := { name := "equals", desc := "(Ljava/lang/Object;)Z", sig := { parameters := [(.object "java/lang/Object")], returnType := some .boolean }, accessFlags := 1, code := some k6c6 }
/-- java/math/BigInteger -/
def k6 : Class := { plain "java/math/BigInteger" (some 4) with
  accessFlags := 33
  interfaces := #[5]
  cf := some (fileOf pool6 23 #[.nestMembers #[907, 472, 1531, 1533]] #[{ accessFlags := 0, nameIndex := 7, descriptorIndex := 177, attributes := #[] }, { accessFlags := 9, nameIndex := 237, descriptorIndex := 238, attributes := #[] }, { accessFlags := 2, nameIndex := 7, descriptorIndex := 358, attributes := #[] }, { accessFlags := 1, nameIndex := 298, descriptorIndex := 322, attributes := #[] }, { accessFlags := 1, nameIndex := 396, descriptorIndex := 322, attributes := #[] }, { accessFlags := 1, nameIndex := 34, descriptorIndex := 74, attributes := #[] }, { accessFlags := 1, nameIndex := 263, descriptorIndex := 264, attributes := #[] }] 33 4 #[1160] #[{ accessFlags := 16, nameIndex := 34, descriptorIndex := 35, attributes := #[] }, { accessFlags := 16, nameIndex := 30, descriptorIndex := 31, attributes := #[] }, { accessFlags := 2, nameIndex := 752, descriptorIndex := 35, attributes := #[] }, { accessFlags := 2, nameIndex := 749, descriptorIndex := 35, attributes := #[] }, { accessFlags := 2, nameIndex := 746, descriptorIndex := 35, attributes := #[] }, { accessFlags := 2, nameIndex := 868, descriptorIndex := 35, attributes := #[] }, { accessFlags := 24, nameIndex := 1162, descriptorIndex := 1163, attributes := #[] }, { accessFlags := 26, nameIndex := 1165, descriptorIndex := 35, attributes := #[] }, { accessFlags := 26, nameIndex := 1166, descriptorIndex := 35, attributes := #[] }, { accessFlags := 26, nameIndex := 1168, descriptorIndex := 35, attributes := #[] }, { accessFlags := 26, nameIndex := 1170, descriptorIndex := 35, attributes := #[] }, { accessFlags := 26, nameIndex := 1172, descriptorIndex := 35, attributes := #[] }, { accessFlags := 26, nameIndex := 1174, descriptorIndex := 35, attributes := #[] }, { accessFlags := 24, nameIndex := 1176, descriptorIndex := 35, attributes := #[] }, { accessFlags := 24, nameIndex := 1177, descriptorIndex := 35, attributes := #[] }, { accessFlags := 26, nameIndex := 1179, descriptorIndex := 35, attributes := #[] }, { accessFlags := 26, nameIndex := 1181, descriptorIndex := 35, attributes := #[] }, { accessFlags := 26, nameIndex := 1182, descriptorIndex := 35, attributes := #[] }, { accessFlags := 10, nameIndex := 95, descriptorIndex := 96, attributes := #[] }, { accessFlags := 26, nameIndex := 1184, descriptorIndex := 35, attributes := #[] }, { accessFlags := 26, nameIndex := 1186, descriptorIndex := 35, attributes := #[] }, { accessFlags := 26, nameIndex := 180, descriptorIndex := 27, attributes := #[] }, { accessFlags := 26, nameIndex := 1188, descriptorIndex := 35, attributes := #[] }, { accessFlags := 26, nameIndex := 349, descriptorIndex := 350, attributes := #[] }, { accessFlags := 26, nameIndex := 355, descriptorIndex := 350, attributes := #[] }, { accessFlags := 74, nameIndex := 821, descriptorIndex := 822, attributes := #[] }, { accessFlags := 26, nameIndex := 763, descriptorIndex := 764, attributes := #[] }, { accessFlags := 26, nameIndex := 759, descriptorIndex := 760, attributes := #[] }, { accessFlags := 25, nameIndex := 26, descriptorIndex := 27, attributes := #[] }, { accessFlags := 25, nameIndex := 260, descriptorIndex := 27, attributes := #[] }, { accessFlags := 25, nameIndex := 267, descriptorIndex := 27, attributes := #[] }, { accessFlags := 26, nameIndex := 581, descriptorIndex := 27, attributes := #[] }, { accessFlags := 25, nameIndex := 1051, descriptorIndex := 27, attributes := #[] }, { accessFlags := 8, nameIndex := 673, descriptorIndex := 31, attributes := #[] }, { accessFlags := 10, nameIndex := 778, descriptorIndex := 35, attributes := #[] }, { accessFlags := 26, nameIndex := 781, descriptorIndex := 782, attributes := #[] }, { accessFlags := 10, nameIndex := 798, descriptorIndex := 31, attributes := #[] }, { accessFlags := 10, nameIndex := 792, descriptorIndex := 350, attributes := #[] }, { accessFlags := 10, nameIndex := 106, descriptorIndex := 31, attributes := #[] }, { accessFlags := 10, nameIndex := 119, descriptorIndex := 31, attributes := #[] }, { accessFlags := 26, nameIndex := 1192, descriptorIndex := 1163, attributes := #[] }, { accessFlags := 26, nameIndex := 1158, descriptorIndex := 1159, attributes := #[] }, { accessFlags := 4120, nameIndex := 311, descriptorIndex := 312, attributes := #[] }])
  fields := #[{ name := "signum", type := .int, accessFlags := 16, slot := 0, constantValue := 0 }, { name := "mag", type := (.array .int), accessFlags := 16, slot := 1, constantValue := 0 }, { name := "bitCountPlusOne", type := .int, accessFlags := 2, slot := 2, constantValue := 0 }, { name := "bitLengthPlusOne", type := .int, accessFlags := 2, slot := 3, constantValue := 0 }, { name := "lowestSetBitPlusTwo", type := .int, accessFlags := 2, slot := 4, constantValue := 0 }, { name := "firstNonzeroIntNumPlusTwo", type := .int, accessFlags := 2, slot := 5, constantValue := 0 }, { name := "LONG_MASK", type := .long, accessFlags := 24, slot := 0, constantValue := 0 }, { name := "MAX_MAG_LENGTH", type := .int, accessFlags := 26, slot := 1, constantValue := 0 }, { name := "PRIME_SEARCH_BIT_LENGTH_LIMIT", type := .int, accessFlags := 26, slot := 2, constantValue := 0 }, { name := "KARATSUBA_THRESHOLD", type := .int, accessFlags := 26, slot := 3, constantValue := 0 }, { name := "TOOM_COOK_THRESHOLD", type := .int, accessFlags := 26, slot := 4, constantValue := 0 }, { name := "KARATSUBA_SQUARE_THRESHOLD", type := .int, accessFlags := 26, slot := 5, constantValue := 0 }, { name := "TOOM_COOK_SQUARE_THRESHOLD", type := .int, accessFlags := 26, slot := 6, constantValue := 0 }, { name := "BURNIKEL_ZIEGLER_THRESHOLD", type := .int, accessFlags := 24, slot := 7, constantValue := 0 }, { name := "BURNIKEL_ZIEGLER_OFFSET", type := .int, accessFlags := 24, slot := 8, constantValue := 0 }, { name := "SCHOENHAGE_BASE_CONVERSION_THRESHOLD", type := .int, accessFlags := 26, slot := 9, constantValue := 0 }, { name := "MULTIPLY_SQUARE_THRESHOLD", type := .int, accessFlags := 26, slot := 10, constantValue := 0 }, { name := "MONTGOMERY_INTRINSIC_THRESHOLD", type := .int, accessFlags := 26, slot := 11, constantValue := 0 }, { name := "bitsPerDigit", type := (.array .long), accessFlags := 10, slot := 12, constantValue := 0 }, { name := "SMALL_PRIME_THRESHOLD", type := .int, accessFlags := 26, slot := 13, constantValue := 0 }, { name := "DEFAULT_PRIME_CERTAINTY", type := .int, accessFlags := 26, slot := 14, constantValue := 0 }, { name := "SMALL_PRIME_PRODUCT", type := (.object "java/math/BigInteger"), accessFlags := 26, slot := 15, constantValue := 0 }, { name := "MAX_CONSTANT", type := .int, accessFlags := 26, slot := 16, constantValue := 0 }, { name := "posConst", type := (.array (.object "java/math/BigInteger")), accessFlags := 26, slot := 17, constantValue := 0 }, { name := "negConst", type := (.array (.object "java/math/BigInteger")), accessFlags := 26, slot := 18, constantValue := 0 }, { name := "powerCache", type := (.array (.array (.object "java/math/BigInteger"))), accessFlags := 74, slot := 19, constantValue := 0 }, { name := "logCache", type := (.array .double), accessFlags := 26, slot := 20, constantValue := 0 }, { name := "LOG_TWO", type := .double, accessFlags := 26, slot := 21, constantValue := 0 }, { name := "ZERO", type := (.object "java/math/BigInteger"), accessFlags := 25, slot := 22, constantValue := 0 }, { name := "ONE", type := (.object "java/math/BigInteger"), accessFlags := 25, slot := 23, constantValue := 0 }, { name := "TWO", type := (.object "java/math/BigInteger"), accessFlags := 25, slot := 24, constantValue := 0 }, { name := "NEGATIVE_ONE", type := (.object "java/math/BigInteger"), accessFlags := 26, slot := 25, constantValue := 0 }, { name := "TEN", type := (.object "java/math/BigInteger"), accessFlags := 25, slot := 26, constantValue := 0 }, { name := "bnExpModThreshTable", type := (.array .int), accessFlags := 8, slot := 27, constantValue := 0 }, { name := "NUM_ZEROS", type := .int, accessFlags := 10, slot := 28, constantValue := 0 }, { name := "ZEROS", type := (.object "java/lang/String"), accessFlags := 26, slot := 29, constantValue := 0 }, { name := "digitsPerLong", type := (.array .int), accessFlags := 10, slot := 30, constantValue := 0 }, { name := "longRadix", type := (.array (.object "java/math/BigInteger")), accessFlags := 10, slot := 31, constantValue := 0 }, { name := "digitsPerInt", type := (.array .int), accessFlags := 10, slot := 32, constantValue := 0 }, { name := "intRadix", type := (.array .int), accessFlags := 10, slot := 33, constantValue := 0 }, { name := "serialVersionUID", type := .long, accessFlags := 26, slot := 34, constantValue := 0 }, { name := "serialPersistentFields", type := (.array (.object "java/io/ObjectStreamField")), accessFlags := 26, slot := 35, constantValue := 0 }, { name := "$assertionsDisabled", type := .boolean, accessFlags := 4120, slot := 36, constantValue := 0 }]
  methods := #[k6m0, k6m1, k6m2, k6m3, k6m4, k6m5, k6m6]
  instanceTypes := #[.int, (.array .int), .int, .int, .int, .int]
  staticTypes := #[.long, .int, .int, .int, .int, .int, .int, .int, .int, .int, .int, .int, (.array .long), .int, .int, (.object "java/math/BigInteger"), .int, (.array (.object "java/math/BigInteger")), (.array (.object "java/math/BigInteger")), (.array (.array (.object "java/math/BigInteger"))), (.array .double), .double, (.object "java/math/BigInteger"), (.object "java/math/BigInteger"), (.object "java/math/BigInteger"), (.object "java/math/BigInteger"), (.object "java/math/BigInteger"), (.array .int), .int, (.object "java/lang/String"), (.array .int), (.array (.object "java/math/BigInteger")), (.array .int), (.array .int), .long, (.array (.object "java/io/ObjectStreamField")), .boolean]
  resolved := Array.replicate 1542 none
  statics := some 0 }

def pool7 : Array CpInfo := pool [(1, u "java/lang/Cloneable"), (0, .class_ 1), (0, u "java/lang/Object"), (0, .class_ 3)] 3

/-- java/lang/Cloneable -/
def k7 : Class := { plain "java/lang/Cloneable" (some 0) with
  accessFlags := 1537
  interfaces := #[]
  cf := some (fileOf pool7 2 #[] #[] 1537 4 #[] #[])
  fields := #[]
  methods := #[]
  instanceTypes := #[]
  staticTypes := #[]
  resolved := Array.replicate 8 none
  statics := none }

/-- the primitive byte -/
def k8 : Class := { plain "byte" none with kind := .primitive 'B', accessFlags := 0x411 }
/-- [B -/
def k9 : Class := { plain "[B" (some 0) with kind := .array 8 .byte, interfaces := #[7, 3], accessFlags := 1041 }

/-- the primitive int -/
def k10 : Class := { plain "int" none with kind := .primitive 'I', accessFlags := 0x411 }
/-- [I -/
def k11 : Class := { plain "[I" (some 0) with kind := .array 10 .int, interfaces := #[7, 3], accessFlags := 1041 }

/-- [Ljava/math/BigInteger; -/
def k12 : Class := { plain "[Ljava/math/BigInteger;" (some 0) with kind := .array 6 (.object "java/math/BigInteger"), interfaces := #[7, 3], accessFlags := 1041 }

def heap : Heap := #[{ cls := 6, slots := #[.long 0, .int 0, .int 0, .int 0, .int 0, .int 0, .int 0, .int 0, .int 0, .int 0, .int 0, .int 0, .null, .int 0, .int 0, .null, .int 0, .ref 1, .ref 2, .null, .null, .double 0, .null, .ref 35, .ref 36, .ref 51, .ref 44, .null, .int 0, .null, .null, .null, .null, .null, .long 0, .null, .int 0], vm := .statics 6 },
  { cls := 12, slots := #[.null, .ref 35, .ref 36, .ref 37, .ref 38, .ref 39, .ref 40, .ref 41, .ref 42, .ref 43, .ref 44, .ref 45, .ref 46, .ref 47, .ref 48, .ref 49, .ref 50], vm := .none },
  { cls := 12, slots := #[.null, .ref 51, .ref 52, .ref 53, .ref 54, .ref 55, .ref 56, .ref 57, .ref 58, .ref 59, .ref 60, .ref 61, .ref 62, .ref 63, .ref 64, .ref 65, .ref 66], vm := .none },
  { cls := 11, slots := #[.int 1], vm := .none },
  { cls := 11, slots := #[.int 2], vm := .none },
  { cls := 11, slots := #[.int 3], vm := .none },
  { cls := 11, slots := #[.int 4], vm := .none },
  { cls := 11, slots := #[.int 5], vm := .none },
  { cls := 11, slots := #[.int 6], vm := .none },
  { cls := 11, slots := #[.int 7], vm := .none },
  { cls := 11, slots := #[.int 8], vm := .none },
  { cls := 11, slots := #[.int 9], vm := .none },
  { cls := 11, slots := #[.int 10], vm := .none },
  { cls := 11, slots := #[.int 11], vm := .none },
  { cls := 11, slots := #[.int 12], vm := .none },
  { cls := 11, slots := #[.int 13], vm := .none },
  { cls := 11, slots := #[.int 14], vm := .none },
  { cls := 11, slots := #[.int 15], vm := .none },
  { cls := 11, slots := #[.int 16], vm := .none },
  { cls := 11, slots := #[.int 1], vm := .none },
  { cls := 11, slots := #[.int 2], vm := .none },
  { cls := 11, slots := #[.int 3], vm := .none },
  { cls := 11, slots := #[.int 4], vm := .none },
  { cls := 11, slots := #[.int 5], vm := .none },
  { cls := 11, slots := #[.int 6], vm := .none },
  { cls := 11, slots := #[.int 7], vm := .none },
  { cls := 11, slots := #[.int 8], vm := .none },
  { cls := 11, slots := #[.int 9], vm := .none },
  { cls := 11, slots := #[.int 10], vm := .none },
  { cls := 11, slots := #[.int 11], vm := .none },
  { cls := 11, slots := #[.int 12], vm := .none },
  { cls := 11, slots := #[.int 13], vm := .none },
  { cls := 11, slots := #[.int 14], vm := .none },
  { cls := 11, slots := #[.int 15], vm := .none },
  { cls := 11, slots := #[.int 16], vm := .none },
  { cls := 6, slots := #[.int 1, .ref 3, .int 0, .int 0, .int 0, .int 0], vm := .none },
  { cls := 6, slots := #[.int 1, .ref 4, .int 0, .int 0, .int 0, .int 0], vm := .none },
  { cls := 6, slots := #[.int 1, .ref 5, .int 0, .int 0, .int 0, .int 0], vm := .none },
  { cls := 6, slots := #[.int 1, .ref 6, .int 0, .int 0, .int 0, .int 0], vm := .none },
  { cls := 6, slots := #[.int 1, .ref 7, .int 0, .int 0, .int 0, .int 0], vm := .none },
  { cls := 6, slots := #[.int 1, .ref 8, .int 0, .int 0, .int 0, .int 0], vm := .none },
  { cls := 6, slots := #[.int 1, .ref 9, .int 0, .int 0, .int 0, .int 0], vm := .none },
  { cls := 6, slots := #[.int 1, .ref 10, .int 0, .int 0, .int 0, .int 0], vm := .none },
  { cls := 6, slots := #[.int 1, .ref 11, .int 0, .int 0, .int 0, .int 0], vm := .none },
  { cls := 6, slots := #[.int 1, .ref 12, .int 0, .int 0, .int 0, .int 0], vm := .none },
  { cls := 6, slots := #[.int 1, .ref 13, .int 0, .int 0, .int 0, .int 0], vm := .none },
  { cls := 6, slots := #[.int 1, .ref 14, .int 0, .int 0, .int 0, .int 0], vm := .none },
  { cls := 6, slots := #[.int 1, .ref 15, .int 0, .int 0, .int 0, .int 0], vm := .none },
  { cls := 6, slots := #[.int 1, .ref 16, .int 0, .int 0, .int 0, .int 0], vm := .none },
  { cls := 6, slots := #[.int 1, .ref 17, .int 0, .int 0, .int 0, .int 0], vm := .none },
  { cls := 6, slots := #[.int 1, .ref 18, .int 0, .int 0, .int 0, .int 0], vm := .none },
  { cls := 6, slots := #[.int (-1), .ref 19, .int 0, .int 0, .int 0, .int 0], vm := .none },
  { cls := 6, slots := #[.int (-1), .ref 20, .int 0, .int 0, .int 0, .int 0], vm := .none },
  { cls := 6, slots := #[.int (-1), .ref 21, .int 0, .int 0, .int 0, .int 0], vm := .none },
  { cls := 6, slots := #[.int (-1), .ref 22, .int 0, .int 0, .int 0, .int 0], vm := .none },
  { cls := 6, slots := #[.int (-1), .ref 23, .int 0, .int 0, .int 0, .int 0], vm := .none },
  { cls := 6, slots := #[.int (-1), .ref 24, .int 0, .int 0, .int 0, .int 0], vm := .none },
  { cls := 6, slots := #[.int (-1), .ref 25, .int 0, .int 0, .int 0, .int 0], vm := .none },
  { cls := 6, slots := #[.int (-1), .ref 26, .int 0, .int 0, .int 0, .int 0], vm := .none },
  { cls := 6, slots := #[.int (-1), .ref 27, .int 0, .int 0, .int 0, .int 0], vm := .none },
  { cls := 6, slots := #[.int (-1), .ref 28, .int 0, .int 0, .int 0, .int 0], vm := .none },
  { cls := 6, slots := #[.int (-1), .ref 29, .int 0, .int 0, .int 0, .int 0], vm := .none },
  { cls := 6, slots := #[.int (-1), .ref 30, .int 0, .int 0, .int 0, .int 0], vm := .none },
  { cls := 6, slots := #[.int (-1), .ref 31, .int 0, .int 0, .int 0, .int 0], vm := .none },
  { cls := 6, slots := #[.int (-1), .ref 32, .int 0, .int 0, .int 0, .int 0], vm := .none },
  { cls := 6, slots := #[.int (-1), .ref 33, .int 0, .int 0, .int 0, .int 0], vm := .none },
  { cls := 6, slots := #[.int (-1), .ref 34, .int 0, .int 0, .int 0, .int 0], vm := .none }]
def classes : Array Class := #[k0, k1, k2, k3, k4, k5, k6, k7, k8, k9, k10, k11, k12]
def interned : List (Array UInt16 × Addr) := []
def slotsUsed : Nat := 295
def theMethod : MethodId := ⟨1, 1⟩
def args0 : Array Value := #[.int 9, .long 5, .long 6, .long 7, .long 8]
def aboutOver (below : List Frame) : State where
  vm := { classes := classes, interned := interned.toArray }
  heap := heap
  slotsUsed := slotsUsed
  threads := #[{ frames := .invoking theMethod args0 :: below }]
def below0 : List Frame := [.native { method := ⟨0, 0⟩, args := #[] }]
def about1 : State := aboutOver below0
def p0 : Program := .bare "" "" ""
def e0 : Env := launch0.env 0 0 0
theorem w_frames : about1.frames = Frame.invoking theMethod args0 :: below0 := rfl
set_option maxRecDepth 65536 in
theorem w_args : argsFit about1.vm theMethod args0 = true := by decide +kernel
set_option maxRecDepth 65536 in
theorem w_heap : heapFits about1 = true := by decide +kernel
set_option maxRecDepth 65536 in
theorem w_runnable : about1.curStatus? = some .runnable := by decide +kernel
set_option maxRecDepth 65536 in
theorem w_alone : about1.alone = true := by decide +kernel
set_option maxRecDepth 65536 in
theorem w_named : about1.methodNamed? x = some theMethod := by decide +kernel
set_option maxRecDepth 65536 in
theorem w_hears : about1.hears theMethod below0 = true := by decide +kernel
set_option maxRecDepth 65536 in
theorem w_ripe : about1.ripe theMethod args0 below0 = true := by decide +kernel
theorem w_running : about1.status = .running := rfl
set_option maxRecDepth 65536 in
theorem w_room : about1.hasRoom e0.platform room_1 = true :=
  launch0.hasRoom_least _ room_1 (by decide +kernel) (by decide +kernel) (by decide +kernel) (by decide +kernel) (by decide +kernel) (by decide +kernel)
theorem allAtoms_all (ts : List Jvm.Cond) (a : Array Jvm.Value) (st : Jvm.State) : (allAtoms ts).before a st = ts.all (fun c => c.before a st) := by
  induction ts with
  | nil => rfl
  | cons c t ih =>
    show (Jvm.Cond.and c (allAtoms t)).before a st = _
    rw [Jvm.Cond.before_and, ih, List.all_cons]
def words1 : List Jvm.Cond := Jvm.Cond.code x code maxLocals ret :: tables_1
/-- a 'code' word, met by the world's own term for the bytes: nothing is compared byte by byte -/
theorem code_word {y : MethodName} {bytes : ByteArray} {mx : Nat} {rt : Option FieldType} {a : Array Value} {s : State} {m : MethodId} {meth : Method} {c : Code} (h1 : s.methodNamed? y = some m) (h2 : s.vm.method? m = some meth) (h3 : meth.code = some c) (h4 : c.code = bytes)
    (h5 : (c.maxLocals == mx && c.exceptionTable.isEmpty && decide (c.maxStack ≤ mostOperands) && decide (meth.sig.returnType = rt) && !meth.locks && decide (parseMethodDescriptor y.desc = some meth.sig)) = true) : (Jvm.Cond.code y bytes mx rt).before a s = true := by
  simp only [Bool.and_eq_true, beq_iff_eq, Bool.not_eq_true', decide_eq_true_eq] at h5
  obtain ⟨⟨⟨⟨⟨g1, g2⟩, g3⟩, g4⟩, g5⟩, g6⟩ := h5
  simp [Cond.before, Cond.holds, Cond.value, h1, h2, h3, h4, g1, g2, g3, g4, g5, g6]
def isCode : Jvm.Cond → Bool
  | .code _ _ _ _ => true
  | _ => false
theorem all_split {L : List Jvm.Cond} {P : Jvm.Cond → Bool} (h1 : L.all (fun c => isCode c || P c) = true) (h2 : ∀ c ∈ L.filter isCode, P c = true) : L.all P = true := by
  refine List.all_eq_true.mpr fun c hc => ?_
  have h := List.all_eq_true.mp h1 c hc
  rcases Bool.eq_false_or_eq_true (isCode c) with hi | hi
  · exact h2 c (List.mem_filter.mpr ⟨hc, hi⟩)
  · simpa [hi] using h
set_option maxRecDepth 65536 in
theorem w_c0 : (Jvm.Cond.code x code maxLocals ret).before args0 about1 = true := code_word (m := ⟨1, 1⟩) (meth := k1m1) (c := k1c1) (by decide +kernel) rfl rfl rfl (by decide +kernel)
set_option maxRecDepth 65536 in
theorem w_c1 : (Jvm.Cond.code ({ cls := "com/example/liftwise/liftwise/eval/arithmetic/Solver$Sides", name := "<init>", desc := "()V" } : Jvm.MethodName) prog_74_method_1_code (1 : Nat) (Option.none : Option Jvm.ClassFile.FieldType)).before args0 about1 = true := code_word (m := ⟨2, 0⟩) (meth := k2m0) (c := k2c0) (by decide +kernel) rfl rfl rfl (by decide +kernel)
set_option maxRecDepth 65536 in
theorem w_c2 : (Jvm.Cond.code ({ cls := "java/lang/Object", name := "<init>", desc := "()V" } : Jvm.MethodName) object_method_1_code (1 : Nat) (Option.none : Option Jvm.ClassFile.FieldType)).before args0 about1 = true := code_word (m := ⟨0, 0⟩) (meth := k0m0) (c := k0c0) (by decide +kernel) rfl rfl rfl (by decide +kernel)
set_option maxRecDepth 65536 in
theorem w_c3 : (Jvm.Cond.code ({ cls := "com/example/liftwise/liftwise/eval/arithmetic/SidesIsExactPinLaw", name := "lowerFine", desc := "(ZJ)Z" } : Jvm.MethodName) method_3_code (3 : Nat) (Option.some Jvm.ClassFile.FieldType.boolean)).before args0 about1 = true := code_word (m := ⟨1, 2⟩) (meth := k1m2) (c := k1c2) (by decide +kernel) rfl rfl rfl (by decide +kernel)
set_option maxRecDepth 65536 in
theorem w_c4 : (Jvm.Cond.code ({ cls := "com/example/liftwise/liftwise/eval/arithmetic/SidesIsExactPinLaw", name := "upperFine", desc := "(ZJ)Z" } : Jvm.MethodName) method_4_code (3 : Nat) (Option.some Jvm.ClassFile.FieldType.boolean)).before args0 about1 = true := code_word (m := ⟨1, 3⟩) (meth := k1m3) (c := k1c3) (by decide +kernel) rfl rfl rfl (by decide +kernel)
set_option maxRecDepth 65536 in
theorem w_c5 : (Jvm.Cond.code ({ cls := "com/example/liftwise/liftwise/eval/arithmetic/Solver$Sides", name := "isExact", desc := "()Z" } : Jvm.MethodName) prog_74_method_5_code (1 : Nat) (Option.some Jvm.ClassFile.FieldType.boolean)).before args0 about1 = true := code_word (m := ⟨2, 2⟩) (meth := k2m2) (c := k2c2) (by decide +kernel) rfl rfl rfl (by decide +kernel)
set_option maxRecDepth 65536 in
theorem w_c6 : (Jvm.Cond.code ({ cls := "java/math/BigInteger", name := "valueOf", desc := "(J)Ljava/math/BigInteger;" } : Jvm.MethodName) jdk_2097_method_29_code (2 : Nat) (Option.some (Jvm.ClassFile.FieldType.object "java/math/BigInteger"))).before args0 about1 = true := code_word (m := ⟨6, 1⟩) (meth := k6m1) (c := k6c1) (by decide +kernel) rfl rfl rfl (by decide +kernel)
set_option maxRecDepth 65536 in
theorem w_c7 : (Jvm.Cond.code ({ cls := "java/math/BigInteger", name := "<init>", desc := "(J)V" } : Jvm.MethodName) jdk_2097_method_30_code (4 : Nat) (Option.none : Option Jvm.ClassFile.FieldType)).before args0 about1 = true := code_word (m := ⟨6, 2⟩) (meth := k6m2) (c := k6c2) (by decide +kernel) rfl rfl rfl (by decide +kernel)
set_option maxRecDepth 65536 in
theorem w_c8 : (Jvm.Cond.code ({ cls := "java/lang/Number", name := "<init>", desc := "()V" } : Jvm.MethodName) jdk_18_method_1_code (1 : Nat) (Option.none : Option Jvm.ClassFile.FieldType)).before args0 about1 = true := code_word (m := ⟨4, 0⟩) (meth := k4m0) (c := k4c0) (by decide +kernel) rfl rfl rfl (by decide +kernel)
set_option maxRecDepth 65536 in
theorem w_c9 : (Jvm.Cond.code ({ cls := "com/example/liftwise/liftwise/eval/arithmetic/Solver$Sides", name := "add", desc := "(Ljava/math/BigInteger;)V" } : Jvm.MethodName) prog_74_method_2_code (3 : Nat) (Option.none : Option Jvm.ClassFile.FieldType)).before args0 about1 = true := code_word (m := ⟨2, 1⟩) (meth := k2m1) (c := k2c1) (by decide +kernel) rfl rfl rfl (by decide +kernel)
set_option maxRecDepth 65536 in
theorem w_c10 : (Jvm.Cond.code ({ cls := "java/math/BigInteger", name := "abs", desc := "()Ljava/math/BigInteger;" } : Jvm.MethodName) jdk_2097_method_79_code (1 : Nat) (Option.some (Jvm.ClassFile.FieldType.object "java/math/BigInteger"))).before args0 about1 = true := code_word (m := ⟨6, 3⟩) (meth := k6m3) (c := k6c3) (by decide +kernel) rfl rfl rfl (by decide +kernel)
set_option maxRecDepth 65536 in
theorem w_c11 : (Jvm.Cond.code ({ cls := "java/math/BigInteger", name := "equals", desc := "(Ljava/lang/Object;)Z" } : Jvm.MethodName) jdk_2097_method_124_code (7 : Nat) (Option.some Jvm.ClassFile.FieldType.boolean)).before args0 about1 = true := code_word (m := ⟨6, 6⟩) (meth := k6m6) (c := k6c6) (by decide +kernel) rfl rfl rfl (by decide +kernel)
set_option maxRecDepth 65536 in
theorem w_c12 : (Jvm.Cond.code ({ cls := "java/math/BigInteger", name := "signum", desc := "()I" } : Jvm.MethodName) jdk_2097_method_81_code (1 : Nat) (Option.some Jvm.ClassFile.FieldType.int)).before args0 about1 = true := code_word (m := ⟨6, 5⟩) (meth := k6m5) (c := k6c5) (by decide +kernel) rfl rfl rfl (by decide +kernel)
set_option maxRecDepth 65536 in
theorem w_c13 : (Jvm.Cond.code ({ cls := "java/math/BigInteger", name := "negate", desc := "()Ljava/math/BigInteger;" } : Jvm.MethodName) jdk_2097_method_80_code (1 : Nat) (Option.some (Jvm.ClassFile.FieldType.object "java/math/BigInteger"))).before args0 about1 = true := code_word (m := ⟨6, 4⟩) (meth := k6m4) (c := k6c4) (by decide +kernel) rfl rfl rfl (by decide +kernel)
set_option maxRecDepth 65536 in
theorem w_c14 : (Jvm.Cond.code ({ cls := "java/math/BigInteger", name := "<init>", desc := "([II)V" } : Jvm.MethodName) jdk_2097_method_25_code (3 : Nat) (Option.none : Option Jvm.ClassFile.FieldType)).before args0 about1 = true := code_word (m := ⟨6, 0⟩) (meth := k6m0) (c := k6c0) (by decide +kernel) rfl rfl rfl (by decide +kernel)
def codes1 : List Jvm.Cond := [Jvm.Cond.code x code maxLocals ret, Jvm.Cond.code ({ cls := "com/example/liftwise/liftwise/eval/arithmetic/Solver$Sides", name := "<init>", desc := "()V" } : Jvm.MethodName) prog_74_method_1_code (1 : Nat) (Option.none : Option Jvm.ClassFile.FieldType), Jvm.Cond.code ({ cls := "java/lang/Object", name := "<init>", desc := "()V" } : Jvm.MethodName) object_method_1_code (1 : Nat) (Option.none : Option Jvm.ClassFile.FieldType), Jvm.Cond.code ({ cls := "com/example/liftwise/liftwise/eval/arithmetic/SidesIsExactPinLaw", name := "lowerFine", desc := "(ZJ)Z" } : Jvm.MethodName) method_3_code (3 : Nat) (Option.some Jvm.ClassFile.FieldType.boolean), Jvm.Cond.code ({ cls := "com/example/liftwise/liftwise/eval/arithmetic/SidesIsExactPinLaw", name := "upperFine", desc := "(ZJ)Z" } : Jvm.MethodName) method_4_code (3 : Nat) (Option.some Jvm.ClassFile.FieldType.boolean), Jvm.Cond.code ({ cls := "com/example/liftwise/liftwise/eval/arithmetic/Solver$Sides", name := "isExact", desc := "()Z" } : Jvm.MethodName) prog_74_method_5_code (1 : Nat) (Option.some Jvm.ClassFile.FieldType.boolean), Jvm.Cond.code ({ cls := "java/math/BigInteger", name := "valueOf", desc := "(J)Ljava/math/BigInteger;" } : Jvm.MethodName) jdk_2097_method_29_code (2 : Nat) (Option.some (Jvm.ClassFile.FieldType.object "java/math/BigInteger")), Jvm.Cond.code ({ cls := "java/math/BigInteger", name := "<init>", desc := "(J)V" } : Jvm.MethodName) jdk_2097_method_30_code (4 : Nat) (Option.none : Option Jvm.ClassFile.FieldType), Jvm.Cond.code ({ cls := "java/lang/Number", name := "<init>", desc := "()V" } : Jvm.MethodName) jdk_18_method_1_code (1 : Nat) (Option.none : Option Jvm.ClassFile.FieldType), Jvm.Cond.code ({ cls := "com/example/liftwise/liftwise/eval/arithmetic/Solver$Sides", name := "add", desc := "(Ljava/math/BigInteger;)V" } : Jvm.MethodName) prog_74_method_2_code (3 : Nat) (Option.none : Option Jvm.ClassFile.FieldType), Jvm.Cond.code ({ cls := "java/math/BigInteger", name := "abs", desc := "()Ljava/math/BigInteger;" } : Jvm.MethodName) jdk_2097_method_79_code (1 : Nat) (Option.some (Jvm.ClassFile.FieldType.object "java/math/BigInteger")), Jvm.Cond.code ({ cls := "java/math/BigInteger", name := "equals", desc := "(Ljava/lang/Object;)Z" } : Jvm.MethodName) jdk_2097_method_124_code (7 : Nat) (Option.some Jvm.ClassFile.FieldType.boolean), Jvm.Cond.code ({ cls := "java/math/BigInteger", name := "signum", desc := "()I" } : Jvm.MethodName) jdk_2097_method_81_code (1 : Nat) (Option.some Jvm.ClassFile.FieldType.int), Jvm.Cond.code ({ cls := "java/math/BigInteger", name := "negate", desc := "()Ljava/math/BigInteger;" } : Jvm.MethodName) jdk_2097_method_80_code (1 : Nat) (Option.some (Jvm.ClassFile.FieldType.object "java/math/BigInteger")), Jvm.Cond.code ({ cls := "java/math/BigInteger", name := "<init>", desc := "([II)V" } : Jvm.MethodName) jdk_2097_method_25_code (3 : Nat) (Option.none : Option Jvm.ClassFile.FieldType)]
set_option maxRecDepth 65536 in
theorem codes_eq : words1.filter isCode = codes1 := rfl
theorem w_codes : ∀ c ∈ words1.filter isCode, c.before args0 about1 = true := by
  rw [codes_eq]
  intro c hc
  simp only [codes1, List.mem_cons, List.not_mem_nil, or_false] at hc
  rcases hc with rfl | rfl | rfl | rfl | rfl | rfl | rfl | rfl | rfl | rfl | rfl | rfl | rfl | rfl | rfl
  · exact w_c0
  · exact w_c1
  · exact w_c2
  · exact w_c3
  · exact w_c4
  · exact w_c5
  · exact w_c6
  · exact w_c7
  · exact w_c8
  · exact w_c9
  · exact w_c10
  · exact w_c11
  · exact w_c12
  · exact w_c13
  · exact w_c14
set_option maxRecDepth 65536 in
theorem w_t1 : (words1.take 24).all (fun c => isCode c || c.before args0 about1) = true := by decide +kernel
set_option maxRecDepth 65536 in
theorem w_t2 : ((words1.drop 24).take 24).all (fun c => isCode c || c.before args0 about1) = true := by decide +kernel
set_option maxRecDepth 65536 in
theorem w_t3 : (((words1.drop 24).drop 24).take 24).all (fun c => isCode c || c.before args0 about1) = true := by decide +kernel
set_option maxRecDepth 65536 in
theorem w_t4 : (((words1.drop 24).drop 24).drop 24).all (fun c => isCode c || c.before args0 about1) = true := by decide +kernel
theorem w_tables : (allAtoms (Jvm.Cond.code x code maxLocals ret :: tables_1)).before args0 about1 = true := by
  rw [allAtoms_all]
  show words1.all (fun c => c.before args0 about1) = true
  refine all_split ?_ w_codes
  rw [← List.take_append_drop 24 words1, List.all_append, w_t1, ← List.take_append_drop 24 (words1.drop 24), List.all_append, w_t2, ← List.take_append_drop 24 ((words1.drop 24).drop 24), List.all_append, w_t3, w_t4]
  rfl
set_option maxRecDepth 65536 in
theorem w_rest : rest_1_c.before args0 about1 = true := by decide +kernel
set_option maxRecDepth 65536 in
theorem w_case : (Jvm.Cond.and given_1 narrow_1).before args0 about1 = true := by decide +kernel
theorem w_applies : (headSpec (Jvm.Cond.code x code maxLocals ret :: tables_1) room_1).applies x e0.platform about1 = true :=
  (Spec.applies_iff w_frames).mpr ⟨w_running, w_runnable, w_alone, w_named, w_hears, w_ripe, w_room, w_tables⟩
theorem atStart : AtStart classFile x code maxLocals ret World_1 tables_1 room_1 Calls_1 rest_1 Pre_1 launch0 p0 e0 about1 theMethod args0 below0 :=
  ⟨lists_1, trivial, launch0.admits_env _ _ _, launch0.least_env, fairChoices_fair.cas, fairChoices_fair.clock, w_frames, w_args, w_heap, w_applies, trivial, w_rest, w_case⟩
end start1
theorem witness_1 : WitnessClaimed_1 := ⟨start1.p0, start1.e0, start1.about1, start1.theMethod, start1.args0, start1.below0, start1.atStart⟩
end Jvm.Pilot.@@N@@
