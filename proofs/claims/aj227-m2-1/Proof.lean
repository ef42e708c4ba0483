import JvmDerived
import JvmDerived.Pilot.@@N@@Statement
import JvmDerived.Pilot.@@N@@Code
set_option linter.unusedVariables false
set_option linter.unusedSimpArgs false
@@BLOCK:LamKit.lean.txt@@
namespace Jvm.Pilot.@@N@@
open Jvm Jvm.ClassFile Sem Op Lib Jvm.Free Jvm.Stand Jvm.LawKit Jvm.RoadKit Bundle Jvm.Pilot.@@N@@.Jvm.D
/-- from S the run goes on to an end that answers Q -/
def own_Go (p : Program) (e : Env) (below : List Frame) (s : State) (Q : Option Value → Heap → List Loc → Prop) (rm : Room) (S : State) : Prop :=
  ∃ t o, Steps p.tables e below S t ∧ t.status = .running ∧ Ended t below o ∧ ∃ v L, o = .returned v ∧ Q v t.heap L ∧ FrameEnd s o t L rm.cells rm.slots
section OwnKit
variable {p : Program} {l : Launch} {e : Env} {R rm : Room} {s S S' : State} {m : MethodId} {args : Array Value} {below : List Frame} {meth : Method} {c : Code} {T : State} {locs : List Loc} {cells slots : Nat} {Q : Option Value → Heap → List Loc → Prop}
theorem own_by (st : ∀ t, Steps p.tables e below S' t → Steps p.tables e below S t) (k : own_Go p e below s Q rm S') : own_Go p e below s Q rm S := by
  obtain ⟨t, o, h, r⟩ := k
  exact ⟨t, o, st _ h, r⟩
theorem own_via (st : Steps p.tables e below S S') (k : own_Go p e below s Q rm S') : own_Go p e below s Q rm S := own_by (fun _ h => st.trans h) k
theorem own_out {v : Option Value} {pc : Nat} {Ls : Array Slot} {st : List Value} (X : Stand p l e rm s m args below meth c T locs cells slots) (hlk : meth.locks = false) (hv : meth.sig.returnType = none → v = none) (hc : cells ≤ rm.cells) (hs : slots ≤ rm.slots)
    (step : ∀ fs, (∀ (f : JFrame) (acts : List Action), f.method = m → f.locked = none → f.entered = [] → (doReturn e (T.setTop f) acts v).1 = T.setFrames fs) → Steps p.tables e below (T.setTop (mkF m pc Ls st)) (T.setFrames fs)) (hQ : Q v T.heap locs) : own_Go p e below s Q rm (T.setTop (mkF m pc Ls st)) := by
  obtain ⟨fs, hr, hrun, hended, hW, hsame⟩ := X.leave (v := v) hv hlk
  exact ⟨_, _, step fs hr, hrun, hended, v, locs, rfl, hQ, ⟨_, rfl⟩, hW, hsame.mono hc hs⟩
theorem own_retV (X : Stand p l e rm s m args below meth c T locs cells slots) (hx : p.tables.exec = Jvm.exec) (hlk : meth.locks = false) {pc : Nat} {Ls : Array Slot} (hret : meth.sig.returnType = none) (hd : decode c.code pc = .ok (.return_, 1)) (hQ : Q none T.heap locs) (hc : cells ≤ rm.cells) (hs : slots ≤ rm.slots) :
    own_Go p e below s Q rm (T.setTop (mkF m pc Ls [])) := own_out X hlk (fun _ => rfl) hc hs (fun fs hr => X.returnOut hx hret hd hr) hQ
theorem own_retI (X : Stand p l e rm s m args below meth c T locs cells slots) (hx : p.tables.exec = Jvm.exec) (hlk : meth.locks = false) {pc : Nat} {Ls : Array Slot} {z : Int32} {t : FieldType} {rest : List Value} (hret : meth.sig.returnType = some t) (ht : t = .int ∨ t = .boolean ∨ t = .byte ∨ t = .char ∨ t = .short) (hn : narrow t (.int z) = .int z) (hd : decode c.code pc = .ok (.ireturn, 1)) (hQ : Q (some (.int z)) T.heap locs) (hc : cells ≤ rm.cells) (hs : slots ≤ rm.slots) :
    own_Go p e below s Q rm (T.setTop (mkF m pc Ls (.int z :: rest))) := own_out X hlk (fun h => by rw [hret] at h; cases h) hc hs (fun fs hr => retOut X hx hret hn (Or.inl ⟨rfl, ht, z, rfl⟩) hd hr) hQ
theorem own_retL (X : Stand p l e rm s m args below meth c T locs cells slots) (hx : p.tables.exec = Jvm.exec) (hlk : meth.locks = false) {pc : Nat} {Ls : Array Slot} {z : Int64} {rest : List Value} (hret : meth.sig.returnType = some .long) (hd : decode c.code pc = .ok (.lreturn, 1)) (hQ : Q (some (.long z)) T.heap locs) (hc : cells ≤ rm.cells) (hs : slots ≤ rm.slots) :
    own_Go p e below s Q rm (T.setTop (mkF m pc Ls (.long z :: rest))) := own_out X hlk (fun h => by rw [hret] at h; cases h) hc hs (fun fs hr => retOut X hx hret rfl (Or.inr (Or.inl ⟨rfl, rfl, z, rfl⟩)) hd hr) hQ
theorem own_retA (X : Stand p l e rm s m args below meth c T locs cells slots) (hx : p.tables.exec = Jvm.exec) (hlk : meth.locks = false) {pc : Nat} {Ls : Array Slot} {w : Value} {t : FieldType} {rest : List Value} (hret : meth.sig.returnType = some t) (ht : t.isReference = true) (hw : w.isRef = true) (hd : decode c.code pc = .ok (.areturn, 1)) (hQ : Q (some w) T.heap locs) (hc : cells ≤ rm.cells) (hs : slots ≤ rm.slots) :
    own_Go p e below s Q rm (T.setTop (mkF m pc Ls (w :: rest))) := by
  have hn : narrow t w = w := by cases w <;> first | (simp [Value.isRef] at hw; done) | (cases t <;> first | (simp [FieldType.isReference] at ht; done) | rfl)
  exact own_out X hlk (fun h => by rw [hret] at h; cases h) hc hs (fun fs hr => retOut X hx hret hn (Or.inr (Or.inr (Or.inr (Or.inr ⟨rfl, ht, hw⟩)))) hd hr) hQ
theorem own_enter {Z : State} {h0 : Heap} {y : MethodName} {bytes : ByteArray} {maxL : Nat} {ret : Option FieldType} {ws : List Jvm.Cond} {as : Array Value} (hp : plainFor y = true)
    (body : ∀ p e s m below meth c s₁, Stand p l e rm s m as below meth c s₁ [] 0 0 → p.tables.exec = Jvm.exec → Z.Warmed39 s.vm → c.code = bytes → c.maxLocals = maxL → s.vm.findClass y.cls = some m.cls → meth.name = y.name → meth.sig.returnType = ret → meth.locks = false → s₁.heap = h0 → s.methodNamed? y = some m →
      own_Go p e below s Q rm (s₁.setTop (entryFrame m as maxL))) :
    MetFree l y (head1 (Jvm.Cond.code y bytes maxL ret :: ws) rm) (fun a U => a = as ∧ Z.Warmed39 U.vm ∧ U.heap = h0) (fun _ _ _ _ _ => True) (fun _ U o U' => ∃ v L, o = .returned v ∧ Q v U'.heap L ∧ FrameEnd U o U' L rm.cells rm.slots) := by
  refine MetFree.of_bodySF hp hisR ?_
  intro p e s m args below meth c s₁ Bd hml0 hP hK
  obtain ⟨rfl, hZ, hh⟩ := hP
  have X0 : Stand p l e rm s m args below meth c s₁ [] 0 0 := Stand.of_body Bd
  exact body p e s m below meth c s₁ X0 Bd.exec hZ Bd.bytes hml0 (findClass_of_methodNamed Bd.named) (name_of_methodNamed Bd.named Bd.method).1 Bd.returns (BodyLoose.notSynchronized Bd) (by rw [← hh, Bd.state]; rfl) Bd.named
end OwnKit
theorem own_nar {v : Value} {C : String} (h : v.isRef = true) : narrow (.object C) v = v := by rcases ref_cases h with rfl | ⟨_, rfl⟩ <;> rfl
theorem own_fit {v : Value} {C : String} (h : v.isRef = true) : fits (.object C) v = true := by rcases ref_cases h with rfl | ⟨_, rfl⟩ <;> rfl
theorem own_cat {v : Value} (h : v.isRef = true) : v.category = 1 := by rcases ref_cases h with rfl | ⟨_, rfl⟩ <;> rfl
theorem own_len31 {Z : State} {args : Array Value} {t : Term} {v : Value} {a : Addr} {cl : Cell} (h : (Term.length t).eval args Z none [] Z = some v) (ht : t.eval args Z none [] Z = some (.ref a)) (hc : Z.heap[a]? = some cl) : cl.slots.size < 2 ^ 31 := by
  simp only [Term.eval, ht, Option.bind_eq_bind, Option.bind_some] at h
  cases ha : Z.arrayAt? a with
  | none => simp [ha] at h
  | some c2 =>
    cases (State.arrayAt?_spec ha).1.symm.trans hc
    by_cases q : cl.slots.size < 2 ^ 31
    · exact q
    · simp [ha, q] at h
theorem own_eqr {Z : State} {args : Array Value} {X F : Term} {y : Value} (hy : y.isRef = true) (hF : F.eval args Z none [] Z = some y) (h : (Jvm.Cond.eq X F).value args Z none Z [] = some true) : X.eval args Z none [] Z = some y := by
  obtain ⟨x, y', e1, e2, k1, k2⟩ := cmp_v (Or.inl h)
  cases hF.symm.trans e2
  have hx : x.isRef = true := by
    rcases ref_cases hy with rfl | ⟨a, rfl⟩
    · exact k2.2
    · exact k2.2
  exact e1.trans (congrArg some (gotT (eq_R e1 hF hx hy) h))
theorem pl_0 : plainFor x = true := plainFor_of_name (by first | (simp [plainName, overriddenIn]; done) | decide +kernel)
theorem d1_0 : decode prog_38_method_1_code 0 = .ok (.aload_n 0, 1) := by decide +kernel
theorem d1_1 : decode prog_38_method_1_code 1 = .ok (.iload_n 1, 1) := by decide +kernel
theorem d1_2 : decode prog_38_method_1_code 2 = .ok (.iload_n 2, 1) := by decide +kernel
theorem d1_3 : decode prog_38_method_1_code 3 = .ok (.invokespecial 1, 3) := by decide +kernel
theorem d1_6 : decode prog_38_method_1_code 6 = .ok (.aload_n 0, 1) := by decide +kernel
theorem d1_7 : decode prog_38_method_1_code 7 = .ok (.new 7, 3) := by decide +kernel
theorem d1_10 : decode prog_38_method_1_code 10 = .ok (.dup, 1) := by decide +kernel
theorem d1_11 : decode prog_38_method_1_code 11 = .ok (.invokespecial 9, 3) := by decide +kernel
theorem d1_14 : decode prog_38_method_1_code 14 = .ok (.putfield 12, 3) := by decide +kernel
theorem d1_17 : decode prog_38_method_1_code 17 = .ok (.aload_n 0, 1) := by decide +kernel
theorem d1_18 : decode prog_38_method_1_code 18 = .ok (.aload_n 0, 1) := by decide +kernel
theorem d1_19 : decode prog_38_method_1_code 19 = .ok (.getfield 12, 3) := by decide +kernel
theorem d1_22 : decode prog_38_method_1_code 22 = .ok (.invokestatic 18, 3) := by decide +kernel
theorem d1_25 : decode prog_38_method_1_code 25 = .ok (.putfield 24, 3) := by decide +kernel
theorem d1_28 : decode prog_38_method_1_code 28 = .ok (.aload_n 0, 1) := by decide +kernel
theorem d1_29 : decode prog_38_method_1_code 29 = .ok (.getstatic 27, 3) := by decide +kernel
theorem d1_32 : decode prog_38_method_1_code 32 = .ok (.putfield 31, 3) := by decide +kernel
theorem d1_35 : decode prog_38_method_1_code 35 = .ok (.return_, 1) := by decide +kernel
theorem pl_1 : plainFor (⟨"com/example/postweave/postweave/view/ViewGroup", "<init>", "(II)V"⟩ : MethodName) = true := plainFor_of_name (by first | (simp [plainName, overriddenIn]; done) | decide +kernel)
theorem d2_0 : decode prog_37_method_1_code 0 = .ok (.aload_n 0, 1) := by decide +kernel
theorem d2_1 : decode prog_37_method_1_code 1 = .ok (.invokespecial 1, 3) := by decide +kernel
theorem d2_4 : decode prog_37_method_1_code 4 = .ok (.aload_n 0, 1) := by decide +kernel
theorem d2_5 : decode prog_37_method_1_code 5 = .ok (.new 7, 3) := by decide +kernel
theorem d2_8 : decode prog_37_method_1_code 8 = .ok (.dup, 1) := by decide +kernel
theorem d2_9 : decode prog_37_method_1_code 9 = .ok (.aload_n 0, 1) := by decide +kernel
theorem d2_10 : decode prog_37_method_1_code 10 = .ok (.invokedynamic 9, 5) := by decide +kernel
theorem d2_15 : decode prog_37_method_1_code 15 = .ok (.aload_n 0, 1) := by decide +kernel
theorem d2_16 : decode prog_37_method_1_code 16 = .ok (.invokedynamic 13, 5) := by decide +kernel
theorem d2_21 : decode prog_37_method_1_code 21 = .ok (.invokespecial 17, 3) := by decide +kernel
theorem d2_24 : decode prog_37_method_1_code 24 = .ok (.putfield 20, 3) := by decide +kernel
theorem d2_27 : decode prog_37_method_1_code 27 = .ok (.iload_n 1, 1) := by decide +kernel
theorem d2_28 : decode prog_37_method_1_code 28 = .ok (.iload_n 2, 1) := by decide +kernel
theorem d2_29 : decode prog_37_method_1_code 29 = .ok (.invokestatic 26, 3) := by decide +kernel
theorem d2_32 : decode prog_37_method_1_code 32 = .ok (.aload_n 0, 1) := by decide +kernel
theorem d2_33 : decode prog_37_method_1_code 33 = .ok (.iload_n 1, 1) := by decide +kernel
theorem d2_34 : decode prog_37_method_1_code 34 = .ok (.putfield 30, 3) := by decide +kernel
theorem d2_37 : decode prog_37_method_1_code 37 = .ok (.aload_n 0, 1) := by decide +kernel
theorem d2_38 : decode prog_37_method_1_code 38 = .ok (.iload_n 2, 1) := by decide +kernel
theorem d2_39 : decode prog_37_method_1_code 39 = .ok (.putfield 34, 3) := by decide +kernel
theorem d2_42 : decode prog_37_method_1_code 42 = .ok (.return_, 1) := by decide +kernel
theorem pl_2 : plainFor (⟨"com/example/postweave/postweave/view/View", "<init>", "(II)V"⟩ : MethodName) = true := plainFor_of_name (by first | (simp [plainName, overriddenIn]; done) | decide +kernel)
theorem d4_0 : decode prog_40_method_1_code 0 = .ok (.aload_n 0, 1) := by decide +kernel
theorem d4_1 : decode prog_40_method_1_code 1 = .ok (.invokespecial 1, 3) := by decide +kernel
theorem d4_4 : decode prog_40_method_1_code 4 = .ok (.aload_n 0, 1) := by decide +kernel
theorem d4_5 : decode prog_40_method_1_code 5 = .ok (.new 2, 3) := by decide +kernel
theorem d4_8 : decode prog_40_method_1_code 8 = .ok (.dup, 1) := by decide +kernel
theorem d4_9 : decode prog_40_method_1_code 9 = .ok (.invokespecial 1, 3) := by decide +kernel
theorem d4_12 : decode prog_40_method_1_code 12 = .ok (.putfield 7, 3) := by decide +kernel
theorem d4_15 : decode prog_40_method_1_code 15 = .ok (.aload_n 0, 1) := by decide +kernel
theorem d4_16 : decode prog_40_method_1_code 16 = .ok (.new 13, 3) := by decide +kernel
theorem d4_19 : decode prog_40_method_1_code 19 = .ok (.dup, 1) := by decide +kernel
theorem d4_20 : decode prog_40_method_1_code 20 = .ok (.invokespecial 15, 3) := by decide +kernel
theorem d4_23 : decode prog_40_method_1_code 23 = .ok (.putfield 16, 3) := by decide +kernel
theorem d4_26 : decode prog_40_method_1_code 26 = .ok (.aload_n 0, 1) := by decide +kernel
theorem d4_27 : decode prog_40_method_1_code 27 = .ok (.aload_n 1, 1) := by decide +kernel
theorem d4_28 : decode prog_40_method_1_code 28 = .ok (.putfield 20, 3) := by decide +kernel
theorem d4_31 : decode prog_40_method_1_code 31 = .ok (.aload_n 0, 1) := by decide +kernel
theorem d4_32 : decode prog_40_method_1_code 32 = .ok (.aload_n 2, 1) := by decide +kernel
theorem d4_33 : decode prog_40_method_1_code 33 = .ok (.putfield 24, 3) := by decide +kernel
theorem d4_36 : decode prog_40_method_1_code 36 = .ok (.return_, 1) := by decide +kernel
theorem pl_4 : plainFor (⟨"com/example/postweave/postweave/view/ViewPosts", "<init>", "(Ljava/lang/Runnable;Ljava/util/function/BooleanSupplier;)V"⟩ : MethodName) = true := plainFor_of_name (by first | (simp [plainName, overriddenIn]; done) | decide +kernel)
theorem d5_0 : decode prog_36_method_1_code 0 = .ok (.aload_n 0, 1) := by decide +kernel
theorem d5_1 : decode prog_36_method_1_code 1 = .ok (.invokespecial 1, 3) := by decide +kernel
theorem d5_4 : decode prog_36_method_1_code 4 = .ok (.aload_n 0, 1) := by decide +kernel
theorem d5_5 : decode prog_36_method_1_code 5 = .ok (.getstatic 7, 3) := by decide +kernel
theorem d5_8 : decode prog_36_method_1_code 8 = .ok (.putfield 13, 3) := by decide +kernel
theorem d5_11 : decode prog_36_method_1_code 11 = .ok (.aload_n 0, 1) := by decide +kernel
theorem d5_12 : decode prog_36_method_1_code 12 = .ok (.getstatic 16, 3) := by decide +kernel
theorem d5_15 : decode prog_36_method_1_code 15 = .ok (.putfield 20, 3) := by decide +kernel
theorem d5_18 : decode prog_36_method_1_code 18 = .ok (.return_, 1) := by decide +kernel
theorem pl_5 : plainFor (⟨"com/example/postweave/postweave/util/TimedList", "<init>", "()V"⟩ : MethodName) = true := plainFor_of_name (by first | (simp [plainName, overriddenIn]; done) | decide +kernel)
theorem d6_0 : decode prog_37_method_32_code 0 = .ok (.iload_n 0, 1) := by decide +kernel
theorem d6_1 : decode prog_37_method_32_code 1 = .ok (.ifCond .lt 7, 3) := by decide +kernel
theorem d6_4 : decode prog_37_method_32_code 4 = .ok (.iload_n 1, 1) := by decide +kernel
theorem d6_5 : decode prog_37_method_32_code 5 = .ok (.ifCond .ge 18, 3) := by decide +kernel
theorem d6_8 : decode prog_37_method_32_code 8 = .ok (.new 159, 3) := by decide +kernel
theorem d6_11 : decode prog_37_method_32_code 11 = .ok (.dup, 1) := by decide +kernel
theorem d6_12 : decode prog_37_method_32_code 12 = .ok (.iload_n 0, 1) := by decide +kernel
theorem d6_13 : decode prog_37_method_32_code 13 = .ok (.iload_n 1, 1) := by decide +kernel
theorem d6_14 : decode prog_37_method_32_code 14 = .ok (.invokedynamic 161, 5) := by decide +kernel
theorem d6_19 : decode prog_37_method_32_code 19 = .ok (.invokespecial 164, 3) := by decide +kernel
theorem d6_22 : decode prog_37_method_32_code 22 = .ok (.athrow, 1) := by decide +kernel
theorem d6_23 : decode prog_37_method_32_code 23 = .ok (.return_, 1) := by decide +kernel
theorem pl_6 : plainFor (⟨"com/example/postweave/postweave/view/View", "requireSize", "(II)V"⟩ : MethodName) = true := plainFor_of_name (by first | (simp [plainName, overriddenIn]; done) | decide +kernel)
theorem d7_0 : decode jdk_38_method_2_code 0 = .ok (.aload_n 0, 1) := by decide +kernel
theorem d7_1 : decode jdk_38_method_2_code 1 = .ok (.invokespecial 1, 3) := by decide +kernel
theorem d7_4 : decode jdk_38_method_2_code 4 = .ok (.aload_n 0, 1) := by decide +kernel
theorem d7_5 : decode jdk_38_method_2_code 5 = .ok (.getstatic 39, 3) := by decide +kernel
theorem d7_8 : decode jdk_38_method_2_code 8 = .ok (.putfield 9, 3) := by decide +kernel
theorem d7_11 : decode jdk_38_method_2_code 11 = .ok (.return_, 1) := by decide +kernel
theorem pl_7 : plainFor (⟨"java/util/ArrayList", "<init>", "()V"⟩ : MethodName) = true := plainFor_of_name (by first | (simp [plainName, overriddenIn]; done) | decide +kernel)
theorem d8_0 : decode jdk_39_method_1_code 0 = .ok (.aload_n 0, 1) := by decide +kernel
theorem d8_1 : decode jdk_39_method_1_code 1 = .ok (.invokespecial 1, 3) := by decide +kernel
theorem d8_4 : decode jdk_39_method_1_code 4 = .ok (.aload_n 0, 1) := by decide +kernel
theorem d8_5 : decode jdk_39_method_1_code 5 = .ok (.iconst 0, 1) := by decide +kernel
theorem d8_6 : decode jdk_39_method_1_code 6 = .ok (.putfield 7, 3) := by decide +kernel
theorem d8_9 : decode jdk_39_method_1_code 9 = .ok (.return_, 1) := by decide +kernel
theorem pl_8 : plainFor (⟨"java/util/AbstractList", "<init>", "()V"⟩ : MethodName) = true := plainFor_of_name (by first | (simp [plainName, overriddenIn]; done) | decide +kernel)
theorem d9_0 : decode jdk_22_method_1_code 0 = .ok (.aload_n 0, 1) := by decide +kernel
theorem d9_1 : decode jdk_22_method_1_code 1 = .ok (.invokespecial 1, 3) := by decide +kernel
theorem d9_4 : decode jdk_22_method_1_code 4 = .ok (.return_, 1) := by decide +kernel
theorem pl_9 : plainFor (⟨"java/util/AbstractCollection", "<init>", "()V"⟩ : MethodName) = true := plainFor_of_name (by first | (simp [plainName, overriddenIn]; done) | decide +kernel)
theorem d10_0 : decode jdk_79_method_35_code 0 = .ok (.aload_n 0, 1) := by decide +kernel
theorem d10_1 : decode jdk_79_method_35_code 1 = .ok (.invokeinterface 211 1, 5) := by decide +kernel
theorem d10_6 : decode jdk_79_method_35_code 6 = .ok (.ldc 212, 2) := by decide +kernel
theorem d10_8 : decode jdk_79_method_35_code 8 = .ok (.if_acmp .eq 14, 3) := by decide +kernel
theorem d10_11 : decode jdk_79_method_35_code 11 = .ok (.aload_n 0, 1) := by decide +kernel
theorem d10_12 : decode jdk_79_method_35_code 12 = .ok (.invokeinterface 214 1, 5) := by decide +kernel
theorem d10_17 : decode jdk_79_method_35_code 17 = .ok (.ldc 215, 2) := by decide +kernel
theorem d10_19 : decode jdk_79_method_35_code 19 = .ok (.if_acmp .ne 5, 3) := by decide +kernel
theorem d10_22 : decode jdk_79_method_35_code 22 = .ok (.aload_n 0, 1) := by decide +kernel
theorem d10_23 : decode jdk_79_method_35_code 23 = .ok (.areturn, 1) := by decide +kernel
theorem d10_24 : decode jdk_79_method_35_code 24 = .ok (.aload_n 0, 1) := by decide +kernel
theorem d10_25 : decode jdk_79_method_35_code 25 = .ok (.instanceof 13, 3) := by decide +kernel
theorem d10_28 : decode jdk_79_method_35_code 28 = .ok (.ifCond .eq 14, 3) := by decide +kernel
theorem d10_31 : decode jdk_79_method_35_code 31 = .ok (.new 215, 3) := by decide +kernel
theorem d10_34 : decode jdk_79_method_35_code 34 = .ok (.dup, 1) := by decide +kernel
theorem d10_35 : decode jdk_79_method_35_code 35 = .ok (.aload_n 0, 1) := by decide +kernel
theorem d10_36 : decode jdk_79_method_35_code 36 = .ok (.invokespecial 217, 3) := by decide +kernel
theorem d10_39 : decode jdk_79_method_35_code 39 = .ok (.goto 11, 3) := by decide +kernel
theorem d10_42 : decode jdk_79_method_35_code 42 = .ok (.new 212, 3) := by decide +kernel
theorem d10_45 : decode jdk_79_method_35_code 45 = .ok (.dup, 1) := by decide +kernel
theorem d10_46 : decode jdk_79_method_35_code 46 = .ok (.aload_n 0, 1) := by decide +kernel
theorem d10_47 : decode jdk_79_method_35_code 47 = .ok (.invokespecial 219, 3) := by decide +kernel
theorem d10_50 : decode jdk_79_method_35_code 50 = .ok (.areturn, 1) := by decide +kernel
theorem pl_10 : plainFor (⟨"java/util/Collections", "unmodifiableList", "(Ljava/util/List;)Ljava/util/List;"⟩ : MethodName) = true := plainFor_of_name (by first | (simp [plainName, overriddenIn]; done) | decide +kernel)
theorem d11_0 : decode jdk_121_method_1_code 0 = .ok (.aload_n 0, 1) := by decide +kernel
theorem d11_1 : decode jdk_121_method_1_code 1 = .ok (.aload_n 1, 1) := by decide +kernel
theorem d11_2 : decode jdk_121_method_1_code 2 = .ok (.invokespecial 1, 3) := by decide +kernel
theorem d11_5 : decode jdk_121_method_1_code 5 = .ok (.return_, 1) := by decide +kernel
theorem pl_11 : plainFor (⟨"java/util/Collections$UnmodifiableRandomAccessList", "<init>", "(Ljava/util/List;)V"⟩ : MethodName) = true := plainFor_of_name (by first | (simp [plainName, overriddenIn]; done) | decide +kernel)
theorem d12_0 : decode jdk_120_method_1_code 0 = .ok (.aload_n 0, 1) := by decide +kernel
theorem d12_1 : decode jdk_120_method_1_code 1 = .ok (.aload_n 1, 1) := by decide +kernel
theorem d12_2 : decode jdk_120_method_1_code 2 = .ok (.invokespecial 1, 3) := by decide +kernel
theorem d12_5 : decode jdk_120_method_1_code 5 = .ok (.aload_n 0, 1) := by decide +kernel
theorem d12_6 : decode jdk_120_method_1_code 6 = .ok (.aload_n 1, 1) := by decide +kernel
theorem d12_7 : decode jdk_120_method_1_code 7 = .ok (.putfield 7, 3) := by decide +kernel
theorem d12_10 : decode jdk_120_method_1_code 10 = .ok (.return_, 1) := by decide +kernel
theorem pl_12 : plainFor (⟨"java/util/Collections$UnmodifiableList", "<init>", "(Ljava/util/List;)V"⟩ : MethodName) = true := plainFor_of_name (by first | (simp [plainName, overriddenIn]; done) | decide +kernel)
theorem d13_0 : decode jdk_119_method_1_code 0 = .ok (.aload_n 0, 1) := by decide +kernel
theorem d13_1 : decode jdk_119_method_1_code 1 = .ok (.invokespecial 1, 3) := by decide +kernel
theorem d13_4 : decode jdk_119_method_1_code 4 = .ok (.aload_n 1, 1) := by decide +kernel
theorem d13_5 : decode jdk_119_method_1_code 5 = .ok (.ifnonnull 11, 3) := by decide +kernel
theorem d13_8 : decode jdk_119_method_1_code 8 = .ok (.new 7, 3) := by decide +kernel
theorem d13_11 : decode jdk_119_method_1_code 11 = .ok (.dup, 1) := by decide +kernel
theorem d13_12 : decode jdk_119_method_1_code 12 = .ok (.invokespecial 9, 3) := by decide +kernel
theorem d13_15 : decode jdk_119_method_1_code 15 = .ok (.athrow, 1) := by decide +kernel
theorem d13_16 : decode jdk_119_method_1_code 16 = .ok (.aload_n 0, 1) := by decide +kernel
theorem d13_17 : decode jdk_119_method_1_code 17 = .ok (.aload_n 1, 1) := by decide +kernel
theorem d13_18 : decode jdk_119_method_1_code 18 = .ok (.putfield 10, 3) := by decide +kernel
theorem d13_21 : decode jdk_119_method_1_code 21 = .ok (.return_, 1) := by decide +kernel
theorem pl_13 : plainFor (⟨"java/util/Collections$UnmodifiableCollection", "<init>", "(Ljava/util/Collection;)V"⟩ : MethodName) = true := plainFor_of_name (by first | (simp [plainName, overriddenIn]; done) | decide +kernel)
theorem d14_0 : decode prog_37_method_20_code 0 = .ok (.aload_n 1, 1) := by decide +kernel
theorem d14_1 : decode prog_37_method_20_code 1 = .ok (.astore_n 2, 1) := by decide +kernel
theorem d14_2 : decode prog_37_method_20_code 2 = .ok (.aload_n 2, 1) := by decide +kernel
theorem d14_3 : decode prog_37_method_20_code 3 = .ok (.ifnull 16, 3) := by decide +kernel
theorem d14_6 : decode prog_37_method_20_code 6 = .ok (.aload_n 2, 1) := by decide +kernel
theorem d14_7 : decode prog_37_method_20_code 7 = .ok (.aload_n 0, 1) := by decide +kernel
theorem d14_8 : decode prog_37_method_20_code 8 = .ok (.if_acmp .eq 11, 3) := by decide +kernel
theorem d14_11 : decode prog_37_method_20_code 11 = .ok (.aload_n 2, 1) := by decide +kernel
theorem d14_12 : decode prog_37_method_20_code 12 = .ok (.getfield 47, 3) := by decide +kernel
theorem d14_15 : decode prog_37_method_20_code 15 = .ok (.astore_n 2, 1) := by decide +kernel
theorem d14_16 : decode prog_37_method_20_code 16 = .ok (.goto (-14), 3) := by decide +kernel
theorem d14_19 : decode prog_37_method_20_code 19 = .ok (.aload_n 2, 1) := by decide +kernel
theorem d14_20 : decode prog_37_method_20_code 20 = .ok (.aload_n 0, 1) := by decide +kernel
theorem d14_21 : decode prog_37_method_20_code 21 = .ok (.if_acmp .ne 7, 3) := by decide +kernel
theorem d14_24 : decode prog_37_method_20_code 24 = .ok (.iconst 1, 1) := by decide +kernel
theorem d14_25 : decode prog_37_method_20_code 25 = .ok (.goto 4, 3) := by decide +kernel
theorem d14_28 : decode prog_37_method_20_code 28 = .ok (.iconst 0, 1) := by decide +kernel
theorem d14_29 : decode prog_37_method_20_code 29 = .ok (.ireturn, 1) := by decide +kernel
theorem pl_14 : plainFor (⟨"com/example/postweave/postweave/view/View", "holds", "(Lcom/example/postweave/postweave/view/View;)Z"⟩ : MethodName) = true := plainFor_of_name (by first | (simp [plainName, overriddenIn]; done) | decide +kernel)
theorem d15_0 : decode method_3_code 0 = .ok (.iload_n 2, 1) := by decide +kernel
theorem d15_1 : decode method_3_code 1 = .ok (.iconst 4, 1) := by decide +kernel
theorem d15_2 : decode method_3_code 2 = .ok (.if_icmp .ne 5, 3) := by decide +kernel
theorem d15_5 : decode method_3_code 5 = .ok (.iconst 0, 1) := by decide +kernel
theorem d15_6 : decode method_3_code 6 = .ok (.ireturn, 1) := by decide +kernel
theorem d15_7 : decode method_3_code 7 = .ok (.iload_n 2, 1) := by decide +kernel
theorem d15_8 : decode method_3_code 8 = .ok (.istore_n 3, 1) := by decide +kernel
theorem d15_9 : decode method_3_code 9 = .ok (.aload_n 0, 1) := by decide +kernel
theorem d15_10 : decode method_3_code 10 = .ok (.iload_n 3, 1) := by decide +kernel
theorem d15_11 : decode method_3_code 11 = .ok (.iaload, 1) := by decide +kernel
theorem d15_12 : decode method_3_code 12 = .ok (.istore 4, 2) := by decide +kernel
theorem d15_14 : decode method_3_code 14 = .ok (.iload 4, 2) := by decide +kernel
theorem d15_16 : decode method_3_code 16 = .ok (.ifCond .ge 7, 3) := by decide +kernel
theorem d15_19 : decode method_3_code 19 = .ok (.iconst (-1), 1) := by decide +kernel
theorem d15_20 : decode method_3_code 20 = .ok (.goto 7, 3) := by decide +kernel
theorem d15_23 : decode method_3_code 23 = .ok (.aload_n 0, 1) := by decide +kernel
theorem d15_24 : decode method_3_code 24 = .ok (.iload 4, 2) := by decide +kernel
theorem d15_26 : decode method_3_code 26 = .ok (.iaload, 1) := by decide +kernel
theorem d15_27 : decode method_3_code 27 = .ok (.istore 5, 2) := by decide +kernel
theorem d15_29 : decode method_3_code 29 = .ok (.iload 5, 2) := by decide +kernel
theorem d15_31 : decode method_3_code 31 = .ok (.ifCond .ge 7, 3) := by decide +kernel
theorem d15_34 : decode method_3_code 34 = .ok (.iconst (-1), 1) := by decide +kernel
theorem d15_35 : decode method_3_code 35 = .ok (.goto 7, 3) := by decide +kernel
theorem d15_38 : decode method_3_code 38 = .ok (.aload_n 0, 1) := by decide +kernel
theorem d15_39 : decode method_3_code 39 = .ok (.iload 5, 2) := by decide +kernel
theorem d15_41 : decode method_3_code 41 = .ok (.iaload, 1) := by decide +kernel
theorem d15_42 : decode method_3_code 42 = .ok (.istore 6, 2) := by decide +kernel
theorem d15_44 : decode method_3_code 44 = .ok (.iload_n 3, 1) := by decide +kernel
theorem d15_45 : decode method_3_code 45 = .ok (.iload_n 1, 1) := by decide +kernel
theorem d15_46 : decode method_3_code 46 = .ok (.if_icmp .eq 21, 3) := by decide +kernel
theorem d15_49 : decode method_3_code 49 = .ok (.iload 4, 2) := by decide +kernel
theorem d15_51 : decode method_3_code 51 = .ok (.iload_n 1, 1) := by decide +kernel
theorem d15_52 : decode method_3_code 52 = .ok (.if_icmp .eq 15, 3) := by decide +kernel
theorem d15_55 : decode method_3_code 55 = .ok (.iload 5, 2) := by decide +kernel
theorem d15_57 : decode method_3_code 57 = .ok (.iload_n 1, 1) := by decide +kernel
theorem d15_58 : decode method_3_code 58 = .ok (.if_icmp .eq 9, 3) := by decide +kernel
theorem d15_61 : decode method_3_code 61 = .ok (.iload 6, 2) := by decide +kernel
theorem d15_63 : decode method_3_code 63 = .ok (.iload_n 1, 1) := by decide +kernel
theorem d15_64 : decode method_3_code 64 = .ok (.if_icmp .ne 7, 3) := by decide +kernel
theorem d15_67 : decode method_3_code 67 = .ok (.iconst 1, 1) := by decide +kernel
theorem d15_68 : decode method_3_code 68 = .ok (.goto 4, 3) := by decide +kernel
theorem d15_71 : decode method_3_code 71 = .ok (.iconst 0, 1) := by decide +kernel
theorem d15_72 : decode method_3_code 72 = .ok (.ireturn, 1) := by decide +kernel
theorem pl_15 : plainFor (⟨"com/example/postweave/postweave/view/ViewHoldsPinLaw", "ancestorOrSelf", "([III)Z"⟩ : MethodName) = true := plainFor_of_name (by first | (simp [plainName, overriddenIn]; done) | decide +kernel)
theorem pd_0 : parseMethodDescriptor "(II)V" = some ⟨[.int, .int], none⟩ := by decide +kernel
theorem pd_1 : parseMethodDescriptor "()V" = some ⟨[], none⟩ := by decide +kernel
theorem pd_2 : parseMethodDescriptor "(Ljava/lang/Runnable;Ljava/util/function/BooleanSupplier;)V" = some ⟨[(.object "java/lang/Runnable"), (.object "java/util/function/BooleanSupplier")], none⟩ := by decide +kernel
theorem pd_3 : parseMethodDescriptor "(Ljava/util/List;)Ljava/util/List;" = some ⟨[(.object "java/util/List")], some (.object "java/util/List")⟩ := by decide +kernel
theorem pd_4 : parseMethodDescriptor "()Ljava/lang/Class;" = some ⟨[], some (.object "java/lang/Class")⟩ := by decide +kernel
theorem pd_5 : parseMethodDescriptor "(Ljava/util/List;)V" = some ⟨[(.object "java/util/List")], none⟩ := by decide +kernel
theorem pd_6 : parseMethodDescriptor "(Ljava/util/Collection;)V" = some ⟨[(.object "java/util/Collection")], none⟩ := by decide +kernel
theorem pd_7 : parseMethodDescriptor "(Lcom/example/postweave/postweave/view/View;)Z" = some ⟨[(.object "com/example/postweave/postweave/view/View")], some .boolean⟩ := by decide +kernel
theorem pd_8 : parseMethodDescriptor "([III)Z" = some ⟨[(.array .int), .int, .int], some .boolean⟩ := by decide +kernel
theorem own_mod (x n : Int32) (hn : 0 < n.toInt) : 0 ≤ ((x &&& (2147483647 : Int32)) % n).toInt ∧ ((x &&& (2147483647 : Int32)) % n).toInt < n.toInt := by
  have h := (c_and x 2147483647 (by decide)).1
  have q := (c_iremV (x &&& 2147483647) n).1 h hn
  exact ⟨q.1, q.2.1⟩
theorem own_cases4 (k : Int32) (h : 0 ≤ k.toInt ∧ k.toInt < (4 : Int32).toInt) : k = (0 : Int32) ∨ k = (1 : Int32) ∨ k = (2 : Int32) ∨ k = (3 : Int32) := by
  have e : (4 : Int32).toInt = 4 := by decide
  have q : k.toInt = 0 ∨ k.toInt = 1 ∨ k.toInt = 2 ∨ k.toInt = 3 := by omega
  rcases q with q | q | q | q
  · exact Or.inl (Int32.toInt_inj.mp (q.trans (by decide)))
  · exact Or.inr (Or.inl (Int32.toInt_inj.mp (q.trans (by decide))))
  · exact Or.inr (Or.inr (Or.inl (Int32.toInt_inj.mp (q.trans (by decide)))))
  · exact Or.inr (Or.inr (Or.inr ((Int32.toInt_inj.mp (q.trans (by decide))))))
theorem own_cases5 (k : Int32) (h : 0 ≤ k.toInt ∧ k.toInt < (5 : Int32).toInt) : k = (0 : Int32) ∨ k = (1 : Int32) ∨ k = (2 : Int32) ∨ k = (3 : Int32) ∨ k = (4 : Int32) := by
  have e : (5 : Int32).toInt = 5 := by decide
  have q : k.toInt = 0 ∨ k.toInt = 1 ∨ k.toInt = 2 ∨ k.toInt = 3 ∨ k.toInt = 4 := by omega
  rcases q with q | q | q | q | q
  · exact Or.inl (Int32.toInt_inj.mp (q.trans (by decide)))
  · exact Or.inr (Or.inl (Int32.toInt_inj.mp (q.trans (by decide))))
  · exact Or.inr (Or.inr (Or.inl (Int32.toInt_inj.mp (q.trans (by decide)))))
  · exact Or.inr (Or.inr (Or.inr (Or.inl (Int32.toInt_inj.mp (q.trans (by decide))))))
  · exact Or.inr (Or.inr (Or.inr (Or.inr ((Int32.toInt_inj.mp (q.trans (by decide)))))))
theorem own_lam {p : Program} {l : Launch} {e : Env} {R : Room} {s : State} {m : MethodId} {args : Array Value} {below : List Frame} {meth : Method} {c : Code} {T Z : State} {locs : List Loc} {cells slots : Nat} {a0 : Array Value} {h : Heap} {y : MethodName} {pc index : Nat} {σ : Lambda.Shape} {tv : FieldType}
    (X : Stand p l e R s m args below meth c T locs cells slots) (hx : p.tables.exec = Jvm.exec) (hZ : Z.Warmed39 s.vm) (hnamed : s.methodNamed? y = some m) (w : (Jvm.Cond.lambdaSite y pc index σ).before a0 Z = true) (wO : (Jvm.Cond.instantiable "java/lang/Object" 0).before a0 Z = true)
    (hcap : σ.captured = [tv]) (hlay : ((σ.file y.cls).bind (layoutFields · 0)).map (·.2.1) = some #[tv]) (ht : tv.isReference = true) (eT : T.heap = h) {g : JFrame} (hg : g.method = m) (hsize : g.locals.size = c.maxLocals) {v : Addr} {rest : List Value} (hs : g.stack = .ref v :: rest) (hpc : g.pc = pc) (hd : decode c.code g.pc = .ok (.invokedynamic index, 5))
    {W : Nat} (hW : 2 * g.monitorRoom + (g.stack.map fun v => v.category).sum ≤ W) (hl : W + 3072 ≤ R.locals) (hcl : cells + 1 ≤ R.cells) (hsl : slots + 1 ≤ R.slots) :
    ∃ T' h', Stand p l e R s m args below meth c T' locs (cells + 1) (slots + 1) ∧ T'.heap = h' ∧ Ext h h' ∧ h.size < h'.size ∧ ∀ target, Steps p.tables e below (T'.setTop { g with pc := g.pc + 5, stack := .ref h.size :: rest }) target → Steps p.tables e below (T.setTop g) target := by
  subst eT
  obtain ⟨cK, one, hat⟩ := Cond.lambdaSite_spec w
  obtain ⟨m', kS, cfS, i0, p0, lk, hm', hkS, hcfS, hshape, -, hfind, hmade, -, hlk⟩ := State.lambdaAt?_spec hat
  have e1 : s.methodNamed? y = Z.methodNamed? y := State.methodNamed?_setVm (s := Z) hZ.alike y
  cases hnamed.symm.trans (e1.trans hm')
  obtain ⟨rfl, rfl, -⟩ : lk = .makes cK ∧ one = none ∧ σ.captured ≠ [] := by
    rcases hlk with ⟨a, cell, -, -, h, -⟩ | h
    · rw [hcap] at h; exact absurd h (by simp)
    · exact h
  obtain ⟨kS', hkS', hnameS⟩ := className_of_methodNamed hm'
  cases hkS.symm.trans hkS'
  obtain ⟨bsm, nt, desc, site, hc, hnt, hsite, hpar⟩ := Lambda.shapeOf?_site hshape
  obtain ⟨kK, hkK, htyK, hkindK, hhid⟩ := Lambda.made_types hmade hkS wO (by rw [hnameS]; exact hlay)
  obtain ⟨kS2, hkS2, heS⟩ := hZ.alike.2.2 _ _ hkS
  obtain ⟨kK2, hkK2, heK⟩ := hZ.alike.2.2 _ _ hkK
  have htyK2 : kK2.instanceTypes = #[tv] := by rw [heK]; exact htyK
  have hkindK2 : kK2.kind = .ordinary := by rw [heK]; exact hkindK
  have hn : narrow tv (.ref v) = .ref v := by cases tv <;> first | (simp [FieldType.isReference] at ht; done) | rfl
  have hft : fits tv (.ref v) = true := by cases tv <;> first | (simp [FieldType.isReference] at ht; done) | rfl
  have hslotsE : ((kK2.instanceTypes.toList.zip [(.ref v : Value)]).map fun (t, v) => narrow t v) = [.ref v] := by
    rw [htyK2]; simp [hn]
  obtain ⟨X1, st1⟩ := X.lambdaMakes hx hg hsize hd (vals := [.ref v]) (rest := rest) hkS2 (by rw [heS, hpc]; exact hfind) (by rw [heS]; exact hcfS) hc hnt (parseLong_of_parse hsite) (by rw [hpar, hcap]; rfl) hs hkK2
    (by rw [X.admits.platform]; exact Nat.le_trans (Nat.add_le_add_right hW 3072) hl) hcl (by rw [hslotsE]; exact hsl)
    (fun i w hv => by
      rw [hslotsE] at hv
      match i, hv with
      | 0, hv => simp at hv; subst hv; simp [State.fitsSlot, State.slotType?, hkK2, hkindK2, htyK2, hft]
      | k + 1, hv => simp at hv)
  rw [hslotsE] at X1 st1
  refine ⟨_, _, X1, rfl, ⟨by show T.heap.size ≤ (T.heap.push _).size; simp, fun a c h => ?_⟩, by show T.heap.size < (T.heap.push _).size; simp, st1⟩
  show (T.heap.push _)[a]? = _
  rw [Array.getElem?_push_lt (Array.getElem?_eq_some_iff.mp h).1]; exact (Array.getElem?_eq_getElem _).symm.trans h
theorem own_face {Z s : State} {a a' : Array Value} {r o n d : String} (hZ : Z.Warmed39 s.vm) (hro : r ≠ o) (hr : r ≠ "java/lang/invoke/MethodHandle" ∧ r ≠ "java/lang/invoke/VarHandle") (w : (Jvm.Cond.interfaceMethod r o n d).before a Z = true) : (Jvm.Cond.interfaceMethod r o n d).before a' s = true := by
  have A := hZ.alike
  obtain ⟨ci, ki, mf, f1, f2, f3, f4, f5⟩ := Cond.interfaceMethod_spec w
  obtain ⟨k1, g1, g2⟩ := Vm.findClass_spec f1
  cases f2.symm.trans g1
  obtain ⟨k2, g3, g4⟩ := Vm.findClass_spec (findClass_of_methodNamed f5)
  have none_here : ki.findMethod n d = none := by
    rcases q : ki.findMethod n d with _ | i
    · rfl
    · have u : Z.methodNamed? ⟨r, n, d⟩ = some ⟨ci, i⟩ := by simp [State.methodNamed?, f1, f2, q]
      have e : Z.methodFound? r n d = some ⟨ci, i⟩ := State.methodFound?_of_named u hr
      rw [Option.some.inj (f4.symm.trans e)] at g3
      cases f2.symm.trans g3
      exact absurd (g2.symm.trans g4) hro
  have poly : ∀ y, signaturePolymorphic ki y = false := fun y => by simp [signaturePolymorphic, g2, hr.1, hr.2]
  obtain ⟨ki', b1, b2⟩ := A.2.2 _ _ f2
  obtain ⟨ko', b3, -⟩ := A.2.2 _ _ g3
  have e1 : s.vm.findClass r = some ci := (A.findClass _ _).trans f1
  have e2 : ki'.isInterface = true := by rw [b2]; exact f3
  have e3 : s.methodFound? r n d = some mf := State.methodFound?_faceFind e1 b1 e2 (by rw [b2]; exact poly) (by rw [b2]; exact none_here) (by rw [A.faceFind]; exact State.faceFind_of_found f1 f2 f3 poly none_here f4) b3
  have e4 : s.methodNamed? ⟨o, n, d⟩ = some mf := (State.methodNamed?_setVm (s := Z) A ⟨o, n, d⟩).trans f5
  simp [Cond.before, Cond.holds, Cond.value, e1, e3, e4, b1, e2]
section
variable {p : Program} {l : Launch} {e : Env} {R : Room} {s : State} {m : MethodId} {args : Array Value} {below : List Frame} {meth : Method} {c : Code} {T Z : State} {locs : List Loc} {cells slots : Nat} {a0 : Array Value} {h : Heap}
theorem own_gcI {own C I : String} {index count : Nat} {b mr : Addr} (X : Stand p l e R s m args below meth c T locs cells slots) (hx : p.tables.exec = Jvm.exec) (hZ : Z.Warmed39 s.vm) (hown : s.vm.findClass own = some m.cls)
    (w1 : (Jvm.Cond.methodLink own index ⟨I, "getClass", "()Ljava/lang/Class;"⟩).before args s = true) (w2 : (Jvm.Cond.declares ⟨"java/lang/Object", "getClass", "()Ljava/lang/Class;"⟩).before args s = true) (w3 : (Jvm.Cond.interfaceMethod I "java/lang/Object" "getClass" "()Ljava/lang/Class;").before args s = true)
    (w4 : (Jvm.Cond.selects C ⟨I, "getClass", "()Ljava/lang/Class;"⟩ ⟨"java/lang/Object", "getClass", "()Ljava/lang/Class;"⟩).before args s = true) (w5 : (Jvm.Cond.instanceMethod ⟨"java/lang/Object", "getClass", "()Ljava/lang/Class;"⟩).before args s = true) (w6 : (Jvm.Cond.publicMethod ⟨"java/lang/Object", "getClass", "()Ljava/lang/Class;"⟩).before args s = true)
    (w7 : (Jvm.Cond.unhidden C "getClass" "()Ljava/lang/Class;").before args s = true) (w8 : (Jvm.Cond.castable C I).before args s = true) (w9 : (Jvm.Cond.native ⟨"java/lang/Object", "getClass", "()Ljava/lang/Class;"⟩).before args s = true) (hI : I ≠ "java/lang/invoke/MethodHandle" ∧ I ≠ "java/lang/invoke/VarHandle") (hIo : I ≠ "java/lang/Object")
    (eT : T.heap = h) (E : Exa Z h b C) (M : Mir Z C mr) {g : JFrame} (hg : g.method = m) (hsize : g.locals.size = c.maxLocals) {rest : List Value} (hs : g.stack = .ref b :: rest) (hd : decode c.code g.pc = .ok (.invokeinterface index count, 5)) (hf : 1 ≤ R.frames) {W : Nat} (hW : 2 * g.monitorRoom + (rest.map fun v => v.category).sum ≤ W) (hl : W + (nativeFrameWords "java/lang/Object" "getClass" 1 + 11) ≤ R.locals) :
    ∃ T', Stand p l e R s m args below meth c T' locs cells slots ∧ T'.heap = h ∧ ∀ target, Steps p.tables e below (T'.setTop { g with pc := g.pc + 5, stack := .ref mr :: rest }) target → Steps p.tables e below (T.setTop g) target := by
  obtain ⟨cB, kB, i1, i2, i3⟩ := isOf hZ eT E
  obtain ⟨cc, kc, m1, m2, m3, -⟩ := M
  obtain ⟨k', q, ek⟩ := hZ.alike.2.2 _ _ m2
  rw [hZ.alike.findClass] at i1
  cases m1.symm.trans i1
  cases q.symm.trans i2
  obtain ⟨vm1, X1, st⟩ := X.getClassOfI hx hown w1 w2 w3 w4 w5 w6 w7 w8 w9 hI hIo rfl rfl (by rw [hZ.alike.findClass]; exact m1) q i3 (by rw [ek]; exact m3) hg hsize hs hd hf (Nat.le_trans (Nat.add_le_add_right hW _) hl)
  exact ⟨_, X1, eT, st⟩
theorem own_ldcC {own C : String} {index : Nat} {mr : Addr} (X : Stand p l e R s m args below meth c T locs cells slots) (hx : p.tables.exec = Jvm.exec) (hZ : Z.Warmed39 s.vm) (hown : s.vm.findClass own = some m.cls) (w : (Jvm.Cond.classLink own index C).before a0 Z = true) (M : Mir Z C mr) (eT : T.heap = h)
    {g : JFrame} (hg : g.method = m) (hd : decode c.code g.pc = .ok (.ldc index, 2)) : ∃ T', Stand p l e R s m args below meth c T' locs cells slots ∧ T'.heap = h ∧ ∀ target, Steps p.tables e below (T'.setTop { g with pc := g.pc + 2, stack := .ref mr :: g.stack }) target → Steps p.tables e below (T.setTop g) target := by
  obtain ⟨cc, kc, m1, m2, m3, -⟩ := M
  obtain ⟨k', q, ek⟩ := hZ.alike.2.2 _ _ m2
  have e1 : s.vm.findClass C = some cc := by rw [hZ.alike.findClass]; exact m1
  have e2 : k'.mirror = some mr := by rw [ek]; exact m3
  obtain ⟨vm1, X1, st⟩ := X.ldcMirror hx hown (mv hZ w) (a := mr) (by simp [Term.eval, e1, q, e2]) hg hd
  exact ⟨_, X1, eT, st⟩
end
def Q_rm_TL (Z : State) (a : Addr) (ni nmi : Addr) (h0 : Heap) (n0 : Nat) (v : Option Value) (h : Heap) (L : List Loc) : Prop := v = none ∧ Fr n0 L ∧ Keep h0 h [a]
set_option maxRecDepth 65536 in
set_option maxHeartbeats 40000000 in
theorem rm_TL (l : Launch) (Z : State) (a0 : Array Value) (hw : ∀ d ∈ tables_1, d.before a0 Z = true) (ws : List Jvm.Cond) (a : Addr) (ni nmi : Addr) (h0 : Heap) (n0 : Nat) (O0 : Old Z n0 h0) (E_a : Exa Z h0 a "com/example/postweave/postweave/util/TimedList") (F_items : Fld Z h0 a "com/example/postweave/postweave/util/TimedList" "items" "[Ljava/lang/Object;" .null) (F_millis : Fld Z h0 a "com/example/postweave/postweave/util/TimedList" "millis" "[J" .null) (g_a : n0 ≤ a) (S_ni : Sta Z Z.heap "com/example/postweave/postweave/util/TimedList" "NO_ITEMS" "[Ljava/lang/Object;" (.ref ni)) (S_nm : Sta Z Z.heap "com/example/postweave/postweave/util/TimedList" "NO_MILLIS" "[J" (.ref nmi)) :
    MetFree l (⟨"com/example/postweave/postweave/util/TimedList", "<init>", "()V"⟩ : MethodName) (head1 (Jvm.Cond.code (⟨"com/example/postweave/postweave/util/TimedList", "<init>", "()V"⟩ : MethodName) prog_36_method_1_code 1 none :: ws) ({ frames := 1, cells := 0, slots := 0, locals := 12 } : Room)) (fun ar U => ar = #[(.ref a)] ∧ Z.Warmed39 U.vm ∧ U.heap = h0) (fun _ _ _ _ _ => True) (fun _ U o U' => ∃ v L, o = .returned v ∧ Q_rm_TL Z a ni nmi h0 n0 v U'.heap L ∧ FrameEnd U o U' L ({ frames := 1, cells := 0, slots := 0, locals := 12 } : Room).cells ({ frames := 1, cells := 0, slots := 0, locals := 12 } : Room).slots) := by
  refine own_enter (Q := (Q_rm_TL Z a ni nmi h0 n0)) pl_5 ?_
  intro p e s m below meth c s₁ X0 hx hZ hby hml hown hnm hret hlk e0 hnamed
  have N0 := Fr.nil n0
  refine own_by (fun tz kz => castTop (g' := (mkF m 0 #[.val (.ref a)] [])) (by first | (simp [entryFrame, mkF, argsToLocals, Value.category]; done) | rfl) kz) ?_
  have K0 := Keep.refl h0 [a]
  show own_Go p e below s _ _ (s₁.setTop (mkF m 0 #[.val (.ref a)] []))
  refine own_by (fun tz kz => XS.aloadN X0.here hx rfl (hb hby d5_0) rfl rfl kz) ?_
  show own_Go p e below s _ _ (s₁.setTop (mkF m 1 #[.val (.ref a)] [(.ref a)]))
  obtain ⟨T1, X1, e1, st1⟩ := initO X0 hx hZ hown (hw _ (List.mem_of_getElem? (i := 37) rfl)) (hw _ (List.mem_of_getElem? (i := 12) rfl)) (hw _ (List.mem_of_getElem? (i := 13) rfl)) e0 (g := (mkF m 1 #[.val (.ref a)] [(.ref a)])) rfl (by rw [hml]; rfl) rfl (hb hby d5_1) (by decide) (W := 0) (by show 2 * 0 + _ ≤ _; exact Nat.le_of_eq rfl) (by decide)
  refine own_by st1 ?_
  show own_Go p e below s _ _ (T1.setTop (mkF m 4 #[.val (.ref a)] []))
  refine own_by (fun tz kz => XS.aloadN X1.here hx rfl (hb hby d5_4) rfl rfl kz) ?_
  show own_Go p e below s _ _ (T1.setTop (mkF m 5 #[.val (.ref a)] [(.ref a)]))
  obtain ⟨T2, X2, e2, st2⟩ := getS2 X1 hx hZ hown (host := "") (Or.inl (hw _ (List.mem_of_getElem? (i := 38) rfl))) Via.refl e1 (S_ni.ext O0.2) (g := (mkF m 5 #[.val (.ref a)] [(.ref a)])) rfl (hb hby d5_5)
  refine own_by st2 ?_
  show own_Go p e below s _ _ (T2.setTop (mkF m 8 #[.val (.ref a)] [(.ref ni), (.ref a)]))
  obtain ⟨T3, h3, X3, e3, W3, st3⟩ := putF X2 hx hZ hown (host := "") (Or.inl (hw _ (List.mem_of_getElem? (i := 40) rfl))) Via.refl e2 F_items E_a (Or.inl (hw _ (List.mem_of_getElem? (i := 41) rfl))) (hw _ (List.mem_of_getElem? (i := 32) rfl)) (ty := (.array (.object "java/lang/Object"))) (by decide) rfl rfl (g := (mkF m 8 #[.val (.ref a)] [(.ref ni), (.ref a)])) rfl rfl (hb hby d5_8)
  have Fw3 := F_items.same W3
  have O3 := O0.wr W3 g_a
  have N3 := Fr.snoc X3 N0 g_a
  have K3 := K0.wr W3 (Or.inl (List.mem_of_getElem? (i := 0) rfl))
  refine own_by st3 ?_
  show own_Go p e below s _ _ (T3.setTop (mkF m 11 #[.val (.ref a)] []))
  refine own_by (fun tz kz => XS.aloadN X3.here hx rfl (hb hby d5_11) rfl rfl kz) ?_
  show own_Go p e below s _ _ (T3.setTop (mkF m 12 #[.val (.ref a)] [(.ref a)]))
  obtain ⟨T4, X4, e4, st4⟩ := getS2 X3 hx hZ hown (host := "") (Or.inl (hw _ (List.mem_of_getElem? (i := 42) rfl))) Via.refl e3 (S_nm.ext O3.2) (g := (mkF m 12 #[.val (.ref a)] [(.ref a)])) rfl (hb hby d5_12)
  refine own_by st4 ?_
  show own_Go p e below s _ _ (T4.setTop (mkF m 15 #[.val (.ref a)] [(.ref nmi), (.ref a)]))
  have f5 := (F_millis.other W3 (Or.inr (slot_ne (Or.inl (hw _ (List.mem_of_getElem? (i := 45) rfl))) (Or.inl (hw _ (List.mem_of_getElem? (i := 41) rfl))) (by decide) (t := (.array .long)) (t' := (.array (.object "java/lang/Object"))) (by decide) (by decide))))
  have f6 := (E_a.wr W3)
  obtain ⟨T7, h7, X7, e7, W7, st7⟩ := putF X4 hx hZ hown (host := "") (Or.inl (hw _ (List.mem_of_getElem? (i := 44) rfl))) Via.refl e4 f5 f6 (Or.inl (hw _ (List.mem_of_getElem? (i := 45) rfl))) (hw _ (List.mem_of_getElem? (i := 32) rfl)) (ty := (.array .long)) (by decide) rfl rfl (g := (mkF m 15 #[.val (.ref a)] [(.ref nmi), (.ref a)])) rfl rfl (hb hby d5_15)
  have Fw7 := f5.same W7
  have O7 := O3.wr W7 g_a
  have N7 := Fr.snoc X7 N3 g_a
  have K7 := K3.wr W7 (Or.inl (List.mem_of_getElem? (i := 0) rfl))
  refine own_by st7 ?_
  show own_Go p e below s _ _ (T7.setTop (mkF m 18 #[.val (.ref a)] []))
  refine own_retV X7 hx hlk hret (hb hby d5_18) ?_ (by decide) (by decide)
  exact ⟨rfl, N7, by rw [e7]; exact K7⟩
def Q_rm_VP (Z : State) (a : Addr) (r1 r2 : Addr) (ni nmi : Addr) (h0 : Heap) (n0 : Nat) (v : Option Value) (h : Heap) (L : List Loc) : Prop := v = none ∧ Fr n0 L ∧ Keep h0 h [a]
set_option maxRecDepth 65536 in
set_option maxHeartbeats 40000000 in
theorem rm_VP (l : Launch) (Z : State) (a0 : Array Value) (hw : ∀ d ∈ tables_1, d.before a0 Z = true) (ws : List Jvm.Cond) (a : Addr) (r1 r2 : Addr) (ni nmi : Addr) (h0 : Heap) (n0 : Nat) (O0 : Old Z n0 h0) (E_a : Exa Z h0 a "com/example/postweave/postweave/view/ViewPosts") (F_lock : Fld Z h0 a "com/example/postweave/postweave/view/ViewPosts" "lock" "Ljava/lang/Object;" .null) (F_waiting : Fld Z h0 a "com/example/postweave/postweave/view/ViewPosts" "waiting" "Lcom/example/postweave/postweave/util/TimedList;" .null) (F_redraw : Fld Z h0 a "com/example/postweave/postweave/view/ViewPosts" "redraw" "Ljava/lang/Runnable;" .null) (F_treeLoopHasQuit : Fld Z h0 a "com/example/postweave/postweave/view/ViewPosts" "treeLoopHasQuit" "Ljava/util/function/BooleanSupplier;" .null) (g_a : n0 ≤ a) (S_ni : Sta Z Z.heap "com/example/postweave/postweave/util/TimedList" "NO_ITEMS" "[Ljava/lang/Object;" (.ref ni)) (S_nm : Sta Z Z.heap "com/example/postweave/postweave/util/TimedList" "NO_MILLIS" "[J" (.ref nmi)) :
    MetFree l (⟨"com/example/postweave/postweave/view/ViewPosts", "<init>", "(Ljava/lang/Runnable;Ljava/util/function/BooleanSupplier;)V"⟩ : MethodName) (head1 (Jvm.Cond.code (⟨"com/example/postweave/postweave/view/ViewPosts", "<init>", "(Ljava/lang/Runnable;Ljava/util/function/BooleanSupplier;)V"⟩ : MethodName) prog_40_method_1_code 3 none :: ws) ({ frames := 2, cells := 2, slots := 4, locals := 28 } : Room)) (fun ar U => ar = #[(.ref a), (.ref r1), (.ref r2)] ∧ Z.Warmed39 U.vm ∧ U.heap = h0) (fun _ _ _ _ _ => True) (fun _ U o U' => ∃ v L, o = .returned v ∧ Q_rm_VP Z a r1 r2 ni nmi h0 n0 v U'.heap L ∧ FrameEnd U o U' L ({ frames := 2, cells := 2, slots := 4, locals := 28 } : Room).cells ({ frames := 2, cells := 2, slots := 4, locals := 28 } : Room).slots) := by
  refine own_enter (Q := (Q_rm_VP Z a r1 r2 ni nmi h0 n0)) pl_4 ?_
  intro p e s m below meth c s₁ X0 hx hZ hby hml hown hnm hret hlk e0 hnamed
  have N0 := Fr.nil n0
  refine own_by (fun tz kz => castTop (g' := (mkF m 0 #[.val (.ref a), .val (.ref r1), .val (.ref r2)] [])) (by first | (simp [entryFrame, mkF, argsToLocals, Value.category]; done) | rfl) kz) ?_
  have K0 := Keep.refl h0 [a]
  show own_Go p e below s _ _ (s₁.setTop (mkF m 0 #[.val (.ref a), .val (.ref r1), .val (.ref r2)] []))
  refine own_by (fun tz kz => XS.aloadN X0.here hx rfl (hb hby d4_0) rfl rfl kz) ?_
  show own_Go p e below s _ _ (s₁.setTop (mkF m 1 #[.val (.ref a), .val (.ref r1), .val (.ref r2)] [(.ref a)]))
  obtain ⟨T1, X1, e1, st1⟩ := initO X0 hx hZ hown (hw _ (List.mem_of_getElem? (i := 26) rfl)) (hw _ (List.mem_of_getElem? (i := 12) rfl)) (hw _ (List.mem_of_getElem? (i := 13) rfl)) e0 (g := (mkF m 1 #[.val (.ref a), .val (.ref r1), .val (.ref r2)] [(.ref a)])) rfl (by rw [hml]; rfl) rfl (hb hby d4_1) (by decide) (W := 0) (by show 2 * 0 + _ ≤ _; exact Nat.le_of_eq rfl) (by decide)
  refine own_by st1 ?_
  show own_Go p e below s _ _ (T1.setTop (mkF m 4 #[.val (.ref a), .val (.ref r1), .val (.ref r2)] []))
  refine own_by (fun tz kz => XS.aloadN X1.here hx rfl (hb hby d4_4) rfl rfl kz) ?_
  show own_Go p e below s _ _ (T1.setTop (mkF m 5 #[.val (.ref a), .val (.ref r1), .val (.ref r2)] [(.ref a)]))
  obtain ⟨T2, h2, X2, e2, E2, A2, D2, -, st2⟩ := newO X1 hx hZ hown (hw _ (List.mem_of_getElem? (i := 27) rfl)) (hw _ (List.mem_of_getElem? (i := 20) rfl)) (hw _ (List.mem_of_getElem? (i := 28) rfl)) e1 (g := (mkF m 5 #[.val (.ref a), .val (.ref r1), .val (.ref r2)] [(.ref a)])) rfl (hb hby d4_5) (by decide) (by decide)
  obtain ⟨b2, g2⟩ : ∃ z, z = h0.size := ⟨_, rfl⟩
  have ne_a_b2 : a ≠ b2 := by rw [g2]; exact Nat.ne_of_lt E_a.lt
  rw [← g2] at A2 D2 st2
  have g_b2 : n0 ≤ b2 := by rw [g2]; exact O0.1 ▸ O0.2.1
  have sz_b2 : h0.size ≤ b2 := by rw [g2]; exact K0.1
  have O2 := O0.ext E2
  have K2 := K0.ext E2
  refine own_by st2 ?_
  show own_Go p e below s _ _ (T2.setTop (mkF m 8 #[.val (.ref a), .val (.ref r1), .val (.ref r2)] [(.ref b2), (.ref a)]))
  refine own_by (fun tz kz => XS.dup X2.here hx rfl (hb hby d4_8) rfl rfl kz) ?_
  show own_Go p e below s _ _ (T2.setTop (mkF m 9 #[.val (.ref a), .val (.ref r1), .val (.ref r2)] [(.ref b2), (.ref b2), (.ref a)]))
  obtain ⟨T3, X3, e3, st3⟩ := initO X2 hx hZ hown (hw _ (List.mem_of_getElem? (i := 26) rfl)) (hw _ (List.mem_of_getElem? (i := 12) rfl)) (hw _ (List.mem_of_getElem? (i := 13) rfl)) e2 (g := (mkF m 9 #[.val (.ref a), .val (.ref r1), .val (.ref r2)] [(.ref b2), (.ref b2), (.ref a)])) rfl (by rw [hml]; rfl) rfl (hb hby d4_9) (by decide) (W := 2) (by show 2 * 0 + _ ≤ _; exact Nat.le_of_eq rfl) (by decide)
  refine own_by st3 ?_
  show own_Go p e below s _ _ (T3.setTop (mkF m 12 #[.val (.ref a), .val (.ref r1), .val (.ref r2)] [(.ref b2), (.ref a)]))
  have f4 := (F_lock.ext E2)
  have f5 := (E_a.ext E2)
  obtain ⟨T6, h6, X6, e6, W6, st6⟩ := putF X3 hx hZ hown (host := "") (Or.inl (hw _ (List.mem_of_getElem? (i := 29) rfl))) Via.refl e3 f4 f5 (Or.inr ⟨(hw _ (List.mem_of_getElem? (i := 30) rfl)), rfl, hnm⟩) (hw _ (List.mem_of_getElem? (i := 15) rfl)) (ty := (.object "java/lang/Object")) (by decide) rfl rfl (g := (mkF m 12 #[.val (.ref a), .val (.ref r1), .val (.ref r2)] [(.ref b2), (.ref a)])) rfl rfl (hb hby d4_12)
  have Fw6 := f4.same W6
  have O6 := O2.wr W6 g_a
  have N6 := Fr.snoc X6 N0 g_a
  have K6 := K2.wr W6 (Or.inl (List.mem_of_getElem? (i := 0) rfl))
  refine own_by st6 ?_
  show own_Go p e below s _ _ (T6.setTop (mkF m 15 #[.val (.ref a), .val (.ref r1), .val (.ref r2)] []))
  refine own_by (fun tz kz => XS.aloadN X6.here hx rfl (hb hby d4_15) rfl rfl kz) ?_
  show own_Go p e below s _ _ (T6.setTop (mkF m 16 #[.val (.ref a), .val (.ref r1), .val (.ref r2)] [(.ref a)]))
  obtain ⟨T7, h7, X7, e7, E7, A7, D7, -, st7⟩ := newO X6 hx hZ hown (hw _ (List.mem_of_getElem? (i := 31) rfl)) (hw _ (List.mem_of_getElem? (i := 32) rfl)) (hw _ (List.mem_of_getElem? (i := 33) rfl)) e6 (g := (mkF m 16 #[.val (.ref a), .val (.ref r1), .val (.ref r2)] [(.ref a)])) rfl (hb hby d4_16) (by decide) (by decide)
  obtain ⟨b7, g7⟩ : ∃ z, z = h6.size := ⟨_, rfl⟩
  have f8 := (f5.wr W6)
  have ne_a_b7 : a ≠ b7 := by rw [g7]; exact Nat.ne_of_lt f8.lt
  have f9 := (A2.wr W6)
  have ne_b2_b7 : b2 ≠ b7 := by rw [g7]; exact Nat.ne_of_lt f9.lt
  rw [← g7] at A7 D7 st7
  have g_b7 : n0 ≤ b7 := by rw [g7]; exact O6.1 ▸ O6.2.1
  have sz_b7 : h0.size ≤ b7 := by rw [g7]; exact K6.1
  have O7 := O6.ext E7
  have K7 := K6.ext E7
  refine own_by st7 ?_
  have F7_items : Fld Z h7 b7 "com/example/postweave/postweave/util/TimedList" "items" "[Ljava/lang/Object;" .null := D7 (Or.inl (hw _ (List.mem_of_getElem? (i := 41) rfl))) (ty := (.array (.object "java/lang/Object"))) (by decide)
  have F7_millis : Fld Z h7 b7 "com/example/postweave/postweave/util/TimedList" "millis" "[J" .null := D7 (Or.inl (hw _ (List.mem_of_getElem? (i := 45) rfl))) (ty := (.array .long)) (by decide)
  show own_Go p e below s _ _ (T7.setTop (mkF m 19 #[.val (.ref a), .val (.ref r1), .val (.ref r2)] [(.ref b7), (.ref a)]))
  refine own_by (fun tz kz => XS.dup X7.here hx rfl (hb hby d4_19) rfl rfl kz) ?_
  show own_Go p e below s _ _ (T7.setTop (mkF m 20 #[.val (.ref a), .val (.ref r1), .val (.ref r2)] [(.ref b7), (.ref b7), (.ref a)]))
  obtain ⟨_, _, ⟨T10, L10, k10, n10⟩, -, X10, ⟨Lc10, hQ10, l10, y10, z10⟩, st10⟩ := X7.specialBack hx (y := (⟨"com/example/postweave/postweave/util/TimedList", "<init>", "()V"⟩ : MethodName)) rfl hown (mvT hZ (hw _ (List.mem_of_getElem? (i := 34) rfl))) (mvT hZ (hw _ (List.mem_of_getElem? (i := 35) rfl))) (mvT hZ (hw _ (List.mem_of_getElem? (i := 36) rfl))) (by decide) (backOf (W := 2) (rm_TL l Z a0 hw [] b7 ni nmi h7 n0 O7 A7 F7_items F7_millis g_b7 S_ni S_nm) hZ (hw _ (List.mem_of_getElem? (i := 36) rfl)) (hw _ (List.mem_of_getElem? (i := 33) rfl)) (by decide) (by decide)) (g := (mkF m 20 #[.val (.ref a), .val (.ref r1), .val (.ref r2)] [(.ref b7), (.ref b7), (.ref a)])) rfl (by rw [hml]; rfl) (Steps.refl _) (a := b7) (argsL := []) (rest := [(.ref b7), (.ref a)]) (lenOf pd_1 rfl) rfl (by show 2 * 0 + _ ≤ _; exact Nat.le_of_eq rfl) (hb hby d4_20) (fun _ _ => ⟨rfl, e7, (by decide : 2 + 0 ≤ _), (by decide : 4 + 0 ≤ _)⟩)
  dsimp only [Pt.U, Pt.locs, Pt.cells, Pt.slots] at X10 l10 y10 z10 st10 hQ10
  rw [l10, y10, z10] at X10
  obtain ⟨rfl, Nq10, Kq10⟩ := hQ10
  have N10 := Fr.app N6 Nq10
  have e10 : T10.heap = T10.heap := rfl
  refine own_via st10 ?_
  have O10 := O7.keep Kq10 (allS g_b7 all0)
  have K10 := K7.trans Kq10 (allS (Or.inr sz_b7) all0)
  show own_Go p e below s _ _ (T10.setTop (mkF m 23 #[.val (.ref a), .val (.ref r1), .val (.ref r2)] [(.ref b7), (.ref a)]))
  have f11 := ((((F_waiting.ext E2).other W6 (Or.inr (slot_ne (Or.inr (hw _ (List.mem_of_getElem? (i := 47) rfl))) (Or.inr (hw _ (List.mem_of_getElem? (i := 30) rfl))) (by decide) (t := (.object "com/example/postweave/postweave/util/TimedList")) (t' := (.object "java/lang/Object")) (by decide) (by decide)))).ext E7).keep Kq10 (ninS ne_a_b7 nin0))
  have f12 := ((f8.ext E7).keep Kq10)
  obtain ⟨T13, h13, X13, e13, W13, st13⟩ := putF X10 hx hZ hown (host := "") (Or.inl (hw _ (List.mem_of_getElem? (i := 46) rfl))) Via.refl e10 f11 f12 (Or.inr ⟨(hw _ (List.mem_of_getElem? (i := 47) rfl)), rfl, hnm⟩) (hw _ (List.mem_of_getElem? (i := 15) rfl)) (ty := (.object "com/example/postweave/postweave/util/TimedList")) (by decide) rfl rfl (g := (mkF m 23 #[.val (.ref a), .val (.ref r1), .val (.ref r2)] [(.ref b7), (.ref a)])) rfl rfl (hb hby d4_23)
  have Fw13 := f11.same W13
  have O13 := O10.wr W13 g_a
  have N13 := Fr.snoc X13 N10 g_a
  have K13 := K10.wr W13 (Or.inl (List.mem_of_getElem? (i := 0) rfl))
  refine own_by st13 ?_
  show own_Go p e below s _ _ (T13.setTop (mkF m 26 #[.val (.ref a), .val (.ref r1), .val (.ref r2)] []))
  refine own_by (fun tz kz => XS.aloadN X13.here hx rfl (hb hby d4_26) rfl rfl kz) ?_
  show own_Go p e below s _ _ (T13.setTop (mkF m 27 #[.val (.ref a), .val (.ref r1), .val (.ref r2)] [(.ref a)]))
  refine own_by (fun tz kz => XS.aloadN X13.here hx rfl (hb hby d4_27) rfl rfl kz) ?_
  show own_Go p e below s _ _ (T13.setTop (mkF m 28 #[.val (.ref a), .val (.ref r1), .val (.ref r2)] [(.ref r1), (.ref a)]))
  have f14 := (((((F_redraw.ext E2).other W6 (Or.inr (slot_ne (Or.inr (hw _ (List.mem_of_getElem? (i := 49) rfl))) (Or.inr (hw _ (List.mem_of_getElem? (i := 30) rfl))) (by decide) (t := (.object "java/lang/Runnable")) (t' := (.object "java/lang/Object")) (by decide) (by decide)))).ext E7).keep Kq10 (ninS ne_a_b7 nin0)).other W13 (Or.inr (slot_ne (Or.inr (hw _ (List.mem_of_getElem? (i := 49) rfl))) (Or.inr (hw _ (List.mem_of_getElem? (i := 47) rfl))) (by decide) (t := (.object "java/lang/Runnable")) (t' := (.object "com/example/postweave/postweave/util/TimedList")) (by decide) (by decide))))
  have f15 := (f12.wr W13)
  obtain ⟨T16, h16, X16, e16, W16, st16⟩ := putF X13 hx hZ hown (host := "") (Or.inl (hw _ (List.mem_of_getElem? (i := 48) rfl))) Via.refl e13 f14 f15 (Or.inr ⟨(hw _ (List.mem_of_getElem? (i := 49) rfl)), rfl, hnm⟩) (hw _ (List.mem_of_getElem? (i := 15) rfl)) (ty := (.object "java/lang/Runnable")) (by decide) rfl rfl (g := (mkF m 28 #[.val (.ref a), .val (.ref r1), .val (.ref r2)] [(.ref r1), (.ref a)])) rfl rfl (hb hby d4_28)
  have Fw16 := f14.same W16
  have O16 := O13.wr W16 g_a
  have N16 := Fr.snoc X16 N13 g_a
  have K16 := K13.wr W16 (Or.inl (List.mem_of_getElem? (i := 0) rfl))
  refine own_by st16 ?_
  show own_Go p e below s _ _ (T16.setTop (mkF m 31 #[.val (.ref a), .val (.ref r1), .val (.ref r2)] []))
  refine own_by (fun tz kz => XS.aloadN X16.here hx rfl (hb hby d4_31) rfl rfl kz) ?_
  show own_Go p e below s _ _ (T16.setTop (mkF m 32 #[.val (.ref a), .val (.ref r1), .val (.ref r2)] [(.ref a)]))
  refine own_by (fun tz kz => XS.aloadN X16.here hx rfl (hb hby d4_32) rfl rfl kz) ?_
  show own_Go p e below s _ _ (T16.setTop (mkF m 33 #[.val (.ref a), .val (.ref r1), .val (.ref r2)] [(.ref r2), (.ref a)]))
  have f17 := ((((((F_treeLoopHasQuit.ext E2).other W6 (Or.inr (slot_ne (Or.inr (hw _ (List.mem_of_getElem? (i := 51) rfl))) (Or.inr (hw _ (List.mem_of_getElem? (i := 30) rfl))) (by decide) (t := (.object "java/util/function/BooleanSupplier")) (t' := (.object "java/lang/Object")) (by decide) (by decide)))).ext E7).keep Kq10 (ninS ne_a_b7 nin0)).other W13 (Or.inr (slot_ne (Or.inr (hw _ (List.mem_of_getElem? (i := 51) rfl))) (Or.inr (hw _ (List.mem_of_getElem? (i := 47) rfl))) (by decide) (t := (.object "java/util/function/BooleanSupplier")) (t' := (.object "com/example/postweave/postweave/util/TimedList")) (by decide) (by decide)))).other W16 (Or.inr (slot_ne (Or.inr (hw _ (List.mem_of_getElem? (i := 51) rfl))) (Or.inr (hw _ (List.mem_of_getElem? (i := 49) rfl))) (by decide) (t := (.object "java/util/function/BooleanSupplier")) (t' := (.object "java/lang/Runnable")) (by decide) (by decide))))
  have f18 := (f15.wr W16)
  obtain ⟨T19, h19, X19, e19, W19, st19⟩ := putF X16 hx hZ hown (host := "") (Or.inl (hw _ (List.mem_of_getElem? (i := 50) rfl))) Via.refl e16 f17 f18 (Or.inr ⟨(hw _ (List.mem_of_getElem? (i := 51) rfl)), rfl, hnm⟩) (hw _ (List.mem_of_getElem? (i := 15) rfl)) (ty := (.object "java/util/function/BooleanSupplier")) (by decide) rfl rfl (g := (mkF m 33 #[.val (.ref a), .val (.ref r1), .val (.ref r2)] [(.ref r2), (.ref a)])) rfl rfl (hb hby d4_33)
  have Fw19 := f17.same W19
  have O19 := O16.wr W19 g_a
  have N19 := Fr.snoc X19 N16 g_a
  have K19 := K16.wr W19 (Or.inl (List.mem_of_getElem? (i := 0) rfl))
  refine own_by st19 ?_
  show own_Go p e below s _ _ (T19.setTop (mkF m 36 #[.val (.ref a), .val (.ref r1), .val (.ref r2)] []))
  refine own_retV X19 hx hlk hret (hb hby d4_36) ?_ (by decide) (by decide)
  exact ⟨rfl, N19, by rw [e19]; exact K19⟩
def Q_rm_rs (Z : State) (x0 x1 : Int32) (h0 : Heap) (n0 : Nat) (v : Option Value) (h : Heap) (L : List Loc) : Prop := v = none ∧ Fr n0 L ∧ h = h0
set_option maxRecDepth 65536 in
set_option maxHeartbeats 40000000 in
theorem rm_rs (l : Launch) (Z : State) (a0 : Array Value) (hw : ∀ d ∈ tables_1, d.before a0 Z = true) (ws : List Jvm.Cond) (x0 x1 : Int32) (h0 : Heap) (n0 : Nat) (hx0 : ¬ x0 < (0 : Int32)) (hx1 : ¬ x1 < (0 : Int32)) :
    MetFree l (⟨"com/example/postweave/postweave/view/View", "requireSize", "(II)V"⟩ : MethodName) (head1 (Jvm.Cond.code (⟨"com/example/postweave/postweave/view/View", "requireSize", "(II)V"⟩ : MethodName) prog_37_method_32_code 2 none :: ws) ({ frames := 0, cells := 0, slots := 0, locals := 0 } : Room)) (fun ar U => ar = #[(.int x0), (.int x1)] ∧ Z.Warmed39 U.vm ∧ U.heap = h0) (fun _ _ _ _ _ => True) (fun _ U o U' => ∃ v L, o = .returned v ∧ Q_rm_rs Z x0 x1 h0 n0 v U'.heap L ∧ FrameEnd U o U' L ({ frames := 0, cells := 0, slots := 0, locals := 0 } : Room).cells ({ frames := 0, cells := 0, slots := 0, locals := 0 } : Room).slots) := by
  refine own_enter (Q := (Q_rm_rs Z x0 x1 h0 n0)) pl_6 ?_
  intro p e s m below meth c s₁ X0 hx hZ hby hml hown hnm hret hlk e0 hnamed
  have N0 := Fr.nil n0
  refine own_by (fun tz kz => castTop (g' := (mkF m 0 #[.val (.int x0), .val (.int x1)] [])) (by first | (simp [entryFrame, mkF, argsToLocals, Value.category]; done) | rfl) kz) ?_
  show own_Go p e below s _ _ (s₁.setTop (mkF m 0 #[.val (.int x0), .val (.int x1)] []))
  refine own_by (fun tz kz => XS.iloadN X0.here hx rfl (hb hby d6_0) rfl  kz) ?_
  show own_Go p e below s _ _ (s₁.setTop (mkF m 1 #[.val (.int x0), .val (.int x1)] [(.int x0)]))
  refine own_by (fun tz kz => XS.ifNo X0.here hx rfl (hb hby d6_1) rfl ((if0 _ _).trans (flt hx0).1) kz) ?_
  show own_Go p e below s _ _ (s₁.setTop (mkF m 4 #[.val (.int x0), .val (.int x1)] []))
  refine own_by (fun tz kz => XS.iloadN X0.here hx rfl (hb hby d6_4) rfl  kz) ?_
  show own_Go p e below s _ _ (s₁.setTop (mkF m 5 #[.val (.int x0), .val (.int x1)] [(.int x1)]))
  refine own_by (fun tz kz => XS.ifYes X0.here hx rfl (pc0 := 5) (pc' := 23) rfl (hb hby d6_5) rfl ((if0 _ _).trans (flt hx1).2.1) (by decide) (by decide) kz) ?_
  show own_Go p e below s _ _ (s₁.setTop (mkF m 23 #[.val (.int x0), .val (.int x1)] []))
  refine own_retV X0 hx hlk hret (hb hby d6_23) ?_ (by decide) (by decide)
  exact ⟨rfl, N0, e0⟩
def Q_rm_V (Z : State) (a : Addr) (x0 x1 : Int32) (ni nmi : Addr) (h0 : Heap) (n0 : Nat) (v : Option Value) (h : Heap) (L : List Loc) : Prop := v = none ∧ Fr n0 L ∧ Keep h0 h [a] ∧ Fld Z h a "com/example/postweave/postweave/view/View" "parent" "Lcom/example/postweave/postweave/view/ViewGroup;" .null
set_option maxRecDepth 65536 in
set_option maxHeartbeats 40000000 in
theorem rm_V (l : Launch) (Z : State) (a0 : Array Value) (hw : ∀ d ∈ tables_1, d.before a0 Z = true) (ws : List Jvm.Cond) (a : Addr) (x0 x1 : Int32) (ni nmi : Addr) (h0 : Heap) (n0 : Nat) (O0 : Old Z n0 h0) (E_a : Exa Z h0 a "com/example/postweave/postweave/view/View") (F_posts : Fld Z h0 a "com/example/postweave/postweave/view/View" "posts" "Lcom/example/postweave/postweave/view/ViewPosts;" .null) (F_fixedWidth : Fld Z h0 a "com/example/postweave/postweave/view/View" "fixedWidth" "I" (.int (0 : Int32))) (F_fixedHeight : Fld Z h0 a "com/example/postweave/postweave/view/View" "fixedHeight" "I" (.int (0 : Int32))) (F_parent : Fld Z h0 a "com/example/postweave/postweave/view/View" "parent" "Lcom/example/postweave/postweave/view/ViewGroup;" .null) (g_a : n0 ≤ a) (S_ni : Sta Z Z.heap "com/example/postweave/postweave/util/TimedList" "NO_ITEMS" "[Ljava/lang/Object;" (.ref ni)) (S_nm : Sta Z Z.heap "com/example/postweave/postweave/util/TimedList" "NO_MILLIS" "[J" (.ref nmi)) (hx0 : ¬ x0 < (0 : Int32)) (hx1 : ¬ x1 < (0 : Int32)) :
    MetFree l (⟨"com/example/postweave/postweave/view/View", "<init>", "(II)V"⟩ : MethodName) (head1 (Jvm.Cond.code (⟨"com/example/postweave/postweave/view/View", "<init>", "(II)V"⟩ : MethodName) prog_37_method_1_code 3 none :: ws) ({ frames := 3, cells := 5, slots := 14, locals := 3090 } : Room)) (fun ar U => ar = #[(.ref a), (.int x0), (.int x1)] ∧ Z.Warmed39 U.vm ∧ U.heap = h0) (fun _ _ _ _ _ => True) (fun _ U o U' => ∃ v L, o = .returned v ∧ Q_rm_V Z a x0 x1 ni nmi h0 n0 v U'.heap L ∧ FrameEnd U o U' L ({ frames := 3, cells := 5, slots := 14, locals := 3090 } : Room).cells ({ frames := 3, cells := 5, slots := 14, locals := 3090 } : Room).slots) := by
  refine own_enter (Q := (Q_rm_V Z a x0 x1 ni nmi h0 n0)) pl_2 ?_
  intro p e s m below meth c s₁ X0 hx hZ hby hml hown hnm hret hlk e0 hnamed
  have N0 := Fr.nil n0
  refine own_by (fun tz kz => castTop (g' := (mkF m 0 #[.val (.ref a), .val (.int x0), .val (.int x1)] [])) (by first | (simp [entryFrame, mkF, argsToLocals, Value.category]; done) | rfl) kz) ?_
  have K0 := Keep.refl h0 [a]
  show own_Go p e below s _ _ (s₁.setTop (mkF m 0 #[.val (.ref a), .val (.int x0), .val (.int x1)] []))
  refine own_by (fun tz kz => XS.aloadN X0.here hx rfl (hb hby d2_0) rfl rfl kz) ?_
  show own_Go p e below s _ _ (s₁.setTop (mkF m 1 #[.val (.ref a), .val (.int x0), .val (.int x1)] [(.ref a)]))
  obtain ⟨T1, X1, e1, st1⟩ := initO X0 hx hZ hown (hw _ (List.mem_of_getElem? (i := 11) rfl)) (hw _ (List.mem_of_getElem? (i := 12) rfl)) (hw _ (List.mem_of_getElem? (i := 13) rfl)) e0 (g := (mkF m 1 #[.val (.ref a), .val (.int x0), .val (.int x1)] [(.ref a)])) rfl (by rw [hml]; rfl) rfl (hb hby d2_1) (by decide) (W := 0) (by show 2 * 0 + _ ≤ _; exact Nat.le_of_eq rfl) (by decide)
  refine own_by st1 ?_
  show own_Go p e below s _ _ (T1.setTop (mkF m 4 #[.val (.ref a), .val (.int x0), .val (.int x1)] []))
  refine own_by (fun tz kz => XS.aloadN X1.here hx rfl (hb hby d2_4) rfl rfl kz) ?_
  show own_Go p e below s _ _ (T1.setTop (mkF m 5 #[.val (.ref a), .val (.int x0), .val (.int x1)] [(.ref a)]))
  obtain ⟨T2, h2, X2, e2, E2, A2, D2, -, st2⟩ := newO X1 hx hZ hown (hw _ (List.mem_of_getElem? (i := 14) rfl)) (hw _ (List.mem_of_getElem? (i := 15) rfl)) (hw _ (List.mem_of_getElem? (i := 16) rfl)) e1 (g := (mkF m 5 #[.val (.ref a), .val (.int x0), .val (.int x1)] [(.ref a)])) rfl (hb hby d2_5) (by decide) (by decide)
  obtain ⟨b2, g2⟩ : ∃ z, z = h0.size := ⟨_, rfl⟩
  have ne_a_b2 : a ≠ b2 := by rw [g2]; exact Nat.ne_of_lt E_a.lt
  rw [← g2] at A2 D2 st2
  have g_b2 : n0 ≤ b2 := by rw [g2]; exact O0.1 ▸ O0.2.1
  have sz_b2 : h0.size ≤ b2 := by rw [g2]; exact K0.1
  have O2 := O0.ext E2
  have K2 := K0.ext E2
  refine own_by st2 ?_
  have F2_lock : Fld Z h2 b2 "com/example/postweave/postweave/view/ViewPosts" "lock" "Ljava/lang/Object;" .null := D2 (Or.inr (hw _ (List.mem_of_getElem? (i := 30) rfl))) (ty := (.object "java/lang/Object")) (by decide)
  have F2_waiting : Fld Z h2 b2 "com/example/postweave/postweave/view/ViewPosts" "waiting" "Lcom/example/postweave/postweave/util/TimedList;" .null := D2 (Or.inr (hw _ (List.mem_of_getElem? (i := 47) rfl))) (ty := (.object "com/example/postweave/postweave/util/TimedList")) (by decide)
  have F2_redraw : Fld Z h2 b2 "com/example/postweave/postweave/view/ViewPosts" "redraw" "Ljava/lang/Runnable;" .null := D2 (Or.inr (hw _ (List.mem_of_getElem? (i := 49) rfl))) (ty := (.object "java/lang/Runnable")) (by decide)
  have F2_treeLoopHasQuit : Fld Z h2 b2 "com/example/postweave/postweave/view/ViewPosts" "treeLoopHasQuit" "Ljava/util/function/BooleanSupplier;" .null := D2 (Or.inr (hw _ (List.mem_of_getElem? (i := 51) rfl))) (ty := (.object "java/util/function/BooleanSupplier")) (by decide)
  show own_Go p e below s _ _ (T2.setTop (mkF m 8 #[.val (.ref a), .val (.int x0), .val (.int x1)] [(.ref b2), (.ref a)]))
  refine own_by (fun tz kz => XS.dup X2.here hx rfl (hb hby d2_8) rfl rfl kz) ?_
  show own_Go p e below s _ _ (T2.setTop (mkF m 9 #[.val (.ref a), .val (.int x0), .val (.int x1)] [(.ref b2), (.ref b2), (.ref a)]))
  refine own_by (fun tz kz => XS.aloadN X2.here hx rfl (hb hby d2_9) rfl rfl kz) ?_
  show own_Go p e below s _ _ (T2.setTop (mkF m 10 #[.val (.ref a), .val (.int x0), .val (.int x1)] [(.ref a), (.ref b2), (.ref b2), (.ref a)]))
  obtain ⟨T3, h3, X3, e3, E3, lt3, st3⟩ := own_lam X2 hx hZ hnamed (hw _ (List.mem_of_getElem? (i := 17) rfl)) (hw _ (List.mem_of_getElem? (i := 20) rfl)) (tv := .object "com/example/postweave/postweave/view/View") rfl (by decide +kernel) rfl e2 (g := (mkF m 10 #[.val (.ref a), .val (.int x0), .val (.int x1)] [(.ref a), (.ref b2), (.ref b2), (.ref a)])) rfl (by rw [hml]; rfl) rfl rfl (hb hby d2_10) (W := 4) (by show 2 * 0 + _ ≤ _; exact Nat.le_of_eq rfl) (by decide) (by decide) (by decide)
  obtain ⟨b3, g3⟩ : ∃ z, z = h2.size := ⟨_, rfl⟩
  have f4 := (E_a.ext E2)
  have ne_a_b3 : a ≠ b3 := by rw [g3]; exact Nat.ne_of_lt f4.lt
  have ne_b2_b3 : b2 ≠ b3 := by rw [g3]; exact Nat.ne_of_lt A2.lt
  rw [← g3] at st3
  have g_b3 : n0 ≤ b3 := by rw [g3]; exact O2.1 ▸ O2.2.1
  have sz_b3 : h0.size ≤ b3 := by rw [g3]; exact K2.1
  have O3 := O2.ext E3
  have K3 := K2.ext E3
  refine own_by st3 ?_
  show own_Go p e below s _ _ (T3.setTop (mkF m 15 #[.val (.ref a), .val (.int x0), .val (.int x1)] [(.ref b3), (.ref b2), (.ref b2), (.ref a)]))
  refine own_by (fun tz kz => XS.aloadN X3.here hx rfl (hb hby d2_15) rfl rfl kz) ?_
  show own_Go p e below s _ _ (T3.setTop (mkF m 16 #[.val (.ref a), .val (.int x0), .val (.int x1)] [(.ref a), (.ref b3), (.ref b2), (.ref b2), (.ref a)]))
  obtain ⟨T5, h5, X5, e5, E5, lt5, st5⟩ := own_lam X3 hx hZ hnamed (hw _ (List.mem_of_getElem? (i := 21) rfl)) (hw _ (List.mem_of_getElem? (i := 20) rfl)) (tv := .object "com/example/postweave/postweave/view/View") rfl (by decide +kernel) rfl e3 (g := (mkF m 16 #[.val (.ref a), .val (.int x0), .val (.int x1)] [(.ref a), (.ref b3), (.ref b2), (.ref b2), (.ref a)])) rfl (by rw [hml]; rfl) rfl rfl (hb hby d2_16) (W := 5) (by show 2 * 0 + _ ≤ _; exact Nat.le_of_eq rfl) (by decide) (by decide) (by decide)
  obtain ⟨b5, g5⟩ : ∃ z, z = h3.size := ⟨_, rfl⟩
  have f6 := (f4.ext E3)
  have ne_a_b5 : a ≠ b5 := by rw [g5]; exact Nat.ne_of_lt f6.lt
  have f7 := (A2.ext E3)
  have ne_b2_b5 : b2 ≠ b5 := by rw [g5]; exact Nat.ne_of_lt f7.lt
  rw [← g5] at st5
  have g_b5 : n0 ≤ b5 := by rw [g5]; exact O3.1 ▸ O3.2.1
  have sz_b5 : h0.size ≤ b5 := by rw [g5]; exact K3.1
  have O5 := O3.ext E5
  have K5 := K3.ext E5
  refine own_by st5 ?_
  show own_Go p e below s _ _ (T5.setTop (mkF m 21 #[.val (.ref a), .val (.int x0), .val (.int x1)] [(.ref b5), (.ref b3), (.ref b2), (.ref b2), (.ref a)]))
  have f8 := (f7.ext E5)
  have f9 := ((F2_lock.ext E3).ext E5)
  have f10 := ((F2_waiting.ext E3).ext E5)
  have f11 := ((F2_redraw.ext E3).ext E5)
  have f12 := ((F2_treeLoopHasQuit.ext E3).ext E5)
  obtain ⟨_, _, ⟨T13, L13, k13, n13⟩, -, X13, ⟨Lc13, hQ13, l13, y13, z13⟩, st13⟩ := X5.specialBack hx (y := (⟨"com/example/postweave/postweave/view/ViewPosts", "<init>", "(Ljava/lang/Runnable;Ljava/util/function/BooleanSupplier;)V"⟩ : MethodName)) rfl hown (mvT hZ (hw _ (List.mem_of_getElem? (i := 23) rfl))) (mvT hZ (hw _ (List.mem_of_getElem? (i := 24) rfl))) (mvT hZ (hw _ (List.mem_of_getElem? (i := 25) rfl))) (by decide) (backOf (W := 2) (rm_VP l Z a0 hw [] b2 b3 b5 ni nmi h5 n0 O5 f8 f9 f10 f11 f12 g_b2 S_ni S_nm) hZ (hw _ (List.mem_of_getElem? (i := 25) rfl)) (hw _ (List.mem_of_getElem? (i := 16) rfl)) (by decide) (by decide)) (g := (mkF m 21 #[.val (.ref a), .val (.int x0), .val (.int x1)] [(.ref b5), (.ref b3), (.ref b2), (.ref b2), (.ref a)])) rfl (by rw [hml]; rfl) (Steps.refl _) (a := b2) (argsL := [(.ref b3), (.ref b5)]) (rest := [(.ref b2), (.ref a)]) (lenOf pd_2 rfl) rfl (by show 2 * 0 + _ ≤ _; exact Nat.le_of_eq rfl) (hb hby d2_21) (fun _ _ => ⟨rfl, e5, (by decide : 3 + 2 ≤ _), (by decide : 10 + 4 ≤ _)⟩)
  dsimp only [Pt.U, Pt.locs, Pt.cells, Pt.slots] at X13 l13 y13 z13 st13 hQ13
  rw [l13, y13, z13] at X13
  obtain ⟨rfl, Nq13, Kq13⟩ := hQ13
  have N13 := Fr.app N0 Nq13
  have e13 : T13.heap = T13.heap := rfl
  refine own_via st13 ?_
  have O13 := O5.keep Kq13 (allS g_b2 all0)
  have K13 := K5.trans Kq13 (allS (Or.inr sz_b2) all0)
  show own_Go p e below s _ _ (T13.setTop (mkF m 24 #[.val (.ref a), .val (.int x0), .val (.int x1)] [(.ref b2), (.ref a)]))
  have f14 := ((((F_posts.ext E2).ext E3).ext E5).keep Kq13 (ninS ne_a_b2 nin0))
  have f15 := ((f6.ext E5).keep Kq13)
  obtain ⟨T16, h16, X16, e16, W16, st16⟩ := putF X13 hx hZ hown (host := "") (Or.inl (hw _ (List.mem_of_getElem? (i := 52) rfl))) Via.refl e13 f14 f15 (Or.inr ⟨(hw _ (List.mem_of_getElem? (i := 139) rfl)), rfl, hnm⟩) (hw _ (List.mem_of_getElem? (i := 137) rfl)) (ty := (.object "com/example/postweave/postweave/view/ViewPosts")) (by decide) rfl rfl (g := (mkF m 24 #[.val (.ref a), .val (.int x0), .val (.int x1)] [(.ref b2), (.ref a)])) rfl rfl (hb hby d2_24)
  have Fw16 := f14.same W16
  have O16 := O13.wr W16 g_a
  have N16 := Fr.snoc X16 N13 g_a
  have K16 := K13.wr W16 (Or.inl (List.mem_of_getElem? (i := 0) rfl))
  refine own_by st16 ?_
  show own_Go p e below s _ _ (T16.setTop (mkF m 27 #[.val (.ref a), .val (.int x0), .val (.int x1)] []))
  refine own_by (fun tz kz => XS.iloadN X16.here hx rfl (hb hby d2_27) rfl  kz) ?_
  show own_Go p e below s _ _ (T16.setTop (mkF m 28 #[.val (.ref a), .val (.int x0), .val (.int x1)] [(.int x0)]))
  refine own_by (fun tz kz => XS.iloadN X16.here hx rfl (hb hby d2_28) rfl  kz) ?_
  show own_Go p e below s _ _ (T16.setTop (mkF m 29 #[.val (.ref a), .val (.int x0), .val (.int x1)] [(.int x1), (.int x0)]))
  obtain ⟨_, _, ⟨T17, L17, k17, n17⟩, -, X17, ⟨Lc17, hQ17, l17, y17, z17⟩, st17⟩ := Jvm.LawKit.callS X16 hx (y := (⟨"com/example/postweave/postweave/view/View", "requireSize", "(II)V"⟩ : MethodName)) hown (mvT hZ (hw _ (List.mem_of_getElem? (i := 54) rfl))) (mvT hZ (hw _ (List.mem_of_getElem? (i := 55) rfl))) (mvT hZ (hw _ (List.mem_of_getElem? (i := 9) rfl))) (mvT hZ (hw _ (List.mem_of_getElem? (i := 56) rfl))) (by decide) (backOf (W := 0) (rm_rs l Z a0 hw [] x0 x1 h16 n0 hx0 hx1) hZ (hw _ (List.mem_of_getElem? (i := 56) rfl)) (hw _ (List.mem_of_getElem? (i := 9) rfl)) (by decide) (by decide)) (g := (mkF m 29 #[.val (.ref a), .val (.int x0), .val (.int x1)] [(.int x1), (.int x0)])) rfl (by rw [hml]; rfl) (argsL := [(.int x0), (.int x1)]) (rest := []) (lenOf pd_0 rfl) rfl (by show 2 * 0 + _ ≤ _; exact Nat.le_of_eq rfl) (hb hby d2_29) (fun _ _ => ⟨rfl, e16, (by decide : (3 + 2) + 0 ≤ _), (by decide : (10 + 4) + 0 ≤ _)⟩)
  dsimp only [Pt.U, Pt.locs, Pt.cells, Pt.slots] at X17 l17 y17 z17 st17 hQ17
  rw [l17, y17, z17] at X17
  obtain ⟨rfl, Nq17, e17⟩ := hQ17
  have N17 := Fr.app N16 Nq17
  refine own_by st17 ?_
  show own_Go p e below s _ _ (T17.setTop (mkF m 32 #[.val (.ref a), .val (.int x0), .val (.int x1)] []))
  refine own_by (fun tz kz => XS.aloadN X17.here hx rfl (hb hby d2_32) rfl rfl kz) ?_
  show own_Go p e below s _ _ (T17.setTop (mkF m 33 #[.val (.ref a), .val (.int x0), .val (.int x1)] [(.ref a)]))
  refine own_by (fun tz kz => XS.iloadN X17.here hx rfl (hb hby d2_33) rfl  kz) ?_
  show own_Go p e below s _ _ (T17.setTop (mkF m 34 #[.val (.ref a), .val (.int x0), .val (.int x1)] [(.int x0), (.ref a)]))
  have f18 := (((((F_fixedWidth.ext E2).ext E3).ext E5).keep Kq13 (ninS ne_a_b2 nin0)).other W16 (Or.inr (slot_ne (Or.inl (hw _ (List.mem_of_getElem? (i := 140) rfl))) (Or.inr (hw _ (List.mem_of_getElem? (i := 139) rfl))) (by decide) (t := .int) (t' := (.object "com/example/postweave/postweave/view/ViewPosts")) (by decide) (by decide))))
  have f19 := (f15.wr W16)
  obtain ⟨T20, h20, X20, e20, W20, st20⟩ := putF X17 hx hZ hown (host := "") (Or.inl (hw _ (List.mem_of_getElem? (i := 57) rfl))) Via.refl e17 f18 f19 (Or.inl (hw _ (List.mem_of_getElem? (i := 140) rfl))) (hw _ (List.mem_of_getElem? (i := 137) rfl)) (ty := .int) (by decide) rfl rfl (g := (mkF m 34 #[.val (.ref a), .val (.int x0), .val (.int x1)] [(.int x0), (.ref a)])) rfl rfl (hb hby d2_34)
  have Fw20 := f18.same W20
  have O20 := O16.wr W20 g_a
  have N20 := Fr.snoc X20 N17 g_a
  have K20 := K16.wr W20 (Or.inl (List.mem_of_getElem? (i := 0) rfl))
  refine own_by st20 ?_
  show own_Go p e below s _ _ (T20.setTop (mkF m 37 #[.val (.ref a), .val (.int x0), .val (.int x1)] []))
  refine own_by (fun tz kz => XS.aloadN X20.here hx rfl (hb hby d2_37) rfl rfl kz) ?_
  show own_Go p e below s _ _ (T20.setTop (mkF m 38 #[.val (.ref a), .val (.int x0), .val (.int x1)] [(.ref a)]))
  refine own_by (fun tz kz => XS.iloadN X20.here hx rfl (hb hby d2_38) rfl  kz) ?_
  show own_Go p e below s _ _ (T20.setTop (mkF m 39 #[.val (.ref a), .val (.int x0), .val (.int x1)] [(.int x1), (.ref a)]))
  have f21 := ((((((F_fixedHeight.ext E2).ext E3).ext E5).keep Kq13 (ninS ne_a_b2 nin0)).other W16 (Or.inr (slot_ne (Or.inl (hw _ (List.mem_of_getElem? (i := 141) rfl))) (Or.inr (hw _ (List.mem_of_getElem? (i := 139) rfl))) (by decide) (t := .int) (t' := (.object "com/example/postweave/postweave/view/ViewPosts")) (by decide) (by decide)))).other W20 (Or.inr (slot_ne (Or.inl (hw _ (List.mem_of_getElem? (i := 141) rfl))) (Or.inl (hw _ (List.mem_of_getElem? (i := 140) rfl))) (by decide) (t := .int) (t' := .int) (by decide) (by decide))))
  have f22 := (f19.wr W20)
  obtain ⟨T23, h23, X23, e23, W23, st23⟩ := putF X20 hx hZ hown (host := "") (Or.inl (hw _ (List.mem_of_getElem? (i := 59) rfl))) Via.refl e20 f21 f22 (Or.inl (hw _ (List.mem_of_getElem? (i := 141) rfl))) (hw _ (List.mem_of_getElem? (i := 137) rfl)) (ty := .int) (by decide) rfl rfl (g := (mkF m 39 #[.val (.ref a), .val (.int x0), .val (.int x1)] [(.int x1), (.ref a)])) rfl rfl (hb hby d2_39)
  have Fw23 := f21.same W23
  have O23 := O20.wr W23 g_a
  have N23 := Fr.snoc X23 N20 g_a
  have K23 := K20.wr W23 (Or.inl (List.mem_of_getElem? (i := 0) rfl))
  refine own_by st23 ?_
  show own_Go p e below s _ _ (T23.setTop (mkF m 42 #[.val (.ref a), .val (.int x0), .val (.int x1)] []))
  have f24 := (((((((F_parent.ext E2).ext E3).ext E5).keep Kq13 (ninS ne_a_b2 nin0)).other W16 (Or.inr (slot_ne (Or.inl (hw _ (List.mem_of_getElem? (i := 150) rfl))) (Or.inr (hw _ (List.mem_of_getElem? (i := 139) rfl))) (by decide) (t := (.object "com/example/postweave/postweave/view/ViewGroup")) (t' := (.object "com/example/postweave/postweave/view/ViewPosts")) (by decide) (by decide)))).other W20 (Or.inr (slot_ne (Or.inl (hw _ (List.mem_of_getElem? (i := 150) rfl))) (Or.inl (hw _ (List.mem_of_getElem? (i := 140) rfl))) (by decide) (t := (.object "com/example/postweave/postweave/view/ViewGroup")) (t' := .int) (by decide) (by decide)))).other W23 (Or.inr (slot_ne (Or.inl (hw _ (List.mem_of_getElem? (i := 150) rfl))) (Or.inl (hw _ (List.mem_of_getElem? (i := 141) rfl))) (by decide) (t := (.object "com/example/postweave/postweave/view/ViewGroup")) (t' := .int) (by decide) (by decide))))
  refine own_retV X23 hx hlk hret (hb hby d2_42) ?_ (by decide) (by decide)
  exact ⟨rfl, N23, by rw [e23]; exact K23, by rw [e23]; exact f24⟩
def Q_rm_VG0 (Z : State) (a : Addr) (x0 x1 : Int32) (ni nmi : Addr) (h0 : Heap) (n0 : Nat) (v : Option Value) (h : Heap) (L : List Loc) : Prop := v = none ∧ Fr n0 L ∧ Keep h0 h [a] ∧ Fld Z h a "com/example/postweave/postweave/view/View" "parent" "Lcom/example/postweave/postweave/view/ViewGroup;" .null ∧ Fld Z h a "com/example/postweave/postweave/view/ViewGroup" "children" "Ljava/util/List;" .null ∧ Fld Z h a "com/example/postweave/postweave/view/ViewGroup" "readOnlyChildren" "Ljava/util/List;" .null ∧ Fld Z h a "com/example/postweave/postweave/view/ViewGroup" "walkedChildren" "[Lcom/example/postweave/postweave/view/View;" .null
set_option maxRecDepth 65536 in
set_option maxHeartbeats 40000000 in
theorem rm_VG0 (l : Launch) (Z : State) (a0 : Array Value) (hw : ∀ d ∈ tables_1, d.before a0 Z = true) (ws : List Jvm.Cond) (a : Addr) (x0 x1 : Int32) (ni nmi : Addr) (h0 : Heap) (n0 : Nat) (O0 : Old Z n0 h0) (E_a : Exa Z h0 a "com/example/postweave/postweave/view/ViewGroup") (F_posts : Fld Z h0 a "com/example/postweave/postweave/view/View" "posts" "Lcom/example/postweave/postweave/view/ViewPosts;" .null) (F_fixedWidth : Fld Z h0 a "com/example/postweave/postweave/view/View" "fixedWidth" "I" (.int (0 : Int32))) (F_fixedHeight : Fld Z h0 a "com/example/postweave/postweave/view/View" "fixedHeight" "I" (.int (0 : Int32))) (F_parent : Fld Z h0 a "com/example/postweave/postweave/view/View" "parent" "Lcom/example/postweave/postweave/view/ViewGroup;" .null) (F_children : Fld Z h0 a "com/example/postweave/postweave/view/ViewGroup" "children" "Ljava/util/List;" .null) (F_readOnlyChildren : Fld Z h0 a "com/example/postweave/postweave/view/ViewGroup" "readOnlyChildren" "Ljava/util/List;" .null) (F_walkedChildren : Fld Z h0 a "com/example/postweave/postweave/view/ViewGroup" "walkedChildren" "[Lcom/example/postweave/postweave/view/View;" .null) (g_a : n0 ≤ a) (S_ni : Sta Z Z.heap "com/example/postweave/postweave/util/TimedList" "NO_ITEMS" "[Ljava/lang/Object;" (.ref ni)) (S_nm : Sta Z Z.heap "com/example/postweave/postweave/util/TimedList" "NO_MILLIS" "[J" (.ref nmi)) (hx0 : ¬ x0 < (0 : Int32)) (hx1 : ¬ x1 < (0 : Int32)) :
    MetFree l (⟨"com/example/postweave/postweave/view/View", "<init>", "(II)V"⟩ : MethodName) (head1 (Jvm.Cond.code (⟨"com/example/postweave/postweave/view/View", "<init>", "(II)V"⟩ : MethodName) prog_37_method_1_code 3 none :: ws) ({ frames := 3, cells := 5, slots := 14, locals := 3090 } : Room)) (fun ar U => ar = #[(.ref a), (.int x0), (.int x1)] ∧ Z.Warmed39 U.vm ∧ U.heap = h0) (fun _ _ _ _ _ => True) (fun _ U o U' => ∃ v L, o = .returned v ∧ Q_rm_VG0 Z a x0 x1 ni nmi h0 n0 v U'.heap L ∧ FrameEnd U o U' L ({ frames := 3, cells := 5, slots := 14, locals := 3090 } : Room).cells ({ frames := 3, cells := 5, slots := 14, locals := 3090 } : Room).slots) := by
  refine own_enter (Q := (Q_rm_VG0 Z a x0 x1 ni nmi h0 n0)) pl_2 ?_
  intro p e s m below meth c s₁ X0 hx hZ hby hml hown hnm hret hlk e0 hnamed
  have N0 := Fr.nil n0
  refine own_by (fun tz kz => castTop (g' := (mkF m 0 #[.val (.ref a), .val (.int x0), .val (.int x1)] [])) (by first | (simp [entryFrame, mkF, argsToLocals, Value.category]; done) | rfl) kz) ?_
  have K0 := Keep.refl h0 [a]
  show own_Go p e below s _ _ (s₁.setTop (mkF m 0 #[.val (.ref a), .val (.int x0), .val (.int x1)] []))
  refine own_by (fun tz kz => XS.aloadN X0.here hx rfl (hb hby d2_0) rfl rfl kz) ?_
  show own_Go p e below s _ _ (s₁.setTop (mkF m 1 #[.val (.ref a), .val (.int x0), .val (.int x1)] [(.ref a)]))
  obtain ⟨T1, X1, e1, st1⟩ := initO X0 hx hZ hown (hw _ (List.mem_of_getElem? (i := 11) rfl)) (hw _ (List.mem_of_getElem? (i := 12) rfl)) (hw _ (List.mem_of_getElem? (i := 13) rfl)) e0 (g := (mkF m 1 #[.val (.ref a), .val (.int x0), .val (.int x1)] [(.ref a)])) rfl (by rw [hml]; rfl) rfl (hb hby d2_1) (by decide) (W := 0) (by show 2 * 0 + _ ≤ _; exact Nat.le_of_eq rfl) (by decide)
  refine own_by st1 ?_
  show own_Go p e below s _ _ (T1.setTop (mkF m 4 #[.val (.ref a), .val (.int x0), .val (.int x1)] []))
  refine own_by (fun tz kz => XS.aloadN X1.here hx rfl (hb hby d2_4) rfl rfl kz) ?_
  show own_Go p e below s _ _ (T1.setTop (mkF m 5 #[.val (.ref a), .val (.int x0), .val (.int x1)] [(.ref a)]))
  obtain ⟨T2, h2, X2, e2, E2, A2, D2, -, st2⟩ := newO X1 hx hZ hown (hw _ (List.mem_of_getElem? (i := 14) rfl)) (hw _ (List.mem_of_getElem? (i := 15) rfl)) (hw _ (List.mem_of_getElem? (i := 16) rfl)) e1 (g := (mkF m 5 #[.val (.ref a), .val (.int x0), .val (.int x1)] [(.ref a)])) rfl (hb hby d2_5) (by decide) (by decide)
  obtain ⟨b2, g2⟩ : ∃ z, z = h0.size := ⟨_, rfl⟩
  have ne_a_b2 : a ≠ b2 := by rw [g2]; exact Nat.ne_of_lt E_a.lt
  rw [← g2] at A2 D2 st2
  have g_b2 : n0 ≤ b2 := by rw [g2]; exact O0.1 ▸ O0.2.1
  have sz_b2 : h0.size ≤ b2 := by rw [g2]; exact K0.1
  have O2 := O0.ext E2
  have K2 := K0.ext E2
  refine own_by st2 ?_
  have F2_lock : Fld Z h2 b2 "com/example/postweave/postweave/view/ViewPosts" "lock" "Ljava/lang/Object;" .null := D2 (Or.inr (hw _ (List.mem_of_getElem? (i := 30) rfl))) (ty := (.object "java/lang/Object")) (by decide)
  have F2_waiting : Fld Z h2 b2 "com/example/postweave/postweave/view/ViewPosts" "waiting" "Lcom/example/postweave/postweave/util/TimedList;" .null := D2 (Or.inr (hw _ (List.mem_of_getElem? (i := 47) rfl))) (ty := (.object "com/example/postweave/postweave/util/TimedList")) (by decide)
  have F2_redraw : Fld Z h2 b2 "com/example/postweave/postweave/view/ViewPosts" "redraw" "Ljava/lang/Runnable;" .null := D2 (Or.inr (hw _ (List.mem_of_getElem? (i := 49) rfl))) (ty := (.object "java/lang/Runnable")) (by decide)
  have F2_treeLoopHasQuit : Fld Z h2 b2 "com/example/postweave/postweave/view/ViewPosts" "treeLoopHasQuit" "Ljava/util/function/BooleanSupplier;" .null := D2 (Or.inr (hw _ (List.mem_of_getElem? (i := 51) rfl))) (ty := (.object "java/util/function/BooleanSupplier")) (by decide)
  show own_Go p e below s _ _ (T2.setTop (mkF m 8 #[.val (.ref a), .val (.int x0), .val (.int x1)] [(.ref b2), (.ref a)]))
  refine own_by (fun tz kz => XS.dup X2.here hx rfl (hb hby d2_8) rfl rfl kz) ?_
  show own_Go p e below s _ _ (T2.setTop (mkF m 9 #[.val (.ref a), .val (.int x0), .val (.int x1)] [(.ref b2), (.ref b2), (.ref a)]))
  refine own_by (fun tz kz => XS.aloadN X2.here hx rfl (hb hby d2_9) rfl rfl kz) ?_
  show own_Go p e below s _ _ (T2.setTop (mkF m 10 #[.val (.ref a), .val (.int x0), .val (.int x1)] [(.ref a), (.ref b2), (.ref b2), (.ref a)]))
  obtain ⟨T3, h3, X3, e3, E3, lt3, st3⟩ := own_lam X2 hx hZ hnamed (hw _ (List.mem_of_getElem? (i := 17) rfl)) (hw _ (List.mem_of_getElem? (i := 20) rfl)) (tv := .object "com/example/postweave/postweave/view/View") rfl (by decide +kernel) rfl e2 (g := (mkF m 10 #[.val (.ref a), .val (.int x0), .val (.int x1)] [(.ref a), (.ref b2), (.ref b2), (.ref a)])) rfl (by rw [hml]; rfl) rfl rfl (hb hby d2_10) (W := 4) (by show 2 * 0 + _ ≤ _; exact Nat.le_of_eq rfl) (by decide) (by decide) (by decide)
  obtain ⟨b3, g3⟩ : ∃ z, z = h2.size := ⟨_, rfl⟩
  have f4 := (E_a.ext E2)
  have ne_a_b3 : a ≠ b3 := by rw [g3]; exact Nat.ne_of_lt f4.lt
  have ne_b2_b3 : b2 ≠ b3 := by rw [g3]; exact Nat.ne_of_lt A2.lt
  rw [← g3] at st3
  have g_b3 : n0 ≤ b3 := by rw [g3]; exact O2.1 ▸ O2.2.1
  have sz_b3 : h0.size ≤ b3 := by rw [g3]; exact K2.1
  have O3 := O2.ext E3
  have K3 := K2.ext E3
  refine own_by st3 ?_
  show own_Go p e below s _ _ (T3.setTop (mkF m 15 #[.val (.ref a), .val (.int x0), .val (.int x1)] [(.ref b3), (.ref b2), (.ref b2), (.ref a)]))
  refine own_by (fun tz kz => XS.aloadN X3.here hx rfl (hb hby d2_15) rfl rfl kz) ?_
  show own_Go p e below s _ _ (T3.setTop (mkF m 16 #[.val (.ref a), .val (.int x0), .val (.int x1)] [(.ref a), (.ref b3), (.ref b2), (.ref b2), (.ref a)]))
  obtain ⟨T5, h5, X5, e5, E5, lt5, st5⟩ := own_lam X3 hx hZ hnamed (hw _ (List.mem_of_getElem? (i := 21) rfl)) (hw _ (List.mem_of_getElem? (i := 20) rfl)) (tv := .object "com/example/postweave/postweave/view/View") rfl (by decide +kernel) rfl e3 (g := (mkF m 16 #[.val (.ref a), .val (.int x0), .val (.int x1)] [(.ref a), (.ref b3), (.ref b2), (.ref b2), (.ref a)])) rfl (by rw [hml]; rfl) rfl rfl (hb hby d2_16) (W := 5) (by show 2 * 0 + _ ≤ _; exact Nat.le_of_eq rfl) (by decide) (by decide) (by decide)
  obtain ⟨b5, g5⟩ : ∃ z, z = h3.size := ⟨_, rfl⟩
  have f6 := (f4.ext E3)
  have ne_a_b5 : a ≠ b5 := by rw [g5]; exact Nat.ne_of_lt f6.lt
  have f7 := (A2.ext E3)
  have ne_b2_b5 : b2 ≠ b5 := by rw [g5]; exact Nat.ne_of_lt f7.lt
  rw [← g5] at st5
  have g_b5 : n0 ≤ b5 := by rw [g5]; exact O3.1 ▸ O3.2.1
  have sz_b5 : h0.size ≤ b5 := by rw [g5]; exact K3.1
  have O5 := O3.ext E5
  have K5 := K3.ext E5
  refine own_by st5 ?_
  show own_Go p e below s _ _ (T5.setTop (mkF m 21 #[.val (.ref a), .val (.int x0), .val (.int x1)] [(.ref b5), (.ref b3), (.ref b2), (.ref b2), (.ref a)]))
  have f8 := (f7.ext E5)
  have f9 := ((F2_lock.ext E3).ext E5)
  have f10 := ((F2_waiting.ext E3).ext E5)
  have f11 := ((F2_redraw.ext E3).ext E5)
  have f12 := ((F2_treeLoopHasQuit.ext E3).ext E5)
  obtain ⟨_, _, ⟨T13, L13, k13, n13⟩, -, X13, ⟨Lc13, hQ13, l13, y13, z13⟩, st13⟩ := X5.specialBack hx (y := (⟨"com/example/postweave/postweave/view/ViewPosts", "<init>", "(Ljava/lang/Runnable;Ljava/util/function/BooleanSupplier;)V"⟩ : MethodName)) rfl hown (mvT hZ (hw _ (List.mem_of_getElem? (i := 23) rfl))) (mvT hZ (hw _ (List.mem_of_getElem? (i := 24) rfl))) (mvT hZ (hw _ (List.mem_of_getElem? (i := 25) rfl))) (by decide) (backOf (W := 2) (rm_VP l Z a0 hw [] b2 b3 b5 ni nmi h5 n0 O5 f8 f9 f10 f11 f12 g_b2 S_ni S_nm) hZ (hw _ (List.mem_of_getElem? (i := 25) rfl)) (hw _ (List.mem_of_getElem? (i := 16) rfl)) (by decide) (by decide)) (g := (mkF m 21 #[.val (.ref a), .val (.int x0), .val (.int x1)] [(.ref b5), (.ref b3), (.ref b2), (.ref b2), (.ref a)])) rfl (by rw [hml]; rfl) (Steps.refl _) (a := b2) (argsL := [(.ref b3), (.ref b5)]) (rest := [(.ref b2), (.ref a)]) (lenOf pd_2 rfl) rfl (by show 2 * 0 + _ ≤ _; exact Nat.le_of_eq rfl) (hb hby d2_21) (fun _ _ => ⟨rfl, e5, (by decide : 3 + 2 ≤ _), (by decide : 10 + 4 ≤ _)⟩)
  dsimp only [Pt.U, Pt.locs, Pt.cells, Pt.slots] at X13 l13 y13 z13 st13 hQ13
  rw [l13, y13, z13] at X13
  obtain ⟨rfl, Nq13, Kq13⟩ := hQ13
  have N13 := Fr.app N0 Nq13
  have e13 : T13.heap = T13.heap := rfl
  refine own_via st13 ?_
  have O13 := O5.keep Kq13 (allS g_b2 all0)
  have K13 := K5.trans Kq13 (allS (Or.inr sz_b2) all0)
  show own_Go p e below s _ _ (T13.setTop (mkF m 24 #[.val (.ref a), .val (.int x0), .val (.int x1)] [(.ref b2), (.ref a)]))
  have f14 := ((((F_posts.ext E2).ext E3).ext E5).keep Kq13 (ninS ne_a_b2 nin0))
  have f15 := ((f6.ext E5).keep Kq13)
  obtain ⟨T16, h16, X16, e16, W16, st16⟩ := putF X13 hx hZ hown (host := "") (Or.inl (hw _ (List.mem_of_getElem? (i := 52) rfl))) Via.refl e13 f14 f15 (Or.inr ⟨(hw _ (List.mem_of_getElem? (i := 53) rfl)), rfl, hnm⟩) (hw _ (List.mem_of_getElem? (i := 1) rfl)) (ty := (.object "com/example/postweave/postweave/view/ViewPosts")) (by decide) rfl rfl (g := (mkF m 24 #[.val (.ref a), .val (.int x0), .val (.int x1)] [(.ref b2), (.ref a)])) rfl rfl (hb hby d2_24)
  have Fw16 := f14.same W16
  have O16 := O13.wr W16 g_a
  have N16 := Fr.snoc X16 N13 g_a
  have K16 := K13.wr W16 (Or.inl (List.mem_of_getElem? (i := 0) rfl))
  refine own_by st16 ?_
  show own_Go p e below s _ _ (T16.setTop (mkF m 27 #[.val (.ref a), .val (.int x0), .val (.int x1)] []))
  refine own_by (fun tz kz => XS.iloadN X16.here hx rfl (hb hby d2_27) rfl  kz) ?_
  show own_Go p e below s _ _ (T16.setTop (mkF m 28 #[.val (.ref a), .val (.int x0), .val (.int x1)] [(.int x0)]))
  refine own_by (fun tz kz => XS.iloadN X16.here hx rfl (hb hby d2_28) rfl  kz) ?_
  show own_Go p e below s _ _ (T16.setTop (mkF m 29 #[.val (.ref a), .val (.int x0), .val (.int x1)] [(.int x1), (.int x0)]))
  obtain ⟨_, _, ⟨T17, L17, k17, n17⟩, -, X17, ⟨Lc17, hQ17, l17, y17, z17⟩, st17⟩ := Jvm.LawKit.callS X16 hx (y := (⟨"com/example/postweave/postweave/view/View", "requireSize", "(II)V"⟩ : MethodName)) hown (mvT hZ (hw _ (List.mem_of_getElem? (i := 54) rfl))) (mvT hZ (hw _ (List.mem_of_getElem? (i := 55) rfl))) (mvT hZ (hw _ (List.mem_of_getElem? (i := 9) rfl))) (mvT hZ (hw _ (List.mem_of_getElem? (i := 56) rfl))) (by decide) (backOf (W := 0) (rm_rs l Z a0 hw [] x0 x1 h16 n0 hx0 hx1) hZ (hw _ (List.mem_of_getElem? (i := 56) rfl)) (hw _ (List.mem_of_getElem? (i := 9) rfl)) (by decide) (by decide)) (g := (mkF m 29 #[.val (.ref a), .val (.int x0), .val (.int x1)] [(.int x1), (.int x0)])) rfl (by rw [hml]; rfl) (argsL := [(.int x0), (.int x1)]) (rest := []) (lenOf pd_0 rfl) rfl (by show 2 * 0 + _ ≤ _; exact Nat.le_of_eq rfl) (hb hby d2_29) (fun _ _ => ⟨rfl, e16, (by decide : (3 + 2) + 0 ≤ _), (by decide : (10 + 4) + 0 ≤ _)⟩)
  dsimp only [Pt.U, Pt.locs, Pt.cells, Pt.slots] at X17 l17 y17 z17 st17 hQ17
  rw [l17, y17, z17] at X17
  obtain ⟨rfl, Nq17, e17⟩ := hQ17
  have N17 := Fr.app N16 Nq17
  refine own_by st17 ?_
  show own_Go p e below s _ _ (T17.setTop (mkF m 32 #[.val (.ref a), .val (.int x0), .val (.int x1)] []))
  refine own_by (fun tz kz => XS.aloadN X17.here hx rfl (hb hby d2_32) rfl rfl kz) ?_
  show own_Go p e below s _ _ (T17.setTop (mkF m 33 #[.val (.ref a), .val (.int x0), .val (.int x1)] [(.ref a)]))
  refine own_by (fun tz kz => XS.iloadN X17.here hx rfl (hb hby d2_33) rfl  kz) ?_
  show own_Go p e below s _ _ (T17.setTop (mkF m 34 #[.val (.ref a), .val (.int x0), .val (.int x1)] [(.int x0), (.ref a)]))
  have f18 := (((((F_fixedWidth.ext E2).ext E3).ext E5).keep Kq13 (ninS ne_a_b2 nin0)).other W16 (Or.inr (slot_ne (Or.inl (hw _ (List.mem_of_getElem? (i := 58) rfl))) (Or.inr (hw _ (List.mem_of_getElem? (i := 53) rfl))) (by decide) (t := .int) (t' := (.object "com/example/postweave/postweave/view/ViewPosts")) (by decide) (by decide))))
  have f19 := (f15.wr W16)
  obtain ⟨T20, h20, X20, e20, W20, st20⟩ := putF X17 hx hZ hown (host := "") (Or.inl (hw _ (List.mem_of_getElem? (i := 57) rfl))) Via.refl e17 f18 f19 (Or.inl (hw _ (List.mem_of_getElem? (i := 58) rfl))) (hw _ (List.mem_of_getElem? (i := 1) rfl)) (ty := .int) (by decide) rfl rfl (g := (mkF m 34 #[.val (.ref a), .val (.int x0), .val (.int x1)] [(.int x0), (.ref a)])) rfl rfl (hb hby d2_34)
  have Fw20 := f18.same W20
  have O20 := O16.wr W20 g_a
  have N20 := Fr.snoc X20 N17 g_a
  have K20 := K16.wr W20 (Or.inl (List.mem_of_getElem? (i := 0) rfl))
  refine own_by st20 ?_
  show own_Go p e below s _ _ (T20.setTop (mkF m 37 #[.val (.ref a), .val (.int x0), .val (.int x1)] []))
  refine own_by (fun tz kz => XS.aloadN X20.here hx rfl (hb hby d2_37) rfl rfl kz) ?_
  show own_Go p e below s _ _ (T20.setTop (mkF m 38 #[.val (.ref a), .val (.int x0), .val (.int x1)] [(.ref a)]))
  refine own_by (fun tz kz => XS.iloadN X20.here hx rfl (hb hby d2_38) rfl  kz) ?_
  show own_Go p e below s _ _ (T20.setTop (mkF m 39 #[.val (.ref a), .val (.int x0), .val (.int x1)] [(.int x1), (.ref a)]))
  have f21 := ((((((F_fixedHeight.ext E2).ext E3).ext E5).keep Kq13 (ninS ne_a_b2 nin0)).other W16 (Or.inr (slot_ne (Or.inl (hw _ (List.mem_of_getElem? (i := 60) rfl))) (Or.inr (hw _ (List.mem_of_getElem? (i := 53) rfl))) (by decide) (t := .int) (t' := (.object "com/example/postweave/postweave/view/ViewPosts")) (by decide) (by decide)))).other W20 (Or.inr (slot_ne (Or.inl (hw _ (List.mem_of_getElem? (i := 60) rfl))) (Or.inl (hw _ (List.mem_of_getElem? (i := 58) rfl))) (by decide) (t := .int) (t' := .int) (by decide) (by decide))))
  have f22 := (f19.wr W20)
  obtain ⟨T23, h23, X23, e23, W23, st23⟩ := putF X20 hx hZ hown (host := "") (Or.inl (hw _ (List.mem_of_getElem? (i := 59) rfl))) Via.refl e20 f21 f22 (Or.inl (hw _ (List.mem_of_getElem? (i := 60) rfl))) (hw _ (List.mem_of_getElem? (i := 1) rfl)) (ty := .int) (by decide) rfl rfl (g := (mkF m 39 #[.val (.ref a), .val (.int x0), .val (.int x1)] [(.int x1), (.ref a)])) rfl rfl (hb hby d2_39)
  have Fw23 := f21.same W23
  have O23 := O20.wr W23 g_a
  have N23 := Fr.snoc X23 N20 g_a
  have K23 := K20.wr W23 (Or.inl (List.mem_of_getElem? (i := 0) rfl))
  refine own_by st23 ?_
  show own_Go p e below s _ _ (T23.setTop (mkF m 42 #[.val (.ref a), .val (.int x0), .val (.int x1)] []))
  have f24 := (((((((F_parent.ext E2).ext E3).ext E5).keep Kq13 (ninS ne_a_b2 nin0)).other W16 (Or.inr (slot_ne (Or.inl (hw _ (List.mem_of_getElem? (i := 148) rfl))) (Or.inr (hw _ (List.mem_of_getElem? (i := 53) rfl))) (by decide) (t := (.object "com/example/postweave/postweave/view/ViewGroup")) (t' := (.object "com/example/postweave/postweave/view/ViewPosts")) (by decide) (by decide)))).other W20 (Or.inr (slot_ne (Or.inl (hw _ (List.mem_of_getElem? (i := 148) rfl))) (Or.inl (hw _ (List.mem_of_getElem? (i := 58) rfl))) (by decide) (t := (.object "com/example/postweave/postweave/view/ViewGroup")) (t' := .int) (by decide) (by decide)))).other W23 (Or.inr (slot_ne (Or.inl (hw _ (List.mem_of_getElem? (i := 148) rfl))) (Or.inl (hw _ (List.mem_of_getElem? (i := 60) rfl))) (by decide) (t := (.object "com/example/postweave/postweave/view/ViewGroup")) (t' := .int) (by decide) (by decide))))
  have f25 := (((((((F_children.ext E2).ext E3).ext E5).keep Kq13 (ninS ne_a_b2 nin0)).other W16 (Or.inr (slot_ne (Or.inr (hw _ (List.mem_of_getElem? (i := 86) rfl))) (Or.inr (hw _ (List.mem_of_getElem? (i := 53) rfl))) (by decide) (t := (.object "java/util/List")) (t' := (.object "com/example/postweave/postweave/view/ViewPosts")) (by decide) (by decide)))).other W20 (Or.inr (slot_ne (Or.inr (hw _ (List.mem_of_getElem? (i := 86) rfl))) (Or.inl (hw _ (List.mem_of_getElem? (i := 58) rfl))) (by decide) (t := (.object "java/util/List")) (t' := .int) (by decide) (by decide)))).other W23 (Or.inr (slot_ne (Or.inr (hw _ (List.mem_of_getElem? (i := 86) rfl))) (Or.inl (hw _ (List.mem_of_getElem? (i := 60) rfl))) (by decide) (t := (.object "java/util/List")) (t' := .int) (by decide) (by decide))))
  have f26 := (((((((F_readOnlyChildren.ext E2).ext E3).ext E5).keep Kq13 (ninS ne_a_b2 nin0)).other W16 (Or.inr (slot_ne (Or.inr (hw _ (List.mem_of_getElem? (i := 131) rfl))) (Or.inr (hw _ (List.mem_of_getElem? (i := 53) rfl))) (by decide) (t := (.object "java/util/List")) (t' := (.object "com/example/postweave/postweave/view/ViewPosts")) (by decide) (by decide)))).other W20 (Or.inr (slot_ne (Or.inr (hw _ (List.mem_of_getElem? (i := 131) rfl))) (Or.inl (hw _ (List.mem_of_getElem? (i := 58) rfl))) (by decide) (t := (.object "java/util/List")) (t' := .int) (by decide) (by decide)))).other W23 (Or.inr (slot_ne (Or.inr (hw _ (List.mem_of_getElem? (i := 131) rfl))) (Or.inl (hw _ (List.mem_of_getElem? (i := 60) rfl))) (by decide) (t := (.object "java/util/List")) (t' := .int) (by decide) (by decide))))
  have f27 := (((((((F_walkedChildren.ext E2).ext E3).ext E5).keep Kq13 (ninS ne_a_b2 nin0)).other W16 (Or.inr (slot_ne (Or.inl (hw _ (List.mem_of_getElem? (i := 135) rfl))) (Or.inr (hw _ (List.mem_of_getElem? (i := 53) rfl))) (by decide) (t := (.array (.object "com/example/postweave/postweave/view/View"))) (t' := (.object "com/example/postweave/postweave/view/ViewPosts")) (by decide) (by decide)))).other W20 (Or.inr (slot_ne (Or.inl (hw _ (List.mem_of_getElem? (i := 135) rfl))) (Or.inl (hw _ (List.mem_of_getElem? (i := 58) rfl))) (by decide) (t := (.array (.object "com/example/postweave/postweave/view/View"))) (t' := .int) (by decide) (by decide)))).other W23 (Or.inr (slot_ne (Or.inl (hw _ (List.mem_of_getElem? (i := 135) rfl))) (Or.inl (hw _ (List.mem_of_getElem? (i := 60) rfl))) (by decide) (t := (.array (.object "com/example/postweave/postweave/view/View"))) (t' := .int) (by decide) (by decide))))
  refine own_retV X23 hx hlk hret (hb hby d2_42) ?_ (by decide) (by decide)
  exact ⟨rfl, N23, by rw [e23]; exact K23, by rw [e23]; exact f24, by rw [e23]; exact f25, by rw [e23]; exact f26, by rw [e23]; exact f27⟩
def Q_rm_AC (Z : State) (a : Addr) (h0 : Heap) (n0 : Nat) (v : Option Value) (h : Heap) (L : List Loc) : Prop := v = none ∧ Fr n0 L ∧ h = h0
set_option maxRecDepth 65536 in
set_option maxHeartbeats 40000000 in
theorem rm_AC (l : Launch) (Z : State) (a0 : Array Value) (hw : ∀ d ∈ tables_1, d.before a0 Z = true) (ws : List Jvm.Cond) (a : Addr) (h0 : Heap) (n0 : Nat)  :
    MetFree l (⟨"java/util/AbstractCollection", "<init>", "()V"⟩ : MethodName) (head1 (Jvm.Cond.code (⟨"java/util/AbstractCollection", "<init>", "()V"⟩ : MethodName) jdk_22_method_1_code 1 none :: ws) ({ frames := 1, cells := 0, slots := 0, locals := 12 } : Room)) (fun ar U => ar = #[(.ref a)] ∧ Z.Warmed39 U.vm ∧ U.heap = h0) (fun _ _ _ _ _ => True) (fun _ U o U' => ∃ v L, o = .returned v ∧ Q_rm_AC Z a h0 n0 v U'.heap L ∧ FrameEnd U o U' L ({ frames := 1, cells := 0, slots := 0, locals := 12 } : Room).cells ({ frames := 1, cells := 0, slots := 0, locals := 12 } : Room).slots) := by
  refine own_enter (Q := (Q_rm_AC Z a h0 n0)) pl_9 ?_
  intro p e s m below meth c s₁ X0 hx hZ hby hml hown hnm hret hlk e0 hnamed
  have N0 := Fr.nil n0
  refine own_by (fun tz kz => castTop (g' := (mkF m 0 #[.val (.ref a)] [])) (by first | (simp [entryFrame, mkF, argsToLocals, Value.category]; done) | rfl) kz) ?_
  show own_Go p e below s _ _ (s₁.setTop (mkF m 0 #[.val (.ref a)] []))
  refine own_by (fun tz kz => XS.aloadN X0.here hx rfl (hb hby d9_0) rfl rfl kz) ?_
  show own_Go p e below s _ _ (s₁.setTop (mkF m 1 #[.val (.ref a)] [(.ref a)]))
  obtain ⟨T1, X1, e1, st1⟩ := initO X0 hx hZ hown (hw _ (List.mem_of_getElem? (i := 79) rfl)) (hw _ (List.mem_of_getElem? (i := 12) rfl)) (hw _ (List.mem_of_getElem? (i := 13) rfl)) e0 (g := (mkF m 1 #[.val (.ref a)] [(.ref a)])) rfl (by rw [hml]; rfl) rfl (hb hby d9_1) (by decide) (W := 0) (by show 2 * 0 + _ ≤ _; exact Nat.le_of_eq rfl) (by decide)
  refine own_by st1 ?_
  show own_Go p e below s _ _ (T1.setTop (mkF m 4 #[.val (.ref a)] []))
  refine own_retV X1 hx hlk hret (hb hby d9_4) ?_ (by decide) (by decide)
  exact ⟨rfl, N0, e1⟩
def Q_rm_ALs (Z : State) (a : Addr)  (h0 : Heap) (n0 : Nat) (v : Option Value) (h : Heap) (L : List Loc) : Prop := v = none ∧ Fr n0 L ∧ Keep h0 h [a] ∧ Fld Z h a "java/util/ArrayList" "elementData" "[Ljava/lang/Object;" .null
set_option maxRecDepth 65536 in
set_option maxHeartbeats 40000000 in
theorem rm_ALs (l : Launch) (Z : State) (a0 : Array Value) (hw : ∀ d ∈ tables_1, d.before a0 Z = true) (ws : List Jvm.Cond) (a : Addr)  (h0 : Heap) (n0 : Nat) (O0 : Old Z n0 h0) (E_a : Exa Z h0 a "java/util/ArrayList") (F_modCount : Fld Z h0 a "java/util/AbstractList" "modCount" "I" (.int (0 : Int32))) (F_elementData : Fld Z h0 a "java/util/ArrayList" "elementData" "[Ljava/lang/Object;" .null) (g_a : n0 ≤ a)  :
    MetFree l (⟨"java/util/AbstractList", "<init>", "()V"⟩ : MethodName) (head1 (Jvm.Cond.code (⟨"java/util/AbstractList", "<init>", "()V"⟩ : MethodName) jdk_39_method_1_code 1 none :: ws) ({ frames := 2, cells := 0, slots := 0, locals := 24 } : Room)) (fun ar U => ar = #[(.ref a)] ∧ Z.Warmed39 U.vm ∧ U.heap = h0) (fun _ _ _ _ _ => True) (fun _ U o U' => ∃ v L, o = .returned v ∧ Q_rm_ALs Z a h0 n0 v U'.heap L ∧ FrameEnd U o U' L ({ frames := 2, cells := 0, slots := 0, locals := 24 } : Room).cells ({ frames := 2, cells := 0, slots := 0, locals := 24 } : Room).slots) := by
  refine own_enter (Q := (Q_rm_ALs Z a h0 n0)) pl_8 ?_
  intro p e s m below meth c s₁ X0 hx hZ hby hml hown hnm hret hlk e0 hnamed
  have N0 := Fr.nil n0
  refine own_by (fun tz kz => castTop (g' := (mkF m 0 #[.val (.ref a)] [])) (by first | (simp [entryFrame, mkF, argsToLocals, Value.category]; done) | rfl) kz) ?_
  have K0 := Keep.refl h0 [a]
  show own_Go p e below s _ _ (s₁.setTop (mkF m 0 #[.val (.ref a)] []))
  refine own_by (fun tz kz => XS.aloadN X0.here hx rfl (hb hby d8_0) rfl rfl kz) ?_
  show own_Go p e below s _ _ (s₁.setTop (mkF m 1 #[.val (.ref a)] [(.ref a)]))
  obtain ⟨_, _, ⟨T1, L1, k1, n1⟩, -, X1, ⟨Lc1, hQ1, l1, y1, z1⟩, st1⟩ := X0.specialBack hx (y := (⟨"java/util/AbstractCollection", "<init>", "()V"⟩ : MethodName)) rfl hown (mvT hZ (hw _ (List.mem_of_getElem? (i := 73) rfl))) (mvT hZ (hw _ (List.mem_of_getElem? (i := 74) rfl))) (mvT hZ (hw _ (List.mem_of_getElem? (i := 78) rfl))) (by decide) (backOf (W := 0) (rm_AC l Z a0 hw [] a h0 n0) hZ (hw _ (List.mem_of_getElem? (i := 78) rfl)) (hw _ (List.mem_of_getElem? (i := 77) rfl)) (by decide) (by decide)) (g := (mkF m 1 #[.val (.ref a)] [(.ref a)])) rfl (by rw [hml]; rfl) (Steps.refl _) (a := a) (argsL := []) (rest := []) (lenOf pd_1 rfl) rfl (by show 2 * 0 + _ ≤ _; exact Nat.le_of_eq rfl) (hb hby d8_1) (fun _ _ => ⟨rfl, e0, (by decide : 0 + 0 ≤ _), (by decide : 0 + 0 ≤ _)⟩)
  dsimp only [Pt.U, Pt.locs, Pt.cells, Pt.slots] at X1 l1 y1 z1 st1 hQ1
  rw [l1, y1, z1] at X1
  obtain ⟨rfl, Nq1, e1⟩ := hQ1
  have N1 := Fr.app N0 Nq1
  refine own_via st1 ?_
  show own_Go p e below s _ _ (T1.setTop (mkF m 4 #[.val (.ref a)] []))
  refine own_by (fun tz kz => XS.aloadN X1.here hx rfl (hb hby d8_4) rfl rfl kz) ?_
  show own_Go p e below s _ _ (T1.setTop (mkF m 5 #[.val (.ref a)] [(.ref a)]))
  refine own_by (fun tz kz => XS.iconst X1.here hx rfl (hb hby d8_5) kz) ?_
  show own_Go p e below s _ _ (T1.setTop (mkF m 6 #[.val (.ref a)] [(.int (0 : Int32)), (.ref a)]))
  obtain ⟨T2, h2, X2, e2, W2, st2⟩ := putF X1 hx hZ hown (host := "") (Or.inl (hw _ (List.mem_of_getElem? (i := 80) rfl))) Via.refl e1 F_modCount E_a (Or.inl (hw _ (List.mem_of_getElem? (i := 81) rfl))) (hw _ (List.mem_of_getElem? (i := 62) rfl)) (ty := .int) (by decide) rfl rfl (g := (mkF m 6 #[.val (.ref a)] [(.int (0 : Int32)), (.ref a)])) rfl rfl (hb hby d8_6)
  have Fw2 := F_modCount.same W2
  have O2 := O0.wr W2 g_a
  have N2 := Fr.snoc X2 N1 g_a
  have K2 := K0.wr W2 (Or.inl (List.mem_of_getElem? (i := 0) rfl))
  refine own_by st2 ?_
  show own_Go p e below s _ _ (T2.setTop (mkF m 9 #[.val (.ref a)] []))
  have f3 := (F_elementData.other W2 (Or.inr (slot_ne (Or.inl (hw _ (List.mem_of_getElem? (i := 84) rfl))) (Or.inl (hw _ (List.mem_of_getElem? (i := 81) rfl))) (by decide) (t := (.array (.object "java/lang/Object"))) (t' := .int) (by decide) (by decide))))
  refine own_retV X2 hx hlk hret (hb hby d8_9) ?_ (by decide) (by decide)
  exact ⟨rfl, N2, by rw [e2]; exact K2, by rw [e2]; exact f3⟩
def Q_rm_AL (Z : State) (a : Addr) (de : Addr) (h0 : Heap) (n0 : Nat) (v : Option Value) (h : Heap) (L : List Loc) : Prop := v = none ∧ Fr n0 L ∧ Keep h0 h [a]
set_option maxRecDepth 65536 in
set_option maxHeartbeats 40000000 in
theorem rm_AL (l : Launch) (Z : State) (a0 : Array Value) (hw : ∀ d ∈ tables_1, d.before a0 Z = true) (ws : List Jvm.Cond) (a : Addr) (de : Addr) (h0 : Heap) (n0 : Nat) (O0 : Old Z n0 h0) (E_a : Exa Z h0 a "java/util/ArrayList") (F_modCount : Fld Z h0 a "java/util/AbstractList" "modCount" "I" (.int (0 : Int32))) (F_elementData : Fld Z h0 a "java/util/ArrayList" "elementData" "[Ljava/lang/Object;" .null) (g_a : n0 ≤ a) (S_de : Sta Z Z.heap "java/util/ArrayList" "DEFAULTCAPACITY_EMPTY_ELEMENTDATA" "[Ljava/lang/Object;" (.ref de)) :
    MetFree l (⟨"java/util/ArrayList", "<init>", "()V"⟩ : MethodName) (head1 (Jvm.Cond.code (⟨"java/util/ArrayList", "<init>", "()V"⟩ : MethodName) jdk_38_method_2_code 1 none :: ws) ({ frames := 3, cells := 0, slots := 0, locals := 36 } : Room)) (fun ar U => ar = #[(.ref a)] ∧ Z.Warmed39 U.vm ∧ U.heap = h0) (fun _ _ _ _ _ => True) (fun _ U o U' => ∃ v L, o = .returned v ∧ Q_rm_AL Z a de h0 n0 v U'.heap L ∧ FrameEnd U o U' L ({ frames := 3, cells := 0, slots := 0, locals := 36 } : Room).cells ({ frames := 3, cells := 0, slots := 0, locals := 36 } : Room).slots) := by
  refine own_enter (Q := (Q_rm_AL Z a de h0 n0)) pl_7 ?_
  intro p e s m below meth c s₁ X0 hx hZ hby hml hown hnm hret hlk e0 hnamed
  have N0 := Fr.nil n0
  refine own_by (fun tz kz => castTop (g' := (mkF m 0 #[.val (.ref a)] [])) (by first | (simp [entryFrame, mkF, argsToLocals, Value.category]; done) | rfl) kz) ?_
  have K0 := Keep.refl h0 [a]
  show own_Go p e below s _ _ (s₁.setTop (mkF m 0 #[.val (.ref a)] []))
  refine own_by (fun tz kz => XS.aloadN X0.here hx rfl (hb hby d7_0) rfl rfl kz) ?_
  show own_Go p e below s _ _ (s₁.setTop (mkF m 1 #[.val (.ref a)] [(.ref a)]))
  obtain ⟨_, _, ⟨T1, L1, k1, n1⟩, -, X1, ⟨Lc1, hQ1, l1, y1, z1⟩, st1⟩ := X0.specialBack hx (y := (⟨"java/util/AbstractList", "<init>", "()V"⟩ : MethodName)) rfl hown (mvT hZ (hw _ (List.mem_of_getElem? (i := 67) rfl))) (mvT hZ (hw _ (List.mem_of_getElem? (i := 68) rfl))) (mvT hZ (hw _ (List.mem_of_getElem? (i := 72) rfl))) (by decide) (backOf (W := 0) (rm_ALs l Z a0 hw [] a  h0 n0 O0 E_a F_modCount F_elementData g_a ) hZ (hw _ (List.mem_of_getElem? (i := 72) rfl)) (hw _ (List.mem_of_getElem? (i := 71) rfl)) (by decide) (by decide)) (g := (mkF m 1 #[.val (.ref a)] [(.ref a)])) rfl (by rw [hml]; rfl) (Steps.refl _) (a := a) (argsL := []) (rest := []) (lenOf pd_1 rfl) rfl (by show 2 * 0 + _ ≤ _; exact Nat.le_of_eq rfl) (hb hby d7_1) (fun _ _ => ⟨rfl, e0, (by decide : 0 + 0 ≤ _), (by decide : 0 + 0 ≤ _)⟩)
  dsimp only [Pt.U, Pt.locs, Pt.cells, Pt.slots] at X1 l1 y1 z1 st1 hQ1
  rw [l1, y1, z1] at X1
  obtain ⟨rfl, Nq1, Kq1, Fq0_1⟩ := hQ1
  have N1 := Fr.app N0 Nq1
  have e1 : T1.heap = T1.heap := rfl
  refine own_via st1 ?_
  have O1 := O0.keep Kq1 (allS g_a all0)
  have K1 := K0.trans Kq1 (allS (Or.inl (List.mem_of_getElem? (i := 0) rfl)) all0)
  show own_Go p e below s _ _ (T1.setTop (mkF m 4 #[.val (.ref a)] []))
  refine own_by (fun tz kz => XS.aloadN X1.here hx rfl (hb hby d7_4) rfl rfl kz) ?_
  show own_Go p e below s _ _ (T1.setTop (mkF m 5 #[.val (.ref a)] [(.ref a)]))
  obtain ⟨T2, X2, e2, st2⟩ := getS2 X1 hx hZ hown (host := "") (Or.inl (hw _ (List.mem_of_getElem? (i := 82) rfl))) Via.refl e1 (S_de.ext O1.2) (g := (mkF m 5 #[.val (.ref a)] [(.ref a)])) rfl (hb hby d7_5)
  refine own_by st2 ?_
  show own_Go p e below s _ _ (T2.setTop (mkF m 8 #[.val (.ref a)] [(.ref de), (.ref a)]))
  have f3 := (E_a.keep Kq1)
  obtain ⟨T4, h4, X4, e4, W4, st4⟩ := putF X2 hx hZ hown (host := "") (Or.inl (hw _ (List.mem_of_getElem? (i := 83) rfl))) Via.refl e2 Fq0_1 f3 (Or.inl (hw _ (List.mem_of_getElem? (i := 84) rfl))) (hw _ (List.mem_of_getElem? (i := 62) rfl)) (ty := (.array (.object "java/lang/Object"))) (by decide) rfl rfl (g := (mkF m 8 #[.val (.ref a)] [(.ref de), (.ref a)])) rfl rfl (hb hby d7_8)
  have Fw4 := Fq0_1.same W4
  have O4 := O1.wr W4 g_a
  have N4 := Fr.snoc X4 N1 g_a
  have K4 := K1.wr W4 (Or.inl (List.mem_of_getElem? (i := 0) rfl))
  refine own_by st4 ?_
  show own_Go p e below s _ _ (T4.setTop (mkF m 11 #[.val (.ref a)] []))
  refine own_retV X4 hx hlk hret (hb hby d7_11) ?_ (by decide) (by decide)
  exact ⟨rfl, N4, by rw [e4]; exact K4⟩
def Q_rm_UC (Z : State) (a : Addr) (o1 : Addr) (h0 : Heap) (n0 : Nat) (v : Option Value) (h : Heap) (L : List Loc) : Prop := v = none ∧ Fr n0 L ∧ Keep h0 h [a] ∧ Fld Z h a "java/util/Collections$UnmodifiableList" "list" "Ljava/util/List;" .null
set_option maxRecDepth 65536 in
set_option maxHeartbeats 40000000 in
theorem rm_UC (l : Launch) (Z : State) (a0 : Array Value) (hw : ∀ d ∈ tables_1, d.before a0 Z = true) (ws : List Jvm.Cond) (a : Addr) (o1 : Addr) (h0 : Heap) (n0 : Nat) (O0 : Old Z n0 h0) (E_a : Exa Z h0 a "java/util/Collections$UnmodifiableRandomAccessList") (F_c : Fld Z h0 a "java/util/Collections$UnmodifiableCollection" "c" "Ljava/util/Collection;" .null) (F_list : Fld Z h0 a "java/util/Collections$UnmodifiableList" "list" "Ljava/util/List;" .null) (g_a : n0 ≤ a)  :
    MetFree l (⟨"java/util/Collections$UnmodifiableCollection", "<init>", "(Ljava/util/Collection;)V"⟩ : MethodName) (head1 (Jvm.Cond.code (⟨"java/util/Collections$UnmodifiableCollection", "<init>", "(Ljava/util/Collection;)V"⟩ : MethodName) jdk_119_method_1_code 2 none :: ws) ({ frames := 1, cells := 0, slots := 0, locals := 12 } : Room)) (fun ar U => ar = #[(.ref a), (.ref o1)] ∧ Z.Warmed39 U.vm ∧ U.heap = h0) (fun _ _ _ _ _ => True) (fun _ U o U' => ∃ v L, o = .returned v ∧ Q_rm_UC Z a o1 h0 n0 v U'.heap L ∧ FrameEnd U o U' L ({ frames := 1, cells := 0, slots := 0, locals := 12 } : Room).cells ({ frames := 1, cells := 0, slots := 0, locals := 12 } : Room).slots) := by
  refine own_enter (Q := (Q_rm_UC Z a o1 h0 n0)) pl_13 ?_
  intro p e s m below meth c s₁ X0 hx hZ hby hml hown hnm hret hlk e0 hnamed
  have N0 := Fr.nil n0
  refine own_by (fun tz kz => castTop (g' := (mkF m 0 #[.val (.ref a), .val (.ref o1)] [])) (by first | (simp [entryFrame, mkF, argsToLocals, Value.category]; done) | rfl) kz) ?_
  have K0 := Keep.refl h0 [a]
  show own_Go p e below s _ _ (s₁.setTop (mkF m 0 #[.val (.ref a), .val (.ref o1)] []))
  refine own_by (fun tz kz => XS.aloadN X0.here hx rfl (hb hby d13_0) rfl rfl kz) ?_
  show own_Go p e below s _ _ (s₁.setTop (mkF m 1 #[.val (.ref a), .val (.ref o1)] [(.ref a)]))
  obtain ⟨T1, X1, e1, st1⟩ := initO X0 hx hZ hown (hw _ (List.mem_of_getElem? (i := 125) rfl)) (hw _ (List.mem_of_getElem? (i := 12) rfl)) (hw _ (List.mem_of_getElem? (i := 13) rfl)) e0 (g := (mkF m 1 #[.val (.ref a), .val (.ref o1)] [(.ref a)])) rfl (by rw [hml]; rfl) rfl (hb hby d13_1) (by decide) (W := 0) (by show 2 * 0 + _ ≤ _; exact Nat.le_of_eq rfl) (by decide)
  refine own_by st1 ?_
  show own_Go p e below s _ _ (T1.setTop (mkF m 4 #[.val (.ref a), .val (.ref o1)] []))
  refine own_by (fun tz kz => XS.aloadN X1.here hx rfl (hb hby d13_4) rfl rfl kz) ?_
  show own_Go p e below s _ _ (T1.setTop (mkF m 5 #[.val (.ref a), .val (.ref o1)] [(.ref o1)]))
  refine own_by (fun tz kz => XS.ifnonnullYes X1.here hx rfl (pc0 := 5) (pc' := 16) rfl (hb hby d13_5) rfl (by decide) (by decide) kz) ?_
  show own_Go p e below s _ _ (T1.setTop (mkF m 16 #[.val (.ref a), .val (.ref o1)] []))
  refine own_by (fun tz kz => XS.aloadN X1.here hx rfl (hb hby d13_16) rfl rfl kz) ?_
  show own_Go p e below s _ _ (T1.setTop (mkF m 17 #[.val (.ref a), .val (.ref o1)] [(.ref a)]))
  refine own_by (fun tz kz => XS.aloadN X1.here hx rfl (hb hby d13_17) rfl rfl kz) ?_
  show own_Go p e below s _ _ (T1.setTop (mkF m 18 #[.val (.ref a), .val (.ref o1)] [(.ref o1), (.ref a)]))
  obtain ⟨T2, h2, X2, e2, W2, st2⟩ := putF X1 hx hZ hown (host := "") (Or.inl (hw _ (List.mem_of_getElem? (i := 126) rfl))) Via.refl e1 F_c E_a (Or.inr ⟨(hw _ (List.mem_of_getElem? (i := 127) rfl)), rfl, hnm⟩) (hw _ (List.mem_of_getElem? (i := 108) rfl)) (ty := (.object "java/util/Collection")) (by decide) rfl rfl (g := (mkF m 18 #[.val (.ref a), .val (.ref o1)] [(.ref o1), (.ref a)])) rfl rfl (hb hby d13_18)
  have Fw2 := F_c.same W2
  have O2 := O0.wr W2 g_a
  have N2 := Fr.snoc X2 N0 g_a
  have K2 := K0.wr W2 (Or.inl (List.mem_of_getElem? (i := 0) rfl))
  refine own_by st2 ?_
  show own_Go p e below s _ _ (T2.setTop (mkF m 21 #[.val (.ref a), .val (.ref o1)] []))
  have f3 := (F_list.other W2 (Or.inr (slot_ne (Or.inr (hw _ (List.mem_of_getElem? (i := 129) rfl))) (Or.inr (hw _ (List.mem_of_getElem? (i := 127) rfl))) (by decide) (t := (.object "java/util/List")) (t' := (.object "java/util/Collection")) (by decide) (by decide))))
  refine own_retV X2 hx hlk hret (hb hby d13_21) ?_ (by decide) (by decide)
  exact ⟨rfl, N2, by rw [e2]; exact K2, by rw [e2]; exact f3⟩
def Q_rm_UL (Z : State) (a : Addr) (o1 : Addr) (h0 : Heap) (n0 : Nat) (v : Option Value) (h : Heap) (L : List Loc) : Prop := v = none ∧ Fr n0 L ∧ Keep h0 h [a]
set_option maxRecDepth 65536 in
set_option maxHeartbeats 40000000 in
theorem rm_UL (l : Launch) (Z : State) (a0 : Array Value) (hw : ∀ d ∈ tables_1, d.before a0 Z = true) (ws : List Jvm.Cond) (a : Addr) (o1 : Addr) (h0 : Heap) (n0 : Nat) (O0 : Old Z n0 h0) (E_a : Exa Z h0 a "java/util/Collections$UnmodifiableRandomAccessList") (F_c : Fld Z h0 a "java/util/Collections$UnmodifiableCollection" "c" "Ljava/util/Collection;" .null) (F_list : Fld Z h0 a "java/util/Collections$UnmodifiableList" "list" "Ljava/util/List;" .null) (g_a : n0 ≤ a)  :
    MetFree l (⟨"java/util/Collections$UnmodifiableList", "<init>", "(Ljava/util/List;)V"⟩ : MethodName) (head1 (Jvm.Cond.code (⟨"java/util/Collections$UnmodifiableList", "<init>", "(Ljava/util/List;)V"⟩ : MethodName) jdk_120_method_1_code 2 none :: ws) ({ frames := 2, cells := 0, slots := 0, locals := 26 } : Room)) (fun ar U => ar = #[(.ref a), (.ref o1)] ∧ Z.Warmed39 U.vm ∧ U.heap = h0) (fun _ _ _ _ _ => True) (fun _ U o U' => ∃ v L, o = .returned v ∧ Q_rm_UL Z a o1 h0 n0 v U'.heap L ∧ FrameEnd U o U' L ({ frames := 2, cells := 0, slots := 0, locals := 26 } : Room).cells ({ frames := 2, cells := 0, slots := 0, locals := 26 } : Room).slots) := by
  refine own_enter (Q := (Q_rm_UL Z a o1 h0 n0)) pl_12 ?_
  intro p e s m below meth c s₁ X0 hx hZ hby hml hown hnm hret hlk e0 hnamed
  have N0 := Fr.nil n0
  refine own_by (fun tz kz => castTop (g' := (mkF m 0 #[.val (.ref a), .val (.ref o1)] [])) (by first | (simp [entryFrame, mkF, argsToLocals, Value.category]; done) | rfl) kz) ?_
  have K0 := Keep.refl h0 [a]
  show own_Go p e below s _ _ (s₁.setTop (mkF m 0 #[.val (.ref a), .val (.ref o1)] []))
  refine own_by (fun tz kz => XS.aloadN X0.here hx rfl (hb hby d12_0) rfl rfl kz) ?_
  show own_Go p e below s _ _ (s₁.setTop (mkF m 1 #[.val (.ref a), .val (.ref o1)] [(.ref a)]))
  refine own_by (fun tz kz => XS.aloadN X0.here hx rfl (hb hby d12_1) rfl rfl kz) ?_
  show own_Go p e below s _ _ (s₁.setTop (mkF m 2 #[.val (.ref a), .val (.ref o1)] [(.ref o1), (.ref a)]))
  obtain ⟨_, _, ⟨T1, L1, k1, n1⟩, -, X1, ⟨Lc1, hQ1, l1, y1, z1⟩, st1⟩ := X0.specialBack hx (y := (⟨"java/util/Collections$UnmodifiableCollection", "<init>", "(Ljava/util/Collection;)V"⟩ : MethodName)) rfl hown (mvT hZ (hw _ (List.mem_of_getElem? (i := 119) rfl))) (mvT hZ (hw _ (List.mem_of_getElem? (i := 120) rfl))) (mvT hZ (hw _ (List.mem_of_getElem? (i := 124) rfl))) (by decide) (backOf (W := 0) (rm_UC l Z a0 hw [] a o1 h0 n0 O0 E_a F_c F_list g_a ) hZ (hw _ (List.mem_of_getElem? (i := 124) rfl)) (hw _ (List.mem_of_getElem? (i := 123) rfl)) (by decide) (by decide)) (g := (mkF m 2 #[.val (.ref a), .val (.ref o1)] [(.ref o1), (.ref a)])) rfl (by rw [hml]; rfl) (Steps.refl _) (a := a) (argsL := [(.ref o1)]) (rest := []) (lenOf pd_6 rfl) rfl (by show 2 * 0 + _ ≤ _; exact Nat.le_of_eq rfl) (hb hby d12_2) (fun _ _ => ⟨rfl, e0, (by decide : 0 + 0 ≤ _), (by decide : 0 + 0 ≤ _)⟩)
  dsimp only [Pt.U, Pt.locs, Pt.cells, Pt.slots] at X1 l1 y1 z1 st1 hQ1
  rw [l1, y1, z1] at X1
  obtain ⟨rfl, Nq1, Kq1, Fq0_1⟩ := hQ1
  have N1 := Fr.app N0 Nq1
  have e1 : T1.heap = T1.heap := rfl
  refine own_via st1 ?_
  have O1 := O0.keep Kq1 (allS g_a all0)
  have K1 := K0.trans Kq1 (allS (Or.inl (List.mem_of_getElem? (i := 0) rfl)) all0)
  show own_Go p e below s _ _ (T1.setTop (mkF m 5 #[.val (.ref a), .val (.ref o1)] []))
  refine own_by (fun tz kz => XS.aloadN X1.here hx rfl (hb hby d12_5) rfl rfl kz) ?_
  show own_Go p e below s _ _ (T1.setTop (mkF m 6 #[.val (.ref a), .val (.ref o1)] [(.ref a)]))
  refine own_by (fun tz kz => XS.aloadN X1.here hx rfl (hb hby d12_6) rfl rfl kz) ?_
  show own_Go p e below s _ _ (T1.setTop (mkF m 7 #[.val (.ref a), .val (.ref o1)] [(.ref o1), (.ref a)]))
  have f2 := (E_a.keep Kq1)
  obtain ⟨T3, h3, X3, e3, W3, st3⟩ := putF X1 hx hZ hown (host := "") (Or.inl (hw _ (List.mem_of_getElem? (i := 128) rfl))) Via.refl e1 Fq0_1 f2 (Or.inr ⟨(hw _ (List.mem_of_getElem? (i := 129) rfl)), rfl, hnm⟩) (hw _ (List.mem_of_getElem? (i := 108) rfl)) (ty := (.object "java/util/List")) (by decide) rfl rfl (g := (mkF m 7 #[.val (.ref a), .val (.ref o1)] [(.ref o1), (.ref a)])) rfl rfl (hb hby d12_7)
  have Fw3 := Fq0_1.same W3
  have O3 := O1.wr W3 g_a
  have N3 := Fr.snoc X3 N1 g_a
  have K3 := K1.wr W3 (Or.inl (List.mem_of_getElem? (i := 0) rfl))
  refine own_by st3 ?_
  show own_Go p e below s _ _ (T3.setTop (mkF m 10 #[.val (.ref a), .val (.ref o1)] []))
  refine own_retV X3 hx hlk hret (hb hby d12_10) ?_ (by decide) (by decide)
  exact ⟨rfl, N3, by rw [e3]; exact K3⟩
def Q_rm_UR (Z : State) (a : Addr) (o1 : Addr) (h0 : Heap) (n0 : Nat) (v : Option Value) (h : Heap) (L : List Loc) : Prop := v = none ∧ Fr n0 L ∧ Keep h0 h [a]
set_option maxRecDepth 65536 in
set_option maxHeartbeats 40000000 in
theorem rm_UR (l : Launch) (Z : State) (a0 : Array Value) (hw : ∀ d ∈ tables_1, d.before a0 Z = true) (ws : List Jvm.Cond) (a : Addr) (o1 : Addr) (h0 : Heap) (n0 : Nat) (O0 : Old Z n0 h0) (E_a : Exa Z h0 a "java/util/Collections$UnmodifiableRandomAccessList") (F_c : Fld Z h0 a "java/util/Collections$UnmodifiableCollection" "c" "Ljava/util/Collection;" .null) (F_list : Fld Z h0 a "java/util/Collections$UnmodifiableList" "list" "Ljava/util/List;" .null) (g_a : n0 ≤ a)  :
    MetFree l (⟨"java/util/Collections$UnmodifiableRandomAccessList", "<init>", "(Ljava/util/List;)V"⟩ : MethodName) (head1 (Jvm.Cond.code (⟨"java/util/Collections$UnmodifiableRandomAccessList", "<init>", "(Ljava/util/List;)V"⟩ : MethodName) jdk_121_method_1_code 2 none :: ws) ({ frames := 3, cells := 0, slots := 0, locals := 40 } : Room)) (fun ar U => ar = #[(.ref a), (.ref o1)] ∧ Z.Warmed39 U.vm ∧ U.heap = h0) (fun _ _ _ _ _ => True) (fun _ U o U' => ∃ v L, o = .returned v ∧ Q_rm_UR Z a o1 h0 n0 v U'.heap L ∧ FrameEnd U o U' L ({ frames := 3, cells := 0, slots := 0, locals := 40 } : Room).cells ({ frames := 3, cells := 0, slots := 0, locals := 40 } : Room).slots) := by
  refine own_enter (Q := (Q_rm_UR Z a o1 h0 n0)) pl_11 ?_
  intro p e s m below meth c s₁ X0 hx hZ hby hml hown hnm hret hlk e0 hnamed
  have N0 := Fr.nil n0
  refine own_by (fun tz kz => castTop (g' := (mkF m 0 #[.val (.ref a), .val (.ref o1)] [])) (by first | (simp [entryFrame, mkF, argsToLocals, Value.category]; done) | rfl) kz) ?_
  have K0 := Keep.refl h0 [a]
  show own_Go p e below s _ _ (s₁.setTop (mkF m 0 #[.val (.ref a), .val (.ref o1)] []))
  refine own_by (fun tz kz => XS.aloadN X0.here hx rfl (hb hby d11_0) rfl rfl kz) ?_
  show own_Go p e below s _ _ (s₁.setTop (mkF m 1 #[.val (.ref a), .val (.ref o1)] [(.ref a)]))
  refine own_by (fun tz kz => XS.aloadN X0.here hx rfl (hb hby d11_1) rfl rfl kz) ?_
  show own_Go p e below s _ _ (s₁.setTop (mkF m 2 #[.val (.ref a), .val (.ref o1)] [(.ref o1), (.ref a)]))
  obtain ⟨_, _, ⟨T1, L1, k1, n1⟩, -, X1, ⟨Lc1, hQ1, l1, y1, z1⟩, st1⟩ := X0.specialBack hx (y := (⟨"java/util/Collections$UnmodifiableList", "<init>", "(Ljava/util/List;)V"⟩ : MethodName)) rfl hown (mvT hZ (hw _ (List.mem_of_getElem? (i := 113) rfl))) (mvT hZ (hw _ (List.mem_of_getElem? (i := 114) rfl))) (mvT hZ (hw _ (List.mem_of_getElem? (i := 118) rfl))) (by decide) (backOf (W := 0) (rm_UL l Z a0 hw [] a o1 h0 n0 O0 E_a F_c F_list g_a ) hZ (hw _ (List.mem_of_getElem? (i := 118) rfl)) (hw _ (List.mem_of_getElem? (i := 117) rfl)) (by decide) (by decide)) (g := (mkF m 2 #[.val (.ref a), .val (.ref o1)] [(.ref o1), (.ref a)])) rfl (by rw [hml]; rfl) (Steps.refl _) (a := a) (argsL := [(.ref o1)]) (rest := []) (lenOf pd_5 rfl) rfl (by show 2 * 0 + _ ≤ _; exact Nat.le_of_eq rfl) (hb hby d11_2) (fun _ _ => ⟨rfl, e0, (by decide : 0 + 0 ≤ _), (by decide : 0 + 0 ≤ _)⟩)
  dsimp only [Pt.U, Pt.locs, Pt.cells, Pt.slots] at X1 l1 y1 z1 st1 hQ1
  rw [l1, y1, z1] at X1
  obtain ⟨rfl, Nq1, Kq1⟩ := hQ1
  have N1 := Fr.app N0 Nq1
  have e1 : T1.heap = T1.heap := rfl
  refine own_via st1 ?_
  have O1 := O0.keep Kq1 (allS g_a all0)
  have K1 := K0.trans Kq1 (allS (Or.inl (List.mem_of_getElem? (i := 0) rfl)) all0)
  show own_Go p e below s _ _ (T1.setTop (mkF m 5 #[.val (.ref a), .val (.ref o1)] []))
  refine own_retV X1 hx hlk hret (hb hby d11_5) ?_ (by decide) (by decide)
  exact ⟨rfl, N1, by rw [e1]; exact K1⟩
def Q_rm_unm (Z : State) (o1 mA mL mR : Addr) (h0 : Heap) (n0 : Nat) (v : Option Value) (h : Heap) (L : List Loc) : Prop := ∃ b, v = some (.ref b) ∧ Fr n0 L ∧ n0 ≤ b ∧ Keep h0 h []
set_option maxRecDepth 65536 in
set_option maxHeartbeats 40000000 in
theorem rm_unm (l : Launch) (Z : State) (a0 : Array Value) (hw : ∀ d ∈ tables_1, d.before a0 Z = true) (ws : List Jvm.Cond) (o1 mA mL mR : Addr) (h0 : Heap) (n0 : Nat) (O0 : Old Z n0 h0) (E_o : Exa Z h0 o1 "java/util/ArrayList") (M_A : Mir Z "java/util/ArrayList" mA) (M_L : Mir Z "java/util/Collections$UnmodifiableList" mL) (M_R : Mir Z "java/util/Collections$UnmodifiableRandomAccessList" mR) :
    MetFree l (⟨"java/util/Collections", "unmodifiableList", "(Ljava/util/List;)Ljava/util/List;"⟩ : MethodName) (head1 (Jvm.Cond.code (⟨"java/util/Collections", "unmodifiableList", "(Ljava/util/List;)Ljava/util/List;"⟩ : MethodName) jdk_79_method_35_code 1 (some (.object "java/util/List")) :: ws) ({ frames := 4, cells := 1, slots := 2, locals := 56 } : Room)) (fun ar U => ar = #[(.ref o1)] ∧ Z.Warmed39 U.vm ∧ U.heap = h0) (fun _ _ _ _ _ => True) (fun _ U o U' => ∃ v L, o = .returned v ∧ Q_rm_unm Z o1 mA mL mR h0 n0 v U'.heap L ∧ FrameEnd U o U' L ({ frames := 4, cells := 1, slots := 2, locals := 56 } : Room).cells ({ frames := 4, cells := 1, slots := 2, locals := 56 } : Room).slots) := by
  refine own_enter (Q := (Q_rm_unm Z o1 mA mL mR h0 n0)) pl_10 ?_
  intro p e s m below meth c s₁ X0 hx hZ hby hml hown hnm hret hlk e0 hnamed
  have N0 := Fr.nil n0
  refine own_by (fun tz kz => castTop (g' := (mkF m 0 #[.val (.ref o1)] [])) (by first | (simp [entryFrame, mkF, argsToLocals, Value.category]; done) | rfl) kz) ?_
  have K0 := Keep.refl h0 []
  show own_Go p e below s _ _ (s₁.setTop (mkF m 0 #[.val (.ref o1)] []))
  refine own_by (fun tz kz => XS.aloadN X0.here hx rfl (hb hby d10_0) rfl rfl kz) ?_
  show own_Go p e below s _ _ (s₁.setTop (mkF m 1 #[.val (.ref o1)] [(.ref o1)]))
  obtain ⟨T1, X1, e1, st1⟩ := own_gcI (own := "java/util/Collections") (C := "java/util/ArrayList") (I := "java/util/List") (index := 211) X0 hx hZ hown (mvT hZ (hw _ (List.mem_of_getElem? (i := 91) rfl))) (mvT hZ (hw _ (List.mem_of_getElem? (i := 92) rfl))) (own_face hZ (by decide) (by decide) (hw _ (List.mem_of_getElem? (i := 93) rfl))) (mvT hZ (hw _ (List.mem_of_getElem? (i := 94) rfl))) (mvT hZ (hw _ (List.mem_of_getElem? (i := 95) rfl))) (mvT hZ (hw _ (List.mem_of_getElem? (i := 96) rfl))) (mvT hZ (hw _ (List.mem_of_getElem? (i := 97) rfl))) (mvT hZ (hw _ (List.mem_of_getElem? (i := 98) rfl))) (mvT hZ (hw _ (List.mem_of_getElem? (i := 99) rfl))) (by decide) (by decide) e0 E_o M_A (g := (mkF m 1 #[.val (.ref o1)] [(.ref o1)])) rfl (by rw [hml]; rfl) rfl (hb hby d10_1) (by decide) (W := 0) (by show 2 * 0 + _ ≤ _; exact Nat.le_of_eq rfl) (by decide)
  refine own_by st1 ?_
  show own_Go p e below s _ _ (T1.setTop (mkF m 6 #[.val (.ref o1)] [(.ref mA)]))
  obtain ⟨T2, X2, e2, st2⟩ := own_ldcC X1 hx hZ hown (hw _ (List.mem_of_getElem? (i := 101) rfl)) M_L e1 (g := (mkF m 6 #[.val (.ref o1)] [(.ref mA)])) rfl (hb hby d10_6)
  refine own_by st2 ?_
  show own_Go p e below s _ _ (T2.setTop (mkF m 8 #[.val (.ref o1)] [(.ref mL), (.ref mA)]))
  refine own_by (fun tz kz => Jvm.RoadKit.acmp (g := (mkF m 8 #[.val (.ref o1)] [(.ref mL), (.ref mA)])) X2 hx rfl rfl rfl (pc0 := 8) (pc' := 11) (same := false) rfl (hb hby d10_8) rfl (decide_eq_false fun q => (Mir.ne M_A M_L (by decide)) (Value.ref.inj q)) (by decide) (by decide) kz) ?_
  show own_Go p e below s _ _ (T2.setTop (mkF m 11 #[.val (.ref o1)] []))
  refine own_by (fun tz kz => XS.aloadN X2.here hx rfl (hb hby d10_11) rfl rfl kz) ?_
  show own_Go p e below s _ _ (T2.setTop (mkF m 12 #[.val (.ref o1)] [(.ref o1)]))
  obtain ⟨T3, X3, e3, st3⟩ := own_gcI (own := "java/util/Collections") (C := "java/util/ArrayList") (I := "java/util/List") (index := 214) X2 hx hZ hown (mvT hZ (hw _ (List.mem_of_getElem? (i := 103) rfl))) (mvT hZ (hw _ (List.mem_of_getElem? (i := 92) rfl))) (own_face hZ (by decide) (by decide) (hw _ (List.mem_of_getElem? (i := 93) rfl))) (mvT hZ (hw _ (List.mem_of_getElem? (i := 94) rfl))) (mvT hZ (hw _ (List.mem_of_getElem? (i := 95) rfl))) (mvT hZ (hw _ (List.mem_of_getElem? (i := 96) rfl))) (mvT hZ (hw _ (List.mem_of_getElem? (i := 97) rfl))) (mvT hZ (hw _ (List.mem_of_getElem? (i := 98) rfl))) (mvT hZ (hw _ (List.mem_of_getElem? (i := 99) rfl))) (by decide) (by decide) e2 E_o M_A (g := (mkF m 12 #[.val (.ref o1)] [(.ref o1)])) rfl (by rw [hml]; rfl) rfl (hb hby d10_12) (by decide) (W := 0) (by show 2 * 0 + _ ≤ _; exact Nat.le_of_eq rfl) (by decide)
  refine own_by st3 ?_
  show own_Go p e below s _ _ (T3.setTop (mkF m 17 #[.val (.ref o1)] [(.ref mA)]))
  obtain ⟨T4, X4, e4, st4⟩ := own_ldcC X3 hx hZ hown (hw _ (List.mem_of_getElem? (i := 104) rfl)) M_R e3 (g := (mkF m 17 #[.val (.ref o1)] [(.ref mA)])) rfl (hb hby d10_17)
  refine own_by st4 ?_
  show own_Go p e below s _ _ (T4.setTop (mkF m 19 #[.val (.ref o1)] [(.ref mR), (.ref mA)]))
  refine own_by (fun tz kz => Jvm.RoadKit.acmp (g := (mkF m 19 #[.val (.ref o1)] [(.ref mR), (.ref mA)])) X4 hx rfl rfl rfl (pc0 := 19) (pc' := 24) (same := false) rfl (hb hby d10_19) rfl (decide_eq_false fun q => (Mir.ne M_A M_R (by decide)) (Value.ref.inj q)) (by decide) (by decide) kz) ?_
  show own_Go p e below s _ _ (T4.setTop (mkF m 24 #[.val (.ref o1)] []))
  refine own_by (fun tz kz => XS.aloadN X4.here hx rfl (hb hby d10_24) rfl rfl kz) ?_
  show own_Go p e below s _ _ (T4.setTop (mkF m 25 #[.val (.ref o1)] [(.ref o1)]))
  obtain ⟨T5, X5, e5, st5⟩ := instY X4 hx hZ hown (hw _ (List.mem_of_getElem? (i := 106) rfl)) e4 (Ins.of_exa E_o (hw _ (List.mem_of_getElem? (i := 107) rfl))) (g := (mkF m 25 #[.val (.ref o1)] [(.ref o1)])) rfl rfl (hb hby d10_25)
  refine own_by st5 ?_
  show own_Go p e below s _ _ (T5.setTop (mkF m 28 #[.val (.ref o1)] [(.int (1 : Int32))]))
  refine own_by (fun tz kz => XS.ifNo X5.here hx rfl (hb hby d10_28) rfl ((if0 _ _).trans (feq (by decide : ¬ (1 : Int32) = (0 : Int32))).1) kz) ?_
  show own_Go p e below s _ _ (T5.setTop (mkF m 31 #[.val (.ref o1)] []))
  obtain ⟨T6, h6, X6, e6, E6, A6, D6, -, st6⟩ := newO X5 hx hZ hown (hw _ (List.mem_of_getElem? (i := 104) rfl)) (hw _ (List.mem_of_getElem? (i := 108) rfl)) (hw _ (List.mem_of_getElem? (i := 109) rfl)) e5 (g := (mkF m 31 #[.val (.ref o1)] [])) rfl (hb hby d10_31) (by decide) (by decide)
  obtain ⟨b6, g6⟩ : ∃ z, z = h0.size := ⟨_, rfl⟩
  have ne_o1_b6 : o1 ≠ b6 := by rw [g6]; exact Nat.ne_of_lt E_o.lt
  rw [← g6] at A6 D6 st6
  have g_b6 : n0 ≤ b6 := by rw [g6]; exact O0.1 ▸ O0.2.1
  have sz_b6 : h0.size ≤ b6 := by rw [g6]; exact K0.1
  have O6 := O0.ext E6
  have K6 := K0.ext E6
  refine own_by st6 ?_
  have F6_c : Fld Z h6 b6 "java/util/Collections$UnmodifiableCollection" "c" "Ljava/util/Collection;" .null := D6 (Or.inr (hw _ (List.mem_of_getElem? (i := 127) rfl))) (ty := (.object "java/util/Collection")) (by decide)
  have F6_list : Fld Z h6 b6 "java/util/Collections$UnmodifiableList" "list" "Ljava/util/List;" .null := D6 (Or.inr (hw _ (List.mem_of_getElem? (i := 129) rfl))) (ty := (.object "java/util/List")) (by decide)
  show own_Go p e below s _ _ (T6.setTop (mkF m 34 #[.val (.ref o1)] [(.ref b6)]))
  refine own_by (fun tz kz => XS.dup X6.here hx rfl (hb hby d10_34) rfl rfl kz) ?_
  show own_Go p e below s _ _ (T6.setTop (mkF m 35 #[.val (.ref o1)] [(.ref b6), (.ref b6)]))
  refine own_by (fun tz kz => XS.aloadN X6.here hx rfl (hb hby d10_35) rfl rfl kz) ?_
  show own_Go p e below s _ _ (T6.setTop (mkF m 36 #[.val (.ref o1)] [(.ref o1), (.ref b6), (.ref b6)]))
  obtain ⟨_, _, ⟨T7, L7, k7, n7⟩, -, X7, ⟨Lc7, hQ7, l7, y7, z7⟩, st7⟩ := X6.specialBack hx (y := (⟨"java/util/Collections$UnmodifiableRandomAccessList", "<init>", "(Ljava/util/List;)V"⟩ : MethodName)) rfl hown (mvT hZ (hw _ (List.mem_of_getElem? (i := 110) rfl))) (mvT hZ (hw _ (List.mem_of_getElem? (i := 111) rfl))) (mvT hZ (hw _ (List.mem_of_getElem? (i := 112) rfl))) (by decide) (backOf (W := 1) (rm_UR l Z a0 hw [] b6 o1 h6 n0 O6 A6 F6_c F6_list g_b6 ) hZ (hw _ (List.mem_of_getElem? (i := 112) rfl)) (hw _ (List.mem_of_getElem? (i := 109) rfl)) (by decide) (by decide)) (g := (mkF m 36 #[.val (.ref o1)] [(.ref o1), (.ref b6), (.ref b6)])) rfl (by rw [hml]; rfl) (Steps.refl _) (a := b6) (argsL := [(.ref o1)]) (rest := [(.ref b6)]) (lenOf pd_5 rfl) rfl (by show 2 * 0 + _ ≤ _; exact Nat.le_of_eq rfl) (hb hby d10_36) (fun _ _ => ⟨rfl, e6, (by decide : 1 + 0 ≤ _), (by decide : 2 + 0 ≤ _)⟩)
  dsimp only [Pt.U, Pt.locs, Pt.cells, Pt.slots] at X7 l7 y7 z7 st7 hQ7
  rw [l7, y7, z7] at X7
  obtain ⟨rfl, Nq7, Kq7⟩ := hQ7
  have N7 := Fr.app N0 Nq7
  have e7 : T7.heap = T7.heap := rfl
  refine own_via st7 ?_
  have O7 := O6.keep Kq7 (allS g_b6 all0)
  have K7 := K6.trans Kq7 (allS (Or.inr sz_b6) all0)
  show own_Go p e below s _ _ (T7.setTop (mkF m 39 #[.val (.ref o1)] [(.ref b6)]))
  refine own_by (fun tz kz => XS.goto X7.here hx rfl (pc0 := 39) (pc' := 50) rfl (hb hby d10_39) (by decide) (by decide) kz) ?_
  show own_Go p e below s _ _ (T7.setTop (mkF m 50 #[.val (.ref o1)] [(.ref b6)]))
  refine own_retA X7 hx hlk (t := (.object "java/util/List")) hret rfl rfl (hb hby d10_50) ?_ (by decide) (by decide)
  exact ⟨b6, rfl, N7, g_b6, by rw [e7]; exact K7⟩
def Q_rm_VG (Z : State) (a : Addr) (x0 x1 : Int32) (ni nmi nv de mA mL mR : Addr) (h0 : Heap) (n0 : Nat) (v : Option Value) (h : Heap) (L : List Loc) : Prop := v = none ∧ Fr n0 L ∧ Keep h0 h [a] ∧ Fld Z h a "com/example/postweave/postweave/view/View" "parent" "Lcom/example/postweave/postweave/view/ViewGroup;" .null
set_option maxRecDepth 65536 in
set_option maxHeartbeats 40000000 in
theorem rm_VG (l : Launch) (Z : State) (a0 : Array Value) (hw : ∀ d ∈ tables_1, d.before a0 Z = true) (ws : List Jvm.Cond) (a : Addr) (x0 x1 : Int32) (ni nmi nv de mA mL mR : Addr) (h0 : Heap) (n0 : Nat) (O0 : Old Z n0 h0) (E_a : Exa Z h0 a "com/example/postweave/postweave/view/ViewGroup") (F_posts : Fld Z h0 a "com/example/postweave/postweave/view/View" "posts" "Lcom/example/postweave/postweave/view/ViewPosts;" .null) (F_fixedWidth : Fld Z h0 a "com/example/postweave/postweave/view/View" "fixedWidth" "I" (.int (0 : Int32))) (F_fixedHeight : Fld Z h0 a "com/example/postweave/postweave/view/View" "fixedHeight" "I" (.int (0 : Int32))) (F_parent : Fld Z h0 a "com/example/postweave/postweave/view/View" "parent" "Lcom/example/postweave/postweave/view/ViewGroup;" .null) (F_children : Fld Z h0 a "com/example/postweave/postweave/view/ViewGroup" "children" "Ljava/util/List;" .null) (F_readOnlyChildren : Fld Z h0 a "com/example/postweave/postweave/view/ViewGroup" "readOnlyChildren" "Ljava/util/List;" .null) (F_walkedChildren : Fld Z h0 a "com/example/postweave/postweave/view/ViewGroup" "walkedChildren" "[Lcom/example/postweave/postweave/view/View;" .null) (g_a : n0 ≤ a) (S_ni : Sta Z Z.heap "com/example/postweave/postweave/util/TimedList" "NO_ITEMS" "[Ljava/lang/Object;" (.ref ni)) (S_nm : Sta Z Z.heap "com/example/postweave/postweave/util/TimedList" "NO_MILLIS" "[J" (.ref nmi)) (S_nv : Sta Z Z.heap "com/example/postweave/postweave/view/ViewGroup" "NO_VIEWS" "[Lcom/example/postweave/postweave/view/View;" (.ref nv)) (S_de : Sta Z Z.heap "java/util/ArrayList" "DEFAULTCAPACITY_EMPTY_ELEMENTDATA" "[Ljava/lang/Object;" (.ref de)) (M_A : Mir Z "java/util/ArrayList" mA) (M_L : Mir Z "java/util/Collections$UnmodifiableList" mL) (M_R : Mir Z "java/util/Collections$UnmodifiableRandomAccessList" mR) (hx0 : ¬ x0 < (0 : Int32)) (hx1 : ¬ x1 < (0 : Int32)) :
    MetFree l (⟨"com/example/postweave/postweave/view/ViewGroup", "<init>", "(II)V"⟩ : MethodName) (head1 (Jvm.Cond.code (⟨"com/example/postweave/postweave/view/ViewGroup", "<init>", "(II)V"⟩ : MethodName) prog_38_method_1_code 3 none :: ws) ({ frames := 5, cells := 7, slots := 19, locals := 3110 } : Room)) (fun ar U => ar = #[(.ref a), (.int x0), (.int x1)] ∧ Z.Warmed39 U.vm ∧ U.heap = h0) (fun _ _ _ _ _ => True) (fun _ U o U' => ∃ v L, o = .returned v ∧ Q_rm_VG Z a x0 x1 ni nmi nv de mA mL mR h0 n0 v U'.heap L ∧ FrameEnd U o U' L ({ frames := 5, cells := 7, slots := 19, locals := 3110 } : Room).cells ({ frames := 5, cells := 7, slots := 19, locals := 3110 } : Room).slots) := by
  refine own_enter (Q := (Q_rm_VG Z a x0 x1 ni nmi nv de mA mL mR h0 n0)) pl_1 ?_
  intro p e s m below meth c s₁ X0 hx hZ hby hml hown hnm hret hlk e0 hnamed
  have N0 := Fr.nil n0
  refine own_by (fun tz kz => castTop (g' := (mkF m 0 #[.val (.ref a), .val (.int x0), .val (.int x1)] [])) (by first | (simp [entryFrame, mkF, argsToLocals, Value.category]; done) | rfl) kz) ?_
  have K0 := Keep.refl h0 [a]
  show own_Go p e below s _ _ (s₁.setTop (mkF m 0 #[.val (.ref a), .val (.int x0), .val (.int x1)] []))
  refine own_by (fun tz kz => XS.aloadN X0.here hx rfl (hb hby d1_0) rfl rfl kz) ?_
  show own_Go p e below s _ _ (s₁.setTop (mkF m 1 #[.val (.ref a), .val (.int x0), .val (.int x1)] [(.ref a)]))
  refine own_by (fun tz kz => XS.iloadN X0.here hx rfl (hb hby d1_1) rfl  kz) ?_
  show own_Go p e below s _ _ (s₁.setTop (mkF m 2 #[.val (.ref a), .val (.int x0), .val (.int x1)] [(.int x0), (.ref a)]))
  refine own_by (fun tz kz => XS.iloadN X0.here hx rfl (hb hby d1_2) rfl  kz) ?_
  show own_Go p e below s _ _ (s₁.setTop (mkF m 3 #[.val (.ref a), .val (.int x0), .val (.int x1)] [(.int x1), (.int x0), (.ref a)]))
  obtain ⟨_, _, ⟨T1, L1, k1, n1⟩, -, X1, ⟨Lc1, hQ1, l1, y1, z1⟩, st1⟩ := X0.specialBack hx (y := (⟨"com/example/postweave/postweave/view/View", "<init>", "(II)V"⟩ : MethodName)) rfl hown (mvT hZ (hw _ (List.mem_of_getElem? (i := 6) rfl))) (mvT hZ (hw _ (List.mem_of_getElem? (i := 7) rfl))) (mvT hZ (hw _ (List.mem_of_getElem? (i := 10) rfl))) (by decide) (backOf (W := 0) (rm_VG0 l Z a0 hw [] a x0 x1 ni nmi h0 n0 O0 E_a F_posts F_fixedWidth F_fixedHeight F_parent F_children F_readOnlyChildren F_walkedChildren g_a S_ni S_nm hx0 hx1) hZ (hw _ (List.mem_of_getElem? (i := 10) rfl)) (hw _ (List.mem_of_getElem? (i := 9) rfl)) (by decide) (by decide)) (g := (mkF m 3 #[.val (.ref a), .val (.int x0), .val (.int x1)] [(.int x1), (.int x0), (.ref a)])) rfl (by rw [hml]; rfl) (Steps.refl _) (a := a) (argsL := [(.int x0), (.int x1)]) (rest := []) (lenOf pd_0 rfl) rfl (by show 2 * 0 + _ ≤ _; exact Nat.le_of_eq rfl) (hb hby d1_3) (fun _ _ => ⟨rfl, e0, (by decide : 0 + 5 ≤ _), (by decide : 0 + 14 ≤ _)⟩)
  dsimp only [Pt.U, Pt.locs, Pt.cells, Pt.slots] at X1 l1 y1 z1 st1 hQ1
  rw [l1, y1, z1] at X1
  obtain ⟨rfl, Nq1, Kq1, Fq0_1, Fq1_1, Fq2_1, Fq3_1⟩ := hQ1
  have N1 := Fr.app N0 Nq1
  have e1 : T1.heap = T1.heap := rfl
  refine own_via st1 ?_
  have O1 := O0.keep Kq1 (allS g_a all0)
  have K1 := K0.trans Kq1 (allS (Or.inl (List.mem_of_getElem? (i := 0) rfl)) all0)
  show own_Go p e below s _ _ (T1.setTop (mkF m 6 #[.val (.ref a), .val (.int x0), .val (.int x1)] []))
  refine own_by (fun tz kz => XS.aloadN X1.here hx rfl (hb hby d1_6) rfl rfl kz) ?_
  show own_Go p e below s _ _ (T1.setTop (mkF m 7 #[.val (.ref a), .val (.int x0), .val (.int x1)] [(.ref a)]))
  obtain ⟨T2, h2, X2, e2, E2, A2, D2, -, st2⟩ := newO X1 hx hZ hown (hw _ (List.mem_of_getElem? (i := 61) rfl)) (hw _ (List.mem_of_getElem? (i := 62) rfl)) (hw _ (List.mem_of_getElem? (i := 63) rfl)) e1 (g := (mkF m 7 #[.val (.ref a), .val (.int x0), .val (.int x1)] [(.ref a)])) rfl (hb hby d1_7) (by decide) (by decide)
  obtain ⟨b2, g2⟩ : ∃ z, z = T1.heap.size := ⟨_, rfl⟩
  have f3 := (E_a.keep Kq1)
  have ne_a_b2 : a ≠ b2 := by rw [g2]; exact Nat.ne_of_lt f3.lt
  rw [← g2] at A2 D2 st2
  have g_b2 : n0 ≤ b2 := by rw [g2]; exact O1.1 ▸ O1.2.1
  have sz_b2 : h0.size ≤ b2 := by rw [g2]; exact K1.1
  have O2 := O1.ext E2
  have K2 := K1.ext E2
  refine own_by st2 ?_
  have F2_modCount : Fld Z h2 b2 "java/util/AbstractList" "modCount" "I" (.int (0 : Int32)) := D2 (Or.inl (hw _ (List.mem_of_getElem? (i := 81) rfl))) (ty := .int) (by decide)
  have F2_elementData : Fld Z h2 b2 "java/util/ArrayList" "elementData" "[Ljava/lang/Object;" .null := D2 (Or.inl (hw _ (List.mem_of_getElem? (i := 84) rfl))) (ty := (.array (.object "java/lang/Object"))) (by decide)
  show own_Go p e below s _ _ (T2.setTop (mkF m 10 #[.val (.ref a), .val (.int x0), .val (.int x1)] [(.ref b2), (.ref a)]))
  refine own_by (fun tz kz => XS.dup X2.here hx rfl (hb hby d1_10) rfl rfl kz) ?_
  show own_Go p e below s _ _ (T2.setTop (mkF m 11 #[.val (.ref a), .val (.int x0), .val (.int x1)] [(.ref b2), (.ref b2), (.ref a)]))
  obtain ⟨_, _, ⟨T4, L4, k4, n4⟩, -, X4, ⟨Lc4, hQ4, l4, y4, z4⟩, st4⟩ := X2.specialBack hx (y := (⟨"java/util/ArrayList", "<init>", "()V"⟩ : MethodName)) rfl hown (mvT hZ (hw _ (List.mem_of_getElem? (i := 64) rfl))) (mvT hZ (hw _ (List.mem_of_getElem? (i := 65) rfl))) (mvT hZ (hw _ (List.mem_of_getElem? (i := 66) rfl))) (by decide) (backOf (W := 2) (rm_AL l Z a0 hw [] b2 de h2 n0 O2 A2 F2_modCount F2_elementData g_b2 S_de) hZ (hw _ (List.mem_of_getElem? (i := 66) rfl)) (hw _ (List.mem_of_getElem? (i := 63) rfl)) (by decide) (by decide)) (g := (mkF m 11 #[.val (.ref a), .val (.int x0), .val (.int x1)] [(.ref b2), (.ref b2), (.ref a)])) rfl (by rw [hml]; rfl) (Steps.refl _) (a := b2) (argsL := []) (rest := [(.ref b2), (.ref a)]) (lenOf pd_1 rfl) rfl (by show 2 * 0 + _ ≤ _; exact Nat.le_of_eq rfl) (hb hby d1_11) (fun _ _ => ⟨rfl, e2, (by decide : ((0 + 5) + 1) + 0 ≤ _), (by decide : ((0 + 14) + 3) + 0 ≤ _)⟩)
  dsimp only [Pt.U, Pt.locs, Pt.cells, Pt.slots] at X4 l4 y4 z4 st4 hQ4
  rw [l4, y4, z4] at X4
  obtain ⟨rfl, Nq4, Kq4⟩ := hQ4
  have N4 := Fr.app N1 Nq4
  have e4 : T4.heap = T4.heap := rfl
  refine own_via st4 ?_
  have O4 := O2.keep Kq4 (allS g_b2 all0)
  have K4 := K2.trans Kq4 (allS (Or.inr sz_b2) all0)
  show own_Go p e below s _ _ (T4.setTop (mkF m 14 #[.val (.ref a), .val (.int x0), .val (.int x1)] [(.ref b2), (.ref a)]))
  have f5 := ((Fq1_1.ext E2).keep Kq4 (ninS ne_a_b2 nin0))
  have f6 := ((f3.ext E2).keep Kq4)
  obtain ⟨T7, h7, X7, e7, W7, st7⟩ := putF X4 hx hZ hown (host := "") (Or.inl (hw _ (List.mem_of_getElem? (i := 85) rfl))) Via.refl e4 f5 f6 (Or.inr ⟨(hw _ (List.mem_of_getElem? (i := 86) rfl)), rfl, hnm⟩) (hw _ (List.mem_of_getElem? (i := 1) rfl)) (ty := (.object "java/util/List")) (by decide) rfl rfl (g := (mkF m 14 #[.val (.ref a), .val (.int x0), .val (.int x1)] [(.ref b2), (.ref a)])) rfl rfl (hb hby d1_14)
  have Fw7 := f5.same W7
  have O7 := O4.wr W7 g_a
  have N7 := Fr.snoc X7 N4 g_a
  have K7 := K4.wr W7 (Or.inl (List.mem_of_getElem? (i := 0) rfl))
  refine own_by st7 ?_
  show own_Go p e below s _ _ (T7.setTop (mkF m 17 #[.val (.ref a), .val (.int x0), .val (.int x1)] []))
  refine own_by (fun tz kz => XS.aloadN X7.here hx rfl (hb hby d1_17) rfl rfl kz) ?_
  show own_Go p e below s _ _ (T7.setTop (mkF m 18 #[.val (.ref a), .val (.int x0), .val (.int x1)] [(.ref a)]))
  refine own_by (fun tz kz => XS.aloadN X7.here hx rfl (hb hby d1_18) rfl rfl kz) ?_
  show own_Go p e below s _ _ (T7.setTop (mkF m 19 #[.val (.ref a), .val (.int x0), .val (.int x1)] [(.ref a), (.ref a)]))
  obtain ⟨T8, X8, e8, st8⟩ := getF X7 hx hZ hown (host := "") (Or.inl (hw _ (List.mem_of_getElem? (i := 85) rfl))) Via.refl e7 Fw7 (g := (mkF m 19 #[.val (.ref a), .val (.int x0), .val (.int x1)] [(.ref a), (.ref a)])) rfl rfl (hb hby d1_19)
  refine own_by st8 ?_
  show own_Go p e below s _ _ (T8.setTop (mkF m 22 #[.val (.ref a), .val (.int x0), .val (.int x1)] [(.ref b2), (.ref a)]))
  have f9 := ((A2.keep Kq4).wr W7)
  obtain ⟨_, _, ⟨T10, L10, k10, n10⟩, -, X10, ⟨Lc10, hQ10, l10, y10, z10⟩, st10⟩ := Jvm.LawKit.callS X8 hx (y := (⟨"java/util/Collections", "unmodifiableList", "(Ljava/util/List;)Ljava/util/List;"⟩ : MethodName)) hown (mvT hZ (hw _ (List.mem_of_getElem? (i := 87) rfl))) (mvT hZ (hw _ (List.mem_of_getElem? (i := 88) rfl))) (mvT hZ (hw _ (List.mem_of_getElem? (i := 89) rfl))) (mvT hZ (hw _ (List.mem_of_getElem? (i := 90) rfl))) (by decide) (backOf (W := 1) (rm_unm l Z a0 hw [] b2 mA mL mR h7 n0 O7 f9 M_A M_L M_R) hZ (hw _ (List.mem_of_getElem? (i := 90) rfl)) (hw _ (List.mem_of_getElem? (i := 89) rfl)) (by decide) (by decide)) (g := (mkF m 22 #[.val (.ref a), .val (.int x0), .val (.int x1)] [(.ref b2), (.ref a)])) rfl (by rw [hml]; rfl) (argsL := [(.ref b2)]) (rest := [(.ref a)]) (lenOf pd_3 rfl) rfl (by show 2 * 0 + _ ≤ _; exact Nat.le_of_eq rfl) (hb hby d1_22) (fun _ _ => ⟨rfl, e8, (by decide : ((0 + 5) + 1) + 1 ≤ _), (by decide : ((0 + 14) + 3) + 2 ≤ _)⟩)
  dsimp only [Pt.U, Pt.locs, Pt.cells, Pt.slots] at X10 l10 y10 z10 st10 hQ10
  rw [l10, y10, z10] at X10
  obtain ⟨u10, rfl, Nq10, gu10, Kq10⟩ := hQ10
  have N10 := Fr.app N7 Nq10
  have e10 : T10.heap = T10.heap := rfl
  refine own_by st10 ?_
  have O10 := O7.keep Kq10 all0
  have K10 := K7.trans Kq10 all0
  show own_Go p e below s _ _ (T10.setTop (mkF m 25 #[.val (.ref a), .val (.int x0), .val (.int x1)] [(.ref u10), (.ref a)]))
  have f11 := ((((Fq2_1.ext E2).keep Kq4 (ninS ne_a_b2 nin0)).other W7 (Or.inr (slot_ne (Or.inr (hw _ (List.mem_of_getElem? (i := 131) rfl))) (Or.inr (hw _ (List.mem_of_getElem? (i := 86) rfl))) (by decide) (t := (.object "java/util/List")) (t' := (.object "java/util/List")) (by decide) (by decide)))).keep Kq10 nin0)
  have f12 := ((f6.wr W7).keep Kq10)
  obtain ⟨T13, h13, X13, e13, W13, st13⟩ := putF X10 hx hZ hown (host := "") (Or.inl (hw _ (List.mem_of_getElem? (i := 130) rfl))) Via.refl e10 f11 f12 (Or.inr ⟨(hw _ (List.mem_of_getElem? (i := 131) rfl)), rfl, hnm⟩) (hw _ (List.mem_of_getElem? (i := 1) rfl)) (ty := (.object "java/util/List")) (by decide) rfl rfl (g := (mkF m 25 #[.val (.ref a), .val (.int x0), .val (.int x1)] [(.ref u10), (.ref a)])) rfl rfl (hb hby d1_25)
  have Fw13 := f11.same W13
  have O13 := O10.wr W13 g_a
  have N13 := Fr.snoc X13 N10 g_a
  have K13 := K10.wr W13 (Or.inl (List.mem_of_getElem? (i := 0) rfl))
  refine own_by st13 ?_
  show own_Go p e below s _ _ (T13.setTop (mkF m 28 #[.val (.ref a), .val (.int x0), .val (.int x1)] []))
  refine own_by (fun tz kz => XS.aloadN X13.here hx rfl (hb hby d1_28) rfl rfl kz) ?_
  show own_Go p e below s _ _ (T13.setTop (mkF m 29 #[.val (.ref a), .val (.int x0), .val (.int x1)] [(.ref a)]))
  obtain ⟨T14, X14, e14, st14⟩ := getS2 X13 hx hZ hown (host := "") (Or.inl (hw _ (List.mem_of_getElem? (i := 132) rfl))) Via.refl e13 (S_nv.ext O13.2) (g := (mkF m 29 #[.val (.ref a), .val (.int x0), .val (.int x1)] [(.ref a)])) rfl (hb hby d1_29)
  refine own_by st14 ?_
  show own_Go p e below s _ _ (T14.setTop (mkF m 32 #[.val (.ref a), .val (.int x0), .val (.int x1)] [(.ref nv), (.ref a)]))
  have f15 := (((((Fq3_1.ext E2).keep Kq4 (ninS ne_a_b2 nin0)).other W7 (Or.inr (slot_ne (Or.inl (hw _ (List.mem_of_getElem? (i := 135) rfl))) (Or.inr (hw _ (List.mem_of_getElem? (i := 86) rfl))) (by decide) (t := (.array (.object "com/example/postweave/postweave/view/View"))) (t' := (.object "java/util/List")) (by decide) (by decide)))).keep Kq10 nin0).other W13 (Or.inr (slot_ne (Or.inl (hw _ (List.mem_of_getElem? (i := 135) rfl))) (Or.inr (hw _ (List.mem_of_getElem? (i := 131) rfl))) (by decide) (t := (.array (.object "com/example/postweave/postweave/view/View"))) (t' := (.object "java/util/List")) (by decide) (by decide))))
  have f16 := (f12.wr W13)
  obtain ⟨T17, h17, X17, e17, W17, st17⟩ := putF X14 hx hZ hown (host := "") (Or.inl (hw _ (List.mem_of_getElem? (i := 134) rfl))) Via.refl e14 f15 f16 (Or.inl (hw _ (List.mem_of_getElem? (i := 135) rfl))) (hw _ (List.mem_of_getElem? (i := 1) rfl)) (ty := (.array (.object "com/example/postweave/postweave/view/View"))) (by decide) rfl rfl (g := (mkF m 32 #[.val (.ref a), .val (.int x0), .val (.int x1)] [(.ref nv), (.ref a)])) rfl rfl (hb hby d1_32)
  have Fw17 := f15.same W17
  have O17 := O13.wr W17 g_a
  have N17 := Fr.snoc X17 N13 g_a
  have K17 := K13.wr W17 (Or.inl (List.mem_of_getElem? (i := 0) rfl))
  refine own_by st17 ?_
  show own_Go p e below s _ _ (T17.setTop (mkF m 35 #[.val (.ref a), .val (.int x0), .val (.int x1)] []))
  have f18 := ((((((Fq0_1.ext E2).keep Kq4 (ninS ne_a_b2 nin0)).other W7 (Or.inr (slot_ne (Or.inl (hw _ (List.mem_of_getElem? (i := 148) rfl))) (Or.inr (hw _ (List.mem_of_getElem? (i := 86) rfl))) (by decide) (t := (.object "com/example/postweave/postweave/view/ViewGroup")) (t' := (.object "java/util/List")) (by decide) (by decide)))).keep Kq10 nin0).other W13 (Or.inr (slot_ne (Or.inl (hw _ (List.mem_of_getElem? (i := 148) rfl))) (Or.inr (hw _ (List.mem_of_getElem? (i := 131) rfl))) (by decide) (t := (.object "com/example/postweave/postweave/view/ViewGroup")) (t' := (.object "java/util/List")) (by decide) (by decide)))).other W17 (Or.inr (slot_ne (Or.inl (hw _ (List.mem_of_getElem? (i := 148) rfl))) (Or.inl (hw _ (List.mem_of_getElem? (i := 135) rfl))) (by decide) (t := (.object "com/example/postweave/postweave/view/ViewGroup")) (t' := (.array (.object "com/example/postweave/postweave/view/View"))) (by decide) (by decide))))
  refine own_retV X17 hx hlk hret (hb hby d1_35) ?_ (by decide) (by decide)
  exact ⟨rfl, N17, by rw [e17]; exact K17, by rw [e17]; exact f18⟩
/-- v is the first of a chain of views, each the parent of the one ahead of it -/
def own_Ch (Z : State) (h : Heap) : Value → List Addr → Prop
  | v, [] => v = .null
  | v, x :: t => v = .ref x ∧ ∃ w, Fld Z h x "com/example/postweave/postweave/view/View" "parent" "Lcom/example/postweave/postweave/view/ViewGroup;" w ∧ own_Ch Z h w t
theorem own_Ch.isRef {Z : State} {h : Heap} {v : Value} : ∀ {t : List Addr}, own_Ch Z h v t → v.isRef = true
  | [], q => by cases q; rfl
  | _ :: _, q => by obtain ⟨rfl, -⟩ := q; rfl
def Q_rm_holds (Z : State) (a : Addr) (arg : Value) (t : List Addr) (r : Int32) (h0 : Heap) (n0 : Nat) (v : Option Value) (h : Heap) (L : List Loc) : Prop := v = some (.int r) ∧ Fr n0 L ∧ h = h0
set_option maxRecDepth 65536 in
set_option maxHeartbeats 40000000 in
theorem rm_holds (l : Launch) (Z : State) (a0 : Array Value) (hw : ∀ d ∈ tables_1, d.before a0 Z = true) (ws : List Jvm.Cond) (a : Addr) (arg : Value) (t : List Addr) (r : Int32) (h0 : Heap) (n0 : Nat) (ha : arg.isRef = true) (hch : own_Ch Z h0 arg t) (hr : r = if a ∈ t then (1 : Int32) else (0 : Int32)) :
    MetFree l (⟨"com/example/postweave/postweave/view/View", "holds", "(Lcom/example/postweave/postweave/view/View;)Z"⟩ : MethodName) (head1 (Jvm.Cond.code (⟨"com/example/postweave/postweave/view/View", "holds", "(Lcom/example/postweave/postweave/view/View;)Z"⟩ : MethodName) prog_37_method_20_code 3 (some .boolean) :: ws) ({ frames := 0, cells := 0, slots := 0, locals := 0 } : Room)) (fun ar U => ar = #[(.ref a), arg] ∧ Z.Warmed39 U.vm ∧ U.heap = h0) (fun _ _ _ _ _ => True) (fun _ U o U' => ∃ v L, o = .returned v ∧ Q_rm_holds Z a arg t r h0 n0 v U'.heap L ∧ FrameEnd U o U' L ({ frames := 0, cells := 0, slots := 0, locals := 0 } : Room).cells ({ frames := 0, cells := 0, slots := 0, locals := 0 } : Room).slots) := by
  refine own_enter (Q := (Q_rm_holds Z a arg t r h0 n0)) pl_14 ?_
  intro p e s m below meth c s₁ X0 hx hZ hby hml hown hnm hret hlk e0 hnamed
  have N0 := Fr.nil n0
  refine own_by (fun tz kz => castTop (g' := (mkF m 0 #[.val (.ref a), .val arg, .unset] [])) (by first | (simp [entryFrame, mkF, argsToLocals, Value.category]; done) | (rcases ref_cases ha with rfl | ⟨_, rfl⟩ <;> (simp [entryFrame, mkF, argsToLocals, Value.category]; done)) | rfl) kz) ?_
  have J : ∀ (t : List Addr) (u : Value) (T : State) (L : List Loc), own_Ch Z h0 u t → r = (if a ∈ t then (1 : Int32) else (0 : Int32)) → Stand p l e ({ frames := 0, cells := 0, slots := 0, locals := 0 } : Room) s m #[.ref a, arg] below meth c T L 0 0 → T.heap = h0 → Fr n0 L → own_Go p e below s (Q_rm_holds Z a arg t r h0 n0) ({ frames := 0, cells := 0, slots := 0, locals := 0 } : Room) (T.setTop (mkF m 2 #[.val (.ref a), .val arg, .val u] [])) := by
    intro t
    induction t with
    | nil =>
      intro u T L hc hr X e0 N
      obtain rfl : u = .null := hc
      show own_Go p e below s _ _ (T.setTop (mkF m 2 #[.val (.ref a), .val arg, .val .null] []))
      refine own_by (fun tz kz => XS.aloadN X.here hx rfl (hb hby d14_2) rfl rfl kz) ?_
      show own_Go p e below s _ _ (T.setTop (mkF m 3 #[.val (.ref a), .val arg, .val .null] [.null]))
      refine own_by (fun tz kz => XS.ifnullYes X.here hx rfl (pc0 := 3) (pc' := 19) rfl (hb hby d14_3) rfl (by decide) (by decide) kz) ?_
      show own_Go p e below s _ _ (T.setTop (mkF m 19 #[.val (.ref a), .val arg, .val .null] []))
      refine own_by (fun tz kz => XS.aloadN X.here hx rfl (hb hby d14_19) rfl rfl kz) ?_
      show own_Go p e below s _ _ (T.setTop (mkF m 20 #[.val (.ref a), .val arg, .val .null] [.null]))
      refine own_by (fun tz kz => XS.aloadN X.here hx rfl (hb hby d14_20) rfl rfl kz) ?_
      show own_Go p e below s _ _ (T.setTop (mkF m 21 #[.val (.ref a), .val arg, .val .null] [(.ref a), .null]))
      refine own_by (fun tz kz => Jvm.RoadKit.acmp (g := (mkF m 21 #[.val (.ref a), .val arg, .val .null] [(.ref a), .null])) X hx rfl rfl rfl (pc0 := 21) (pc' := 28) (same := false) rfl (hb hby d14_21) rfl (decide_eq_false nofun) (by decide) (by decide) kz) ?_
      show own_Go p e below s _ _ (T.setTop (mkF m 28 #[.val (.ref a), .val arg, .val .null] []))
      refine own_by (fun tz kz => XS.iconst X.here hx rfl (hb hby d14_28) kz) ?_
      show own_Go p e below s _ _ (T.setTop (mkF m 29 #[.val (.ref a), .val arg, .val .null] [(.int (0 : Int32))]))
      refine own_retI X hx hlk (t := .boolean) hret (by simp) rfl (hb hby d14_29) ?_ (by decide) (by decide)
      exact ⟨by simp [hr], N, e0⟩
    | cons x t ih =>
      intro u T L hc hr X e0 N
      obtain ⟨rfl, u', F, hc'⟩ := hc
      have hu' := own_Ch.isRef hc'
      show own_Go p e below s _ _ (T.setTop (mkF m 2 #[.val (.ref a), .val arg, .val (.ref x)] []))
      refine own_by (fun tz kz => XS.aloadN X.here hx rfl (hb hby d14_2) rfl rfl kz) ?_
      show own_Go p e below s _ _ (T.setTop (mkF m 3 #[.val (.ref a), .val arg, .val (.ref x)] [(.ref x)]))
      refine own_by (fun tz kz => XS.ifnullNo X.here hx rfl (hb hby d14_3) rfl kz) ?_
      show own_Go p e below s _ _ (T.setTop (mkF m 6 #[.val (.ref a), .val arg, .val (.ref x)] []))
      refine own_by (fun tz kz => XS.aloadN X.here hx rfl (hb hby d14_6) rfl rfl kz) ?_
      show own_Go p e below s _ _ (T.setTop (mkF m 7 #[.val (.ref a), .val arg, .val (.ref x)] [(.ref x)]))
      refine own_by (fun tz kz => XS.aloadN X.here hx rfl (hb hby d14_7) rfl rfl kz) ?_
      show own_Go p e below s _ _ (T.setTop (mkF m 8 #[.val (.ref a), .val arg, .val (.ref x)] [(.ref a), (.ref x)]))
      by_cases hc8_1 : x = a
      · refine own_by (fun tz kz => Jvm.RoadKit.acmp (g := (mkF m 8 #[.val (.ref a), .val arg, .val (.ref x)] [(.ref a), (.ref x)])) X hx rfl rfl rfl (pc0 := 8) (pc' := 19) (same := true) rfl (hb hby d14_8) rfl (decide_eq_true (congrArg Value.ref hc8_1)) (by decide) (by decide) kz) ?_
        show own_Go p e below s _ _ (T.setTop (mkF m 19 #[.val (.ref a), .val arg, .val (.ref x)] []))
        refine own_by (fun tz kz => XS.aloadN X.here hx rfl (hb hby d14_19) rfl rfl kz) ?_
        show own_Go p e below s _ _ (T.setTop (mkF m 20 #[.val (.ref a), .val arg, .val (.ref x)] [(.ref x)]))
        refine own_by (fun tz kz => XS.aloadN X.here hx rfl (hb hby d14_20) rfl rfl kz) ?_
        show own_Go p e below s _ _ (T.setTop (mkF m 21 #[.val (.ref a), .val arg, .val (.ref x)] [(.ref a), (.ref x)]))
        refine own_by (fun tz kz => Jvm.RoadKit.acmp (g := (mkF m 21 #[.val (.ref a), .val arg, .val (.ref x)] [(.ref a), (.ref x)])) X hx rfl rfl rfl (pc0 := 21) (pc' := 24) (same := true) rfl (hb hby d14_21) rfl (decide_eq_true (congrArg Value.ref hc8_1)) (by decide) (by decide) kz) ?_
        show own_Go p e below s _ _ (T.setTop (mkF m 24 #[.val (.ref a), .val arg, .val (.ref x)] []))
        refine own_by (fun tz kz => XS.iconst X.here hx rfl (hb hby d14_24) kz) ?_
        show own_Go p e below s _ _ (T.setTop (mkF m 25 #[.val (.ref a), .val arg, .val (.ref x)] [(.int (1 : Int32))]))
        refine own_by (fun tz kz => XS.goto X.here hx rfl (pc0 := 25) (pc' := 29) rfl (hb hby d14_25) (by decide) (by decide) kz) ?_
        show own_Go p e below s _ _ (T.setTop (mkF m 29 #[.val (.ref a), .val arg, .val (.ref x)] [(.int (1 : Int32))]))
        refine own_retI X hx hlk (t := .boolean) hret (by simp) rfl (hb hby d14_29) ?_ (by decide) (by decide)
        exact ⟨by simp [hr, hc8_1], N, e0⟩
      · refine own_by (fun tz kz => Jvm.RoadKit.acmp (g := (mkF m 8 #[.val (.ref a), .val arg, .val (.ref x)] [(.ref a), (.ref x)])) X hx rfl rfl rfl (pc0 := 8) (pc' := 11) (same := false) rfl (hb hby d14_8) rfl (decide_eq_false fun q => hc8_1 (Value.ref.inj q)) (by decide) (by decide) kz) ?_
        show own_Go p e below s _ _ (T.setTop (mkF m 11 #[.val (.ref a), .val arg, .val (.ref x)] []))
        refine own_by (fun tz kz => XS.aloadN X.here hx rfl (hb hby d14_11) rfl rfl kz) ?_
        show own_Go p e below s _ _ (T.setTop (mkF m 12 #[.val (.ref a), .val arg, .val (.ref x)] [(.ref x)]))
        obtain ⟨T2, X2, e2, st2⟩ := getF X hx hZ hown (host := "") (Or.inl (hw _ (List.mem_of_getElem? (i := 156) rfl))) Via.refl e0 F (g := (mkF m 12 #[.val (.ref a), .val arg, .val (.ref x)] [(.ref x)])) rfl rfl (hb hby d14_12)
        refine own_by st2 ?_
        show own_Go p e below s _ _ (T2.setTop (mkF m 15 #[.val (.ref a), .val arg, .val (.ref x)] [u']))
        refine own_by (fun tz kz => XS.astoreN X2.here hx rfl (hb hby d14_15) rfl hu' (l' := #[.val (.ref a), .val arg, .val u']) (XS.store1 rfl (Or.inr ⟨_, rfl, rfl⟩) (own_cat hu')) kz) ?_
        show own_Go p e below s _ _ (T2.setTop (mkF m 16 #[.val (.ref a), .val arg, .val u'] []))
        refine own_by (fun tz kz => XS.goto X2.here hx rfl (pc0 := 16) (pc' := 2) rfl (hb hby d14_16) (by decide) (by decide) kz) ?_
        exact ih _ _ _ hc' (by rw [hr]; simp [Ne.symm hc8_1]) X2 e2 N
  show own_Go p e below s _ _ (s₁.setTop (mkF m 0 #[.val (.ref a), .val arg, .unset] []))
  refine own_by (fun tz kz => XS.aloadN X0.here hx rfl (hb hby d14_0) rfl ha kz) ?_
  show own_Go p e below s _ _ (s₁.setTop (mkF m 1 #[.val (.ref a), .val arg, .unset] [arg]))
  refine own_by (fun tz kz => XS.astoreN X0.here hx rfl (hb hby d14_1) rfl ha (l' := #[.val (.ref a), .val arg, .val arg]) (XS.store1 rfl (Or.inl rfl) (own_cat ha)) kz) ?_
  exact J _ _ _ _ hch hr X0 e0 N0
def own_pv (P1 P2 P3 j : Int32) : Int32 := if j = (0 : Int32) then (-1 : Int32) else if j = (1 : Int32) then P1 else if j = (2 : Int32) then P2 else P3
def own_x2 (P1 P2 P3 x1 : Int32) : Int32 := if x1 < (0 : Int32) then (-1 : Int32) else own_pv P1 P2 P3 x1
def own_anc (P1 P2 P3 a b : Int32) : Int32 := if b = (4 : Int32) then (0 : Int32) else if b = a ∨ own_pv P1 P2 P3 b = a ∨ own_x2 P1 P2 P3 (own_pv P1 P2 P3 b) = a ∨ own_x2 P1 P2 P3 (own_x2 P1 P2 P3 (own_pv P1 P2 P3 b)) = a then (1 : Int32) else (0 : Int32)
theorem own_pat (P1 P2 P3 j : Int32) (h : ¬ j < 0 ∧ j < (4 : Int32)) : ([.int (-1 : Int32), .int P1, .int P2, .int P3] : List Value).getD j.toNatClampNeg (.int (0 : Int32)) = .int (own_pv P1 P2 P3 j) := by
  have q : 0 ≤ j.toInt ∧ j.toInt < (4 : Int32).toInt := by
    have e : (0 : Int32).toInt = 0 := by decide
    have h1 := h.1
    rw [Int32.lt_iff_toInt_lt] at h1
    exact ⟨by omega, Int32.lt_iff_toInt_lt.mp h.2⟩
  rcases own_cases4 j q with rfl | rfl | rfl | rfl
  · rw [(by decide : (0 : Int32).toNatClampNeg = 0)]; rfl
  · rw [(by decide : (1 : Int32).toNatClampNeg = 1)]; rfl
  · rw [(by decide : (2 : Int32).toNatClampNeg = 2)]; rfl
  · rw [(by decide : (3 : Int32).toNatClampNeg = 3)]; rfl
theorem own_pv_lt {P1 P2 P3 : Int32} (h1 : P1 < (4 : Int32)) (h2 : P2 < (4 : Int32)) (h3 : P3 < (4 : Int32)) (j : Int32) : own_pv P1 P2 P3 j < (4 : Int32) := by
  unfold own_pv
  by_cases a : j = (0 : Int32)
  · rw [if_pos a]; decide
  rw [if_neg a]
  by_cases b : j = (1 : Int32)
  · rw [if_pos b]; exact h1
  rw [if_neg b]
  by_cases c : j = (2 : Int32)
  · rw [if_pos c]; exact h2
  rw [if_neg c]; exact h3
def Q_rm_anc (Z : State) (pa : Addr) (k : ClassId) (P1 P2 P3 a b r : Int32) (h0 : Heap) (n0 : Nat) (v : Option Value) (h : Heap) (L : List Loc) : Prop := v = some (.int r) ∧ Fr n0 L ∧ h = h0
set_option maxRecDepth 65536 in
set_option maxHeartbeats 40000000 in
theorem rm_anc (l : Launch) (Z : State) (a0 : Array Value) (hw : ∀ d ∈ tables_1, d.before a0 Z = true) (ws : List Jvm.Cond) (pa : Addr) (k : ClassId) (P1 P2 P3 a b r : Int32) (h0 : Heap) (n0 : Nat) (V_p : Arv Z h0 pa k .int (4 : Int32) [.int (-1 : Int32), .int P1, .int P2, .int P3] (.int (0 : Int32))) (h1 : P1 < (4 : Int32)) (h2 : P2 < (4 : Int32)) (h3 : P3 < (4 : Int32)) (hb4 : ¬ b = (4 : Int32) → ¬ b < 0 ∧ b < (4 : Int32)) (hr : r = own_anc P1 P2 P3 a b) :
    MetFree l (⟨"com/example/postweave/postweave/view/ViewHoldsPinLaw", "ancestorOrSelf", "([III)Z"⟩ : MethodName) (head1 (Jvm.Cond.code (⟨"com/example/postweave/postweave/view/ViewHoldsPinLaw", "ancestorOrSelf", "([III)Z"⟩ : MethodName) method_3_code 7 (some .boolean) :: ws) ({ frames := 0, cells := 0, slots := 0, locals := 0 } : Room)) (fun ar U => ar = #[(.ref pa), (.int a), (.int b)] ∧ Z.Warmed39 U.vm ∧ U.heap = h0) (fun _ _ _ _ _ => True) (fun _ U o U' => ∃ v L, o = .returned v ∧ Q_rm_anc Z pa k P1 P2 P3 a b r h0 n0 v U'.heap L ∧ FrameEnd U o U' L ({ frames := 0, cells := 0, slots := 0, locals := 0 } : Room).cells ({ frames := 0, cells := 0, slots := 0, locals := 0 } : Room).slots) := by
  refine own_enter (Q := (Q_rm_anc Z pa k P1 P2 P3 a b r h0 n0)) pl_15 ?_
  intro p e s m below meth c s₁ X0 hx hZ hby hml hown hnm hret hlk e0 hnamed
  have N0 := Fr.nil n0
  refine own_by (fun tz kz => castTop (g' := (mkF m 0 #[.val (.ref pa), .val (.int a), .val (.int b), .unset, .unset, .unset, .unset] [])) (by first | (simp [entryFrame, mkF, argsToLocals, Value.category]; done) | rfl) kz) ?_
  show own_Go p e below s _ _ (s₁.setTop (mkF m 0 #[.val (.ref pa), .val (.int a), .val (.int b), .unset, .unset, .unset, .unset] []))
  refine own_by (fun tz kz => XS.iloadN X0.here hx rfl (hb hby d15_0) rfl  kz) ?_
  show own_Go p e below s _ _ (s₁.setTop (mkF m 1 #[.val (.ref pa), .val (.int a), .val (.int b), .unset, .unset, .unset, .unset] [(.int b)]))
  refine own_by (fun tz kz => XS.iconst X0.here hx rfl (hb hby d15_1) kz) ?_
  show own_Go p e below s _ _ (s₁.setTop (mkF m 2 #[.val (.ref pa), .val (.int a), .val (.int b), .unset, .unset, .unset, .unset] [(.int (4 : Int32)), (.int b)]))
  by_cases hc2_1 : b = (4 : Int32)
  · refine own_by (fun tz kz => XS.icmpNo X0.here hx rfl (hb hby d15_2) rfl (teq hc2_1).2 kz) ?_
    show own_Go p e below s _ _ (s₁.setTop (mkF m 5 #[.val (.ref pa), .val (.int a), .val (.int b), .unset, .unset, .unset, .unset] []))
    refine own_by (fun tz kz => XS.iconst X0.here hx rfl (hb hby d15_5) kz) ?_
    show own_Go p e below s _ _ (s₁.setTop (mkF m 6 #[.val (.ref pa), .val (.int a), .val (.int b), .unset, .unset, .unset, .unset] [(.int (0 : Int32))]))
    refine own_retI X0 hx hlk (t := .boolean) hret (by simp) rfl (hb hby d15_6) ?_ (by decide) (by decide)
    exact ⟨by rw [hr, own_anc, if_pos hc2_1], N0, e0⟩
  · refine own_by (fun tz kz => XS.icmpYes X0.here hx rfl (pc0 := 2) (pc' := 7) rfl (hb hby d15_2) rfl (feq hc2_1).2 (by decide) (by decide) kz) ?_
    show own_Go p e below s _ _ (s₁.setTop (mkF m 7 #[.val (.ref pa), .val (.int a), .val (.int b), .unset, .unset, .unset, .unset] []))
    refine own_by (fun tz kz => XS.iloadN X0.here hx rfl (hb hby d15_7) rfl  kz) ?_
    show own_Go p e below s _ _ (s₁.setTop (mkF m 8 #[.val (.ref pa), .val (.int a), .val (.int b), .unset, .unset, .unset, .unset] [(.int b)]))
    refine own_by (fun tz kz => XS.istoreN X0.here hx rfl (hb hby d15_8) rfl (l' := #[.val (.ref pa), .val (.int a), .val (.int b), .val (.int b), .unset, .unset, .unset]) rfl kz) ?_
    show own_Go p e below s _ _ (s₁.setTop (mkF m 9 #[.val (.ref pa), .val (.int a), .val (.int b), .val (.int b), .unset, .unset, .unset] []))
    refine own_by (fun tz kz => XS.aloadN X0.here hx rfl (hb hby d15_9) rfl rfl kz) ?_
    show own_Go p e below s _ _ (s₁.setTop (mkF m 10 #[.val (.ref pa), .val (.int a), .val (.int b), .val (.int b), .unset, .unset, .unset] [(.ref pa)]))
    refine own_by (fun tz kz => XS.iloadN X0.here hx rfl (hb hby d15_10) rfl  kz) ?_
    show own_Go p e below s _ _ (s₁.setTop (mkF m 11 #[.val (.ref pa), .val (.int a), .val (.int b), .val (.int b), .unset, .unset, .unset] [(.int b), (.ref pa)]))
    obtain ⟨c2, Ar2, q2, S2, M2, Hh2, G2⟩ := id V_p
    have hin2 : ¬ (b < 0 ∨ c2.slots.size ≤ (b).toNatClampNeg) := inb_of S2 (hb4 hc2_1)
    have hat2 := Has.at Hh2 hin2 (v := (.int (own_pv P1 P2 P3 b))) (own_pat P1 P2 P3 _ (hb4 hc2_1))
    refine own_by (fun tz kz => X0.iaload hx (j := b) (v := (.int (own_pv P1 P2 P3 b))) (by rw [e0]; exact Ar2.1) (State.isArrayOf_alike hZ.alike Ar2.2.1) Ar2.2.2 hin2 hat2 (g := (mkF m 11 #[.val (.ref pa), .val (.int a), .val (.int b), .val (.int b), .unset, .unset, .unset] [(.int b), (.ref pa)])) rfl rfl (hb hby d15_11) _ kz) ?_
    show own_Go p e below s _ _ (s₁.setTop (mkF m 12 #[.val (.ref pa), .val (.int a), .val (.int b), .val (.int b), .unset, .unset, .unset] [(.int (own_pv P1 P2 P3 b))]))
    refine own_by (fun tz kz => XS.istore X0.here hx rfl (hb hby d15_12) rfl (l' := #[.val (.ref pa), .val (.int a), .val (.int b), .val (.int b), .val (.int (own_pv P1 P2 P3 b)), .unset, .unset]) rfl kz) ?_
    show own_Go p e below s _ _ (s₁.setTop (mkF m 14 #[.val (.ref pa), .val (.int a), .val (.int b), .val (.int b), .val (.int (own_pv P1 P2 P3 b)), .unset, .unset] []))
    refine own_by (fun tz kz => XS.iload X0.here hx rfl (hb hby d15_14) rfl  kz) ?_
    show own_Go p e below s _ _ (s₁.setTop (mkF m 16 #[.val (.ref pa), .val (.int a), .val (.int b), .val (.int b), .val (.int (own_pv P1 P2 P3 b)), .unset, .unset] [(.int (own_pv P1 P2 P3 b))]))
    by_cases hc16_3 : (own_pv P1 P2 P3 b) < (0 : Int32)
    · refine own_by (fun tz kz => XS.ifNo X0.here hx rfl (hb hby d15_16) rfl ((if0 _ _).trans (tlt hc16_3).2.1) kz) ?_
      show own_Go p e below s _ _ (s₁.setTop (mkF m 19 #[.val (.ref pa), .val (.int a), .val (.int b), .val (.int b), .val (.int (own_pv P1 P2 P3 b)), .unset, .unset] []))
      refine own_by (fun tz kz => XS.iconst X0.here hx rfl (hb hby d15_19) kz) ?_
      show own_Go p e below s _ _ (s₁.setTop (mkF m 20 #[.val (.ref pa), .val (.int a), .val (.int b), .val (.int b), .val (.int (own_pv P1 P2 P3 b)), .unset, .unset] [(.int (-1 : Int32))]))
      refine own_by (fun tz kz => XS.goto X0.here hx rfl (pc0 := 20) (pc' := 27) rfl (hb hby d15_20) (by decide) (by decide) kz) ?_
      show own_Go p e below s _ _ (s₁.setTop (mkF m 27 #[.val (.ref pa), .val (.int a), .val (.int b), .val (.int b), .val (.int (own_pv P1 P2 P3 b)), .unset, .unset] [(.int (-1 : Int32))]))
      refine own_by (fun tz kz => XS.istore X0.here hx rfl (hb hby d15_27) rfl (l' := #[.val (.ref pa), .val (.int a), .val (.int b), .val (.int b), .val (.int (own_pv P1 P2 P3 b)), .val (.int (-1 : Int32)), .unset]) rfl kz) ?_
      show own_Go p e below s _ _ (s₁.setTop (mkF m 29 #[.val (.ref pa), .val (.int a), .val (.int b), .val (.int b), .val (.int (own_pv P1 P2 P3 b)), .val (.int (-1 : Int32)), .unset] []))
      refine own_by (fun tz kz => XS.iload X0.here hx rfl (hb hby d15_29) rfl  kz) ?_
      show own_Go p e below s _ _ (s₁.setTop (mkF m 31 #[.val (.ref pa), .val (.int a), .val (.int b), .val (.int b), .val (.int (own_pv P1 P2 P3 b)), .val (.int (-1 : Int32)), .unset] [(.int (-1 : Int32))]))
      refine own_by (fun tz kz => XS.ifNo X0.here hx rfl (hb hby d15_31) rfl ((if0 _ _).trans (tlt (by decide : (-1 : Int32) < (0 : Int32))).2.1) kz) ?_
      show own_Go p e below s _ _ (s₁.setTop (mkF m 34 #[.val (.ref pa), .val (.int a), .val (.int b), .val (.int b), .val (.int (own_pv P1 P2 P3 b)), .val (.int (-1 : Int32)), .unset] []))
      refine own_by (fun tz kz => XS.iconst X0.here hx rfl (hb hby d15_34) kz) ?_
      show own_Go p e below s _ _ (s₁.setTop (mkF m 35 #[.val (.ref pa), .val (.int a), .val (.int b), .val (.int b), .val (.int (own_pv P1 P2 P3 b)), .val (.int (-1 : Int32)), .unset] [(.int (-1 : Int32))]))
      refine own_by (fun tz kz => XS.goto X0.here hx rfl (pc0 := 35) (pc' := 42) rfl (hb hby d15_35) (by decide) (by decide) kz) ?_
      show own_Go p e below s _ _ (s₁.setTop (mkF m 42 #[.val (.ref pa), .val (.int a), .val (.int b), .val (.int b), .val (.int (own_pv P1 P2 P3 b)), .val (.int (-1 : Int32)), .unset] [(.int (-1 : Int32))]))
      refine own_by (fun tz kz => XS.istore X0.here hx rfl (hb hby d15_42) rfl (l' := #[.val (.ref pa), .val (.int a), .val (.int b), .val (.int b), .val (.int (own_pv P1 P2 P3 b)), .val (.int (-1 : Int32)), .val (.int (-1 : Int32))]) rfl kz) ?_
      show own_Go p e below s _ _ (s₁.setTop (mkF m 44 #[.val (.ref pa), .val (.int a), .val (.int b), .val (.int b), .val (.int (own_pv P1 P2 P3 b)), .val (.int (-1 : Int32)), .val (.int (-1 : Int32))] []))
      refine own_by (fun tz kz => XS.iloadN X0.here hx rfl (hb hby d15_44) rfl  kz) ?_
      show own_Go p e below s _ _ (s₁.setTop (mkF m 45 #[.val (.ref pa), .val (.int a), .val (.int b), .val (.int b), .val (.int (own_pv P1 P2 P3 b)), .val (.int (-1 : Int32)), .val (.int (-1 : Int32))] [(.int b)]))
      refine own_by (fun tz kz => XS.iloadN X0.here hx rfl (hb hby d15_45) rfl  kz) ?_
      show own_Go p e below s _ _ (s₁.setTop (mkF m 46 #[.val (.ref pa), .val (.int a), .val (.int b), .val (.int b), .val (.int (own_pv P1 P2 P3 b)), .val (.int (-1 : Int32)), .val (.int (-1 : Int32))] [(.int a), (.int b)]))
      by_cases hc46_4 : b = a
      · refine own_by (fun tz kz => XS.icmpYes X0.here hx rfl (pc0 := 46) (pc' := 67) rfl (hb hby d15_46) rfl (teq hc46_4).1 (by decide) (by decide) kz) ?_
        show own_Go p e below s _ _ (s₁.setTop (mkF m 67 #[.val (.ref pa), .val (.int a), .val (.int b), .val (.int b), .val (.int (own_pv P1 P2 P3 b)), .val (.int (-1 : Int32)), .val (.int (-1 : Int32))] []))
        refine own_by (fun tz kz => XS.iconst X0.here hx rfl (hb hby d15_67) kz) ?_
        show own_Go p e below s _ _ (s₁.setTop (mkF m 68 #[.val (.ref pa), .val (.int a), .val (.int b), .val (.int b), .val (.int (own_pv P1 P2 P3 b)), .val (.int (-1 : Int32)), .val (.int (-1 : Int32))] [(.int (1 : Int32))]))
        refine own_by (fun tz kz => XS.goto X0.here hx rfl (pc0 := 68) (pc' := 72) rfl (hb hby d15_68) (by decide) (by decide) kz) ?_
        show own_Go p e below s _ _ (s₁.setTop (mkF m 72 #[.val (.ref pa), .val (.int a), .val (.int b), .val (.int b), .val (.int (own_pv P1 P2 P3 b)), .val (.int (-1 : Int32)), .val (.int (-1 : Int32))] [(.int (1 : Int32))]))
        have e2 : own_x2 P1 P2 P3 (own_pv P1 P2 P3 b) = (-1 : Int32) := if_pos hc16_3
        have e3 : own_x2 P1 P2 P3 (own_x2 P1 P2 P3 (own_pv P1 P2 P3 b)) = (-1 : Int32) := by rw [e2]; exact if_pos (by decide)
        refine own_retI X0 hx hlk (t := .boolean) hret (by simp) rfl (hb hby d15_72) ?_ (by decide) (by decide)
        exact ⟨by rw [hr, own_anc, if_neg hc2_1, if_pos (Or.inl hc46_4)], N0, e0⟩
      · refine own_by (fun tz kz => XS.icmpNo X0.here hx rfl (hb hby d15_46) rfl (feq hc46_4).1 kz) ?_
        show own_Go p e below s _ _ (s₁.setTop (mkF m 49 #[.val (.ref pa), .val (.int a), .val (.int b), .val (.int b), .val (.int (own_pv P1 P2 P3 b)), .val (.int (-1 : Int32)), .val (.int (-1 : Int32))] []))
        refine own_by (fun tz kz => XS.iload X0.here hx rfl (hb hby d15_49) rfl  kz) ?_
        show own_Go p e below s _ _ (s₁.setTop (mkF m 51 #[.val (.ref pa), .val (.int a), .val (.int b), .val (.int b), .val (.int (own_pv P1 P2 P3 b)), .val (.int (-1 : Int32)), .val (.int (-1 : Int32))] [(.int (own_pv P1 P2 P3 b))]))
        refine own_by (fun tz kz => XS.iloadN X0.here hx rfl (hb hby d15_51) rfl  kz) ?_
        show own_Go p e below s _ _ (s₁.setTop (mkF m 52 #[.val (.ref pa), .val (.int a), .val (.int b), .val (.int b), .val (.int (own_pv P1 P2 P3 b)), .val (.int (-1 : Int32)), .val (.int (-1 : Int32))] [(.int a), (.int (own_pv P1 P2 P3 b))]))
        by_cases hc52_5 : (own_pv P1 P2 P3 b) = a
        · refine own_by (fun tz kz => XS.icmpYes X0.here hx rfl (pc0 := 52) (pc' := 67) rfl (hb hby d15_52) rfl (teq hc52_5).1 (by decide) (by decide) kz) ?_
          show own_Go p e below s _ _ (s₁.setTop (mkF m 67 #[.val (.ref pa), .val (.int a), .val (.int b), .val (.int b), .val (.int (own_pv P1 P2 P3 b)), .val (.int (-1 : Int32)), .val (.int (-1 : Int32))] []))
          refine own_by (fun tz kz => XS.iconst X0.here hx rfl (hb hby d15_67) kz) ?_
          show own_Go p e below s _ _ (s₁.setTop (mkF m 68 #[.val (.ref pa), .val (.int a), .val (.int b), .val (.int b), .val (.int (own_pv P1 P2 P3 b)), .val (.int (-1 : Int32)), .val (.int (-1 : Int32))] [(.int (1 : Int32))]))
          refine own_by (fun tz kz => XS.goto X0.here hx rfl (pc0 := 68) (pc' := 72) rfl (hb hby d15_68) (by decide) (by decide) kz) ?_
          show own_Go p e below s _ _ (s₁.setTop (mkF m 72 #[.val (.ref pa), .val (.int a), .val (.int b), .val (.int b), .val (.int (own_pv P1 P2 P3 b)), .val (.int (-1 : Int32)), .val (.int (-1 : Int32))] [(.int (1 : Int32))]))
          have e2 : own_x2 P1 P2 P3 (own_pv P1 P2 P3 b) = (-1 : Int32) := if_pos hc16_3
          have e3 : own_x2 P1 P2 P3 (own_x2 P1 P2 P3 (own_pv P1 P2 P3 b)) = (-1 : Int32) := by rw [e2]; exact if_pos (by decide)
          refine own_retI X0 hx hlk (t := .boolean) hret (by simp) rfl (hb hby d15_72) ?_ (by decide) (by decide)
          exact ⟨by rw [hr, own_anc, if_neg hc2_1, if_pos (Or.inr (Or.inl hc52_5))], N0, e0⟩
        · refine own_by (fun tz kz => XS.icmpNo X0.here hx rfl (hb hby d15_52) rfl (feq hc52_5).1 kz) ?_
          show own_Go p e below s _ _ (s₁.setTop (mkF m 55 #[.val (.ref pa), .val (.int a), .val (.int b), .val (.int b), .val (.int (own_pv P1 P2 P3 b)), .val (.int (-1 : Int32)), .val (.int (-1 : Int32))] []))
          refine own_by (fun tz kz => XS.iload X0.here hx rfl (hb hby d15_55) rfl  kz) ?_
          show own_Go p e below s _ _ (s₁.setTop (mkF m 57 #[.val (.ref pa), .val (.int a), .val (.int b), .val (.int b), .val (.int (own_pv P1 P2 P3 b)), .val (.int (-1 : Int32)), .val (.int (-1 : Int32))] [(.int (-1 : Int32))]))
          refine own_by (fun tz kz => XS.iloadN X0.here hx rfl (hb hby d15_57) rfl  kz) ?_
          show own_Go p e below s _ _ (s₁.setTop (mkF m 58 #[.val (.ref pa), .val (.int a), .val (.int b), .val (.int b), .val (.int (own_pv P1 P2 P3 b)), .val (.int (-1 : Int32)), .val (.int (-1 : Int32))] [(.int a), (.int (-1 : Int32))]))
          by_cases hc58_6 : (-1 : Int32) = a
          · refine own_by (fun tz kz => XS.icmpYes X0.here hx rfl (pc0 := 58) (pc' := 67) rfl (hb hby d15_58) rfl (teq hc58_6).1 (by decide) (by decide) kz) ?_
            show own_Go p e below s _ _ (s₁.setTop (mkF m 67 #[.val (.ref pa), .val (.int a), .val (.int b), .val (.int b), .val (.int (own_pv P1 P2 P3 b)), .val (.int (-1 : Int32)), .val (.int (-1 : Int32))] []))
            refine own_by (fun tz kz => XS.iconst X0.here hx rfl (hb hby d15_67) kz) ?_
            show own_Go p e below s _ _ (s₁.setTop (mkF m 68 #[.val (.ref pa), .val (.int a), .val (.int b), .val (.int b), .val (.int (own_pv P1 P2 P3 b)), .val (.int (-1 : Int32)), .val (.int (-1 : Int32))] [(.int (1 : Int32))]))
            refine own_by (fun tz kz => XS.goto X0.here hx rfl (pc0 := 68) (pc' := 72) rfl (hb hby d15_68) (by decide) (by decide) kz) ?_
            show own_Go p e below s _ _ (s₁.setTop (mkF m 72 #[.val (.ref pa), .val (.int a), .val (.int b), .val (.int b), .val (.int (own_pv P1 P2 P3 b)), .val (.int (-1 : Int32)), .val (.int (-1 : Int32))] [(.int (1 : Int32))]))
            have e2 : own_x2 P1 P2 P3 (own_pv P1 P2 P3 b) = (-1 : Int32) := if_pos hc16_3
            have e3 : own_x2 P1 P2 P3 (own_x2 P1 P2 P3 (own_pv P1 P2 P3 b)) = (-1 : Int32) := by rw [e2]; exact if_pos (by decide)
            refine own_retI X0 hx hlk (t := .boolean) hret (by simp) rfl (hb hby d15_72) ?_ (by decide) (by decide)
            exact ⟨by rw [hr, own_anc, if_neg hc2_1, if_pos (Or.inr (Or.inr (Or.inl (e2.trans hc58_6))))], N0, e0⟩
          · refine own_by (fun tz kz => XS.icmpNo X0.here hx rfl (hb hby d15_58) rfl (feq hc58_6).1 kz) ?_
            show own_Go p e below s _ _ (s₁.setTop (mkF m 61 #[.val (.ref pa), .val (.int a), .val (.int b), .val (.int b), .val (.int (own_pv P1 P2 P3 b)), .val (.int (-1 : Int32)), .val (.int (-1 : Int32))] []))
            refine own_by (fun tz kz => XS.iload X0.here hx rfl (hb hby d15_61) rfl  kz) ?_
            show own_Go p e below s _ _ (s₁.setTop (mkF m 63 #[.val (.ref pa), .val (.int a), .val (.int b), .val (.int b), .val (.int (own_pv P1 P2 P3 b)), .val (.int (-1 : Int32)), .val (.int (-1 : Int32))] [(.int (-1 : Int32))]))
            refine own_by (fun tz kz => XS.iloadN X0.here hx rfl (hb hby d15_63) rfl  kz) ?_
            show own_Go p e below s _ _ (s₁.setTop (mkF m 64 #[.val (.ref pa), .val (.int a), .val (.int b), .val (.int b), .val (.int (own_pv P1 P2 P3 b)), .val (.int (-1 : Int32)), .val (.int (-1 : Int32))] [(.int a), (.int (-1 : Int32))]))
            refine own_by (fun tz kz => XS.icmpYes X0.here hx rfl (pc0 := 64) (pc' := 71) rfl (hb hby d15_64) rfl (feq hc58_6).2 (by decide) (by decide) kz) ?_
            show own_Go p e below s _ _ (s₁.setTop (mkF m 71 #[.val (.ref pa), .val (.int a), .val (.int b), .val (.int b), .val (.int (own_pv P1 P2 P3 b)), .val (.int (-1 : Int32)), .val (.int (-1 : Int32))] []))
            refine own_by (fun tz kz => XS.iconst X0.here hx rfl (hb hby d15_71) kz) ?_
            show own_Go p e below s _ _ (s₁.setTop (mkF m 72 #[.val (.ref pa), .val (.int a), .val (.int b), .val (.int b), .val (.int (own_pv P1 P2 P3 b)), .val (.int (-1 : Int32)), .val (.int (-1 : Int32))] [(.int (0 : Int32))]))
            have e2 : own_x2 P1 P2 P3 (own_pv P1 P2 P3 b) = (-1 : Int32) := if_pos hc16_3
            have e3 : own_x2 P1 P2 P3 (own_x2 P1 P2 P3 (own_pv P1 P2 P3 b)) = (-1 : Int32) := by rw [e2]; exact if_pos (by decide)
            refine own_retI X0 hx hlk (t := .boolean) hret (by simp) rfl (hb hby d15_72) ?_ (by decide) (by decide)
            exact ⟨by rw [hr, own_anc, if_neg hc2_1, if_neg (fun q => q.elim hc46_4 (fun q => q.elim hc52_5 (fun q => q.elim (fun q => hc58_6 (e2.symm.trans q)) (fun q => hc58_6 (e3.symm.trans q)))))], N0, e0⟩
    · refine own_by (fun tz kz => XS.ifYes X0.here hx rfl (pc0 := 16) (pc' := 23) rfl (hb hby d15_16) rfl ((if0 _ _).trans (flt hc16_3).2.1) (by decide) (by decide) kz) ?_
      show own_Go p e below s _ _ (s₁.setTop (mkF m 23 #[.val (.ref pa), .val (.int a), .val (.int b), .val (.int b), .val (.int (own_pv P1 P2 P3 b)), .unset, .unset] []))
      refine own_by (fun tz kz => XS.aloadN X0.here hx rfl (hb hby d15_23) rfl rfl kz) ?_
      show own_Go p e below s _ _ (s₁.setTop (mkF m 24 #[.val (.ref pa), .val (.int a), .val (.int b), .val (.int b), .val (.int (own_pv P1 P2 P3 b)), .unset, .unset] [(.ref pa)]))
      refine own_by (fun tz kz => XS.iload X0.here hx rfl (hb hby d15_24) rfl  kz) ?_
      show own_Go p e below s _ _ (s₁.setTop (mkF m 26 #[.val (.ref pa), .val (.int a), .val (.int b), .val (.int b), .val (.int (own_pv P1 P2 P3 b)), .unset, .unset] [(.int (own_pv P1 P2 P3 b)), (.ref pa)]))
      obtain ⟨c7, Ar7, q7, S7, M7, Hh7, G7⟩ := id V_p
      have hin7 : ¬ ((own_pv P1 P2 P3 b) < 0 ∨ c7.slots.size ≤ ((own_pv P1 P2 P3 b)).toNatClampNeg) := inb_of S7 ⟨hc16_3, own_pv_lt h1 h2 h3 _⟩
      have hat7 := Has.at Hh7 hin7 (v := (.int (own_pv P1 P2 P3 (own_pv P1 P2 P3 b)))) (own_pat P1 P2 P3 _ ⟨hc16_3, own_pv_lt h1 h2 h3 _⟩)
      refine own_by (fun tz kz => X0.iaload hx (j := (own_pv P1 P2 P3 b)) (v := (.int (own_pv P1 P2 P3 (own_pv P1 P2 P3 b)))) (by rw [e0]; exact Ar7.1) (State.isArrayOf_alike hZ.alike Ar7.2.1) Ar7.2.2 hin7 hat7 (g := (mkF m 26 #[.val (.ref pa), .val (.int a), .val (.int b), .val (.int b), .val (.int (own_pv P1 P2 P3 b)), .unset, .unset] [(.int (own_pv P1 P2 P3 b)), (.ref pa)])) rfl rfl (hb hby d15_26) _ kz) ?_
      show own_Go p e below s _ _ (s₁.setTop (mkF m 27 #[.val (.ref pa), .val (.int a), .val (.int b), .val (.int b), .val (.int (own_pv P1 P2 P3 b)), .unset, .unset] [(.int (own_pv P1 P2 P3 (own_pv P1 P2 P3 b)))]))
      refine own_by (fun tz kz => XS.istore X0.here hx rfl (hb hby d15_27) rfl (l' := #[.val (.ref pa), .val (.int a), .val (.int b), .val (.int b), .val (.int (own_pv P1 P2 P3 b)), .val (.int (own_pv P1 P2 P3 (own_pv P1 P2 P3 b))), .unset]) rfl kz) ?_
      show own_Go p e below s _ _ (s₁.setTop (mkF m 29 #[.val (.ref pa), .val (.int a), .val (.int b), .val (.int b), .val (.int (own_pv P1 P2 P3 b)), .val (.int (own_pv P1 P2 P3 (own_pv P1 P2 P3 b))), .unset] []))
      refine own_by (fun tz kz => XS.iload X0.here hx rfl (hb hby d15_29) rfl  kz) ?_
      show own_Go p e below s _ _ (s₁.setTop (mkF m 31 #[.val (.ref pa), .val (.int a), .val (.int b), .val (.int b), .val (.int (own_pv P1 P2 P3 b)), .val (.int (own_pv P1 P2 P3 (own_pv P1 P2 P3 b))), .unset] [(.int (own_pv P1 P2 P3 (own_pv P1 P2 P3 b)))]))
      by_cases hc31_8 : (own_pv P1 P2 P3 (own_pv P1 P2 P3 b)) < (0 : Int32)
      · refine own_by (fun tz kz => XS.ifNo X0.here hx rfl (hb hby d15_31) rfl ((if0 _ _).trans (tlt hc31_8).2.1) kz) ?_
        show own_Go p e below s _ _ (s₁.setTop (mkF m 34 #[.val (.ref pa), .val (.int a), .val (.int b), .val (.int b), .val (.int (own_pv P1 P2 P3 b)), .val (.int (own_pv P1 P2 P3 (own_pv P1 P2 P3 b))), .unset] []))
        refine own_by (fun tz kz => XS.iconst X0.here hx rfl (hb hby d15_34) kz) ?_
        show own_Go p e below s _ _ (s₁.setTop (mkF m 35 #[.val (.ref pa), .val (.int a), .val (.int b), .val (.int b), .val (.int (own_pv P1 P2 P3 b)), .val (.int (own_pv P1 P2 P3 (own_pv P1 P2 P3 b))), .unset] [(.int (-1 : Int32))]))
        refine own_by (fun tz kz => XS.goto X0.here hx rfl (pc0 := 35) (pc' := 42) rfl (hb hby d15_35) (by decide) (by decide) kz) ?_
        show own_Go p e below s _ _ (s₁.setTop (mkF m 42 #[.val (.ref pa), .val (.int a), .val (.int b), .val (.int b), .val (.int (own_pv P1 P2 P3 b)), .val (.int (own_pv P1 P2 P3 (own_pv P1 P2 P3 b))), .unset] [(.int (-1 : Int32))]))
        refine own_by (fun tz kz => XS.istore X0.here hx rfl (hb hby d15_42) rfl (l' := #[.val (.ref pa), .val (.int a), .val (.int b), .val (.int b), .val (.int (own_pv P1 P2 P3 b)), .val (.int (own_pv P1 P2 P3 (own_pv P1 P2 P3 b))), .val (.int (-1 : Int32))]) rfl kz) ?_
        show own_Go p e below s _ _ (s₁.setTop (mkF m 44 #[.val (.ref pa), .val (.int a), .val (.int b), .val (.int b), .val (.int (own_pv P1 P2 P3 b)), .val (.int (own_pv P1 P2 P3 (own_pv P1 P2 P3 b))), .val (.int (-1 : Int32))] []))
        refine own_by (fun tz kz => XS.iloadN X0.here hx rfl (hb hby d15_44) rfl  kz) ?_
        show own_Go p e below s _ _ (s₁.setTop (mkF m 45 #[.val (.ref pa), .val (.int a), .val (.int b), .val (.int b), .val (.int (own_pv P1 P2 P3 b)), .val (.int (own_pv P1 P2 P3 (own_pv P1 P2 P3 b))), .val (.int (-1 : Int32))] [(.int b)]))
        refine own_by (fun tz kz => XS.iloadN X0.here hx rfl (hb hby d15_45) rfl  kz) ?_
        show own_Go p e below s _ _ (s₁.setTop (mkF m 46 #[.val (.ref pa), .val (.int a), .val (.int b), .val (.int b), .val (.int (own_pv P1 P2 P3 b)), .val (.int (own_pv P1 P2 P3 (own_pv P1 P2 P3 b))), .val (.int (-1 : Int32))] [(.int a), (.int b)]))
        by_cases hc46_9 : b = a
        · refine own_by (fun tz kz => XS.icmpYes X0.here hx rfl (pc0 := 46) (pc' := 67) rfl (hb hby d15_46) rfl (teq hc46_9).1 (by decide) (by decide) kz) ?_
          show own_Go p e below s _ _ (s₁.setTop (mkF m 67 #[.val (.ref pa), .val (.int a), .val (.int b), .val (.int b), .val (.int (own_pv P1 P2 P3 b)), .val (.int (own_pv P1 P2 P3 (own_pv P1 P2 P3 b))), .val (.int (-1 : Int32))] []))
          refine own_by (fun tz kz => XS.iconst X0.here hx rfl (hb hby d15_67) kz) ?_
          show own_Go p e below s _ _ (s₁.setTop (mkF m 68 #[.val (.ref pa), .val (.int a), .val (.int b), .val (.int b), .val (.int (own_pv P1 P2 P3 b)), .val (.int (own_pv P1 P2 P3 (own_pv P1 P2 P3 b))), .val (.int (-1 : Int32))] [(.int (1 : Int32))]))
          refine own_by (fun tz kz => XS.goto X0.here hx rfl (pc0 := 68) (pc' := 72) rfl (hb hby d15_68) (by decide) (by decide) kz) ?_
          show own_Go p e below s _ _ (s₁.setTop (mkF m 72 #[.val (.ref pa), .val (.int a), .val (.int b), .val (.int b), .val (.int (own_pv P1 P2 P3 b)), .val (.int (own_pv P1 P2 P3 (own_pv P1 P2 P3 b))), .val (.int (-1 : Int32))] [(.int (1 : Int32))]))
          have e2 : own_x2 P1 P2 P3 (own_pv P1 P2 P3 b) = (own_pv P1 P2 P3 (own_pv P1 P2 P3 b)) := if_neg hc16_3
          have e3 : own_x2 P1 P2 P3 (own_x2 P1 P2 P3 (own_pv P1 P2 P3 b)) = (-1 : Int32) := by rw [e2]; exact if_pos hc31_8
          refine own_retI X0 hx hlk (t := .boolean) hret (by simp) rfl (hb hby d15_72) ?_ (by decide) (by decide)
          exact ⟨by rw [hr, own_anc, if_neg hc2_1, if_pos (Or.inl hc46_9)], N0, e0⟩
        · refine own_by (fun tz kz => XS.icmpNo X0.here hx rfl (hb hby d15_46) rfl (feq hc46_9).1 kz) ?_
          show own_Go p e below s _ _ (s₁.setTop (mkF m 49 #[.val (.ref pa), .val (.int a), .val (.int b), .val (.int b), .val (.int (own_pv P1 P2 P3 b)), .val (.int (own_pv P1 P2 P3 (own_pv P1 P2 P3 b))), .val (.int (-1 : Int32))] []))
          refine own_by (fun tz kz => XS.iload X0.here hx rfl (hb hby d15_49) rfl  kz) ?_
          show own_Go p e below s _ _ (s₁.setTop (mkF m 51 #[.val (.ref pa), .val (.int a), .val (.int b), .val (.int b), .val (.int (own_pv P1 P2 P3 b)), .val (.int (own_pv P1 P2 P3 (own_pv P1 P2 P3 b))), .val (.int (-1 : Int32))] [(.int (own_pv P1 P2 P3 b))]))
          refine own_by (fun tz kz => XS.iloadN X0.here hx rfl (hb hby d15_51) rfl  kz) ?_
          show own_Go p e below s _ _ (s₁.setTop (mkF m 52 #[.val (.ref pa), .val (.int a), .val (.int b), .val (.int b), .val (.int (own_pv P1 P2 P3 b)), .val (.int (own_pv P1 P2 P3 (own_pv P1 P2 P3 b))), .val (.int (-1 : Int32))] [(.int a), (.int (own_pv P1 P2 P3 b))]))
          by_cases hc52_10 : (own_pv P1 P2 P3 b) = a
          · refine own_by (fun tz kz => XS.icmpYes X0.here hx rfl (pc0 := 52) (pc' := 67) rfl (hb hby d15_52) rfl (teq hc52_10).1 (by decide) (by decide) kz) ?_
            show own_Go p e below s _ _ (s₁.setTop (mkF m 67 #[.val (.ref pa), .val (.int a), .val (.int b), .val (.int b), .val (.int (own_pv P1 P2 P3 b)), .val (.int (own_pv P1 P2 P3 (own_pv P1 P2 P3 b))), .val (.int (-1 : Int32))] []))
            refine own_by (fun tz kz => XS.iconst X0.here hx rfl (hb hby d15_67) kz) ?_
            show own_Go p e below s _ _ (s₁.setTop (mkF m 68 #[.val (.ref pa), .val (.int a), .val (.int b), .val (.int b), .val (.int (own_pv P1 P2 P3 b)), .val (.int (own_pv P1 P2 P3 (own_pv P1 P2 P3 b))), .val (.int (-1 : Int32))] [(.int (1 : Int32))]))
            refine own_by (fun tz kz => XS.goto X0.here hx rfl (pc0 := 68) (pc' := 72) rfl (hb hby d15_68) (by decide) (by decide) kz) ?_
            show own_Go p e below s _ _ (s₁.setTop (mkF m 72 #[.val (.ref pa), .val (.int a), .val (.int b), .val (.int b), .val (.int (own_pv P1 P2 P3 b)), .val (.int (own_pv P1 P2 P3 (own_pv P1 P2 P3 b))), .val (.int (-1 : Int32))] [(.int (1 : Int32))]))
            have e2 : own_x2 P1 P2 P3 (own_pv P1 P2 P3 b) = (own_pv P1 P2 P3 (own_pv P1 P2 P3 b)) := if_neg hc16_3
            have e3 : own_x2 P1 P2 P3 (own_x2 P1 P2 P3 (own_pv P1 P2 P3 b)) = (-1 : Int32) := by rw [e2]; exact if_pos hc31_8
            refine own_retI X0 hx hlk (t := .boolean) hret (by simp) rfl (hb hby d15_72) ?_ (by decide) (by decide)
            exact ⟨by rw [hr, own_anc, if_neg hc2_1, if_pos (Or.inr (Or.inl hc52_10))], N0, e0⟩
          · refine own_by (fun tz kz => XS.icmpNo X0.here hx rfl (hb hby d15_52) rfl (feq hc52_10).1 kz) ?_
            show own_Go p e below s _ _ (s₁.setTop (mkF m 55 #[.val (.ref pa), .val (.int a), .val (.int b), .val (.int b), .val (.int (own_pv P1 P2 P3 b)), .val (.int (own_pv P1 P2 P3 (own_pv P1 P2 P3 b))), .val (.int (-1 : Int32))] []))
            refine own_by (fun tz kz => XS.iload X0.here hx rfl (hb hby d15_55) rfl  kz) ?_
            show own_Go p e below s _ _ (s₁.setTop (mkF m 57 #[.val (.ref pa), .val (.int a), .val (.int b), .val (.int b), .val (.int (own_pv P1 P2 P3 b)), .val (.int (own_pv P1 P2 P3 (own_pv P1 P2 P3 b))), .val (.int (-1 : Int32))] [(.int (own_pv P1 P2 P3 (own_pv P1 P2 P3 b)))]))
            refine own_by (fun tz kz => XS.iloadN X0.here hx rfl (hb hby d15_57) rfl  kz) ?_
            show own_Go p e below s _ _ (s₁.setTop (mkF m 58 #[.val (.ref pa), .val (.int a), .val (.int b), .val (.int b), .val (.int (own_pv P1 P2 P3 b)), .val (.int (own_pv P1 P2 P3 (own_pv P1 P2 P3 b))), .val (.int (-1 : Int32))] [(.int a), (.int (own_pv P1 P2 P3 (own_pv P1 P2 P3 b)))]))
            by_cases hc58_11 : (own_pv P1 P2 P3 (own_pv P1 P2 P3 b)) = a
            · refine own_by (fun tz kz => XS.icmpYes X0.here hx rfl (pc0 := 58) (pc' := 67) rfl (hb hby d15_58) rfl (teq hc58_11).1 (by decide) (by decide) kz) ?_
              show own_Go p e below s _ _ (s₁.setTop (mkF m 67 #[.val (.ref pa), .val (.int a), .val (.int b), .val (.int b), .val (.int (own_pv P1 P2 P3 b)), .val (.int (own_pv P1 P2 P3 (own_pv P1 P2 P3 b))), .val (.int (-1 : Int32))] []))
              refine own_by (fun tz kz => XS.iconst X0.here hx rfl (hb hby d15_67) kz) ?_
              show own_Go p e below s _ _ (s₁.setTop (mkF m 68 #[.val (.ref pa), .val (.int a), .val (.int b), .val (.int b), .val (.int (own_pv P1 P2 P3 b)), .val (.int (own_pv P1 P2 P3 (own_pv P1 P2 P3 b))), .val (.int (-1 : Int32))] [(.int (1 : Int32))]))
              refine own_by (fun tz kz => XS.goto X0.here hx rfl (pc0 := 68) (pc' := 72) rfl (hb hby d15_68) (by decide) (by decide) kz) ?_
              show own_Go p e below s _ _ (s₁.setTop (mkF m 72 #[.val (.ref pa), .val (.int a), .val (.int b), .val (.int b), .val (.int (own_pv P1 P2 P3 b)), .val (.int (own_pv P1 P2 P3 (own_pv P1 P2 P3 b))), .val (.int (-1 : Int32))] [(.int (1 : Int32))]))
              have e2 : own_x2 P1 P2 P3 (own_pv P1 P2 P3 b) = (own_pv P1 P2 P3 (own_pv P1 P2 P3 b)) := if_neg hc16_3
              have e3 : own_x2 P1 P2 P3 (own_x2 P1 P2 P3 (own_pv P1 P2 P3 b)) = (-1 : Int32) := by rw [e2]; exact if_pos hc31_8
              refine own_retI X0 hx hlk (t := .boolean) hret (by simp) rfl (hb hby d15_72) ?_ (by decide) (by decide)
              exact ⟨by rw [hr, own_anc, if_neg hc2_1, if_pos (Or.inr (Or.inr (Or.inl (e2.trans hc58_11))))], N0, e0⟩
            · refine own_by (fun tz kz => XS.icmpNo X0.here hx rfl (hb hby d15_58) rfl (feq hc58_11).1 kz) ?_
              show own_Go p e below s _ _ (s₁.setTop (mkF m 61 #[.val (.ref pa), .val (.int a), .val (.int b), .val (.int b), .val (.int (own_pv P1 P2 P3 b)), .val (.int (own_pv P1 P2 P3 (own_pv P1 P2 P3 b))), .val (.int (-1 : Int32))] []))
              refine own_by (fun tz kz => XS.iload X0.here hx rfl (hb hby d15_61) rfl  kz) ?_
              show own_Go p e below s _ _ (s₁.setTop (mkF m 63 #[.val (.ref pa), .val (.int a), .val (.int b), .val (.int b), .val (.int (own_pv P1 P2 P3 b)), .val (.int (own_pv P1 P2 P3 (own_pv P1 P2 P3 b))), .val (.int (-1 : Int32))] [(.int (-1 : Int32))]))
              refine own_by (fun tz kz => XS.iloadN X0.here hx rfl (hb hby d15_63) rfl  kz) ?_
              show own_Go p e below s _ _ (s₁.setTop (mkF m 64 #[.val (.ref pa), .val (.int a), .val (.int b), .val (.int b), .val (.int (own_pv P1 P2 P3 b)), .val (.int (own_pv P1 P2 P3 (own_pv P1 P2 P3 b))), .val (.int (-1 : Int32))] [(.int a), (.int (-1 : Int32))]))
              by_cases hc64_12 : (-1 : Int32) = a
              · refine own_by (fun tz kz => XS.icmpNo X0.here hx rfl (hb hby d15_64) rfl (teq hc64_12).2 kz) ?_
                show own_Go p e below s _ _ (s₁.setTop (mkF m 67 #[.val (.ref pa), .val (.int a), .val (.int b), .val (.int b), .val (.int (own_pv P1 P2 P3 b)), .val (.int (own_pv P1 P2 P3 (own_pv P1 P2 P3 b))), .val (.int (-1 : Int32))] []))
                refine own_by (fun tz kz => XS.iconst X0.here hx rfl (hb hby d15_67) kz) ?_
                show own_Go p e below s _ _ (s₁.setTop (mkF m 68 #[.val (.ref pa), .val (.int a), .val (.int b), .val (.int b), .val (.int (own_pv P1 P2 P3 b)), .val (.int (own_pv P1 P2 P3 (own_pv P1 P2 P3 b))), .val (.int (-1 : Int32))] [(.int (1 : Int32))]))
                refine own_by (fun tz kz => XS.goto X0.here hx rfl (pc0 := 68) (pc' := 72) rfl (hb hby d15_68) (by decide) (by decide) kz) ?_
                show own_Go p e below s _ _ (s₁.setTop (mkF m 72 #[.val (.ref pa), .val (.int a), .val (.int b), .val (.int b), .val (.int (own_pv P1 P2 P3 b)), .val (.int (own_pv P1 P2 P3 (own_pv P1 P2 P3 b))), .val (.int (-1 : Int32))] [(.int (1 : Int32))]))
                have e2 : own_x2 P1 P2 P3 (own_pv P1 P2 P3 b) = (own_pv P1 P2 P3 (own_pv P1 P2 P3 b)) := if_neg hc16_3
                have e3 : own_x2 P1 P2 P3 (own_x2 P1 P2 P3 (own_pv P1 P2 P3 b)) = (-1 : Int32) := by rw [e2]; exact if_pos hc31_8
                refine own_retI X0 hx hlk (t := .boolean) hret (by simp) rfl (hb hby d15_72) ?_ (by decide) (by decide)
                exact ⟨by rw [hr, own_anc, if_neg hc2_1, if_pos (Or.inr (Or.inr (Or.inr ((e3.trans hc64_12)))))], N0, e0⟩
              · refine own_by (fun tz kz => XS.icmpYes X0.here hx rfl (pc0 := 64) (pc' := 71) rfl (hb hby d15_64) rfl (feq hc64_12).2 (by decide) (by decide) kz) ?_
                show own_Go p e below s _ _ (s₁.setTop (mkF m 71 #[.val (.ref pa), .val (.int a), .val (.int b), .val (.int b), .val (.int (own_pv P1 P2 P3 b)), .val (.int (own_pv P1 P2 P3 (own_pv P1 P2 P3 b))), .val (.int (-1 : Int32))] []))
                refine own_by (fun tz kz => XS.iconst X0.here hx rfl (hb hby d15_71) kz) ?_
                show own_Go p e below s _ _ (s₁.setTop (mkF m 72 #[.val (.ref pa), .val (.int a), .val (.int b), .val (.int b), .val (.int (own_pv P1 P2 P3 b)), .val (.int (own_pv P1 P2 P3 (own_pv P1 P2 P3 b))), .val (.int (-1 : Int32))] [(.int (0 : Int32))]))
                have e2 : own_x2 P1 P2 P3 (own_pv P1 P2 P3 b) = (own_pv P1 P2 P3 (own_pv P1 P2 P3 b)) := if_neg hc16_3
                have e3 : own_x2 P1 P2 P3 (own_x2 P1 P2 P3 (own_pv P1 P2 P3 b)) = (-1 : Int32) := by rw [e2]; exact if_pos hc31_8
                refine own_retI X0 hx hlk (t := .boolean) hret (by simp) rfl (hb hby d15_72) ?_ (by decide) (by decide)
                exact ⟨by rw [hr, own_anc, if_neg hc2_1, if_neg (fun q => q.elim hc46_9 (fun q => q.elim hc52_10 (fun q => q.elim (fun q => hc58_11 (e2.symm.trans q)) (fun q => hc64_12 (e3.symm.trans q)))))], N0, e0⟩
      · refine own_by (fun tz kz => XS.ifYes X0.here hx rfl (pc0 := 31) (pc' := 38) rfl (hb hby d15_31) rfl ((if0 _ _).trans (flt hc31_8).2.1) (by decide) (by decide) kz) ?_
        show own_Go p e below s _ _ (s₁.setTop (mkF m 38 #[.val (.ref pa), .val (.int a), .val (.int b), .val (.int b), .val (.int (own_pv P1 P2 P3 b)), .val (.int (own_pv P1 P2 P3 (own_pv P1 P2 P3 b))), .unset] []))
        refine own_by (fun tz kz => XS.aloadN X0.here hx rfl (hb hby d15_38) rfl rfl kz) ?_
        show own_Go p e below s _ _ (s₁.setTop (mkF m 39 #[.val (.ref pa), .val (.int a), .val (.int b), .val (.int b), .val (.int (own_pv P1 P2 P3 b)), .val (.int (own_pv P1 P2 P3 (own_pv P1 P2 P3 b))), .unset] [(.ref pa)]))
        refine own_by (fun tz kz => XS.iload X0.here hx rfl (hb hby d15_39) rfl  kz) ?_
        show own_Go p e below s _ _ (s₁.setTop (mkF m 41 #[.val (.ref pa), .val (.int a), .val (.int b), .val (.int b), .val (.int (own_pv P1 P2 P3 b)), .val (.int (own_pv P1 P2 P3 (own_pv P1 P2 P3 b))), .unset] [(.int (own_pv P1 P2 P3 (own_pv P1 P2 P3 b))), (.ref pa)]))
        obtain ⟨c13, Ar13, q13, S13, M13, Hh13, G13⟩ := id V_p
        have hin13 : ¬ ((own_pv P1 P2 P3 (own_pv P1 P2 P3 b)) < 0 ∨ c13.slots.size ≤ ((own_pv P1 P2 P3 (own_pv P1 P2 P3 b))).toNatClampNeg) := inb_of S13 ⟨hc31_8, own_pv_lt h1 h2 h3 _⟩
        have hat13 := Has.at Hh13 hin13 (v := (.int (own_pv P1 P2 P3 (own_pv P1 P2 P3 (own_pv P1 P2 P3 b))))) (own_pat P1 P2 P3 _ ⟨hc31_8, own_pv_lt h1 h2 h3 _⟩)
        refine own_by (fun tz kz => X0.iaload hx (j := (own_pv P1 P2 P3 (own_pv P1 P2 P3 b))) (v := (.int (own_pv P1 P2 P3 (own_pv P1 P2 P3 (own_pv P1 P2 P3 b))))) (by rw [e0]; exact Ar13.1) (State.isArrayOf_alike hZ.alike Ar13.2.1) Ar13.2.2 hin13 hat13 (g := (mkF m 41 #[.val (.ref pa), .val (.int a), .val (.int b), .val (.int b), .val (.int (own_pv P1 P2 P3 b)), .val (.int (own_pv P1 P2 P3 (own_pv P1 P2 P3 b))), .unset] [(.int (own_pv P1 P2 P3 (own_pv P1 P2 P3 b))), (.ref pa)])) rfl rfl (hb hby d15_41) _ kz) ?_
        show own_Go p e below s _ _ (s₁.setTop (mkF m 42 #[.val (.ref pa), .val (.int a), .val (.int b), .val (.int b), .val (.int (own_pv P1 P2 P3 b)), .val (.int (own_pv P1 P2 P3 (own_pv P1 P2 P3 b))), .unset] [(.int (own_pv P1 P2 P3 (own_pv P1 P2 P3 (own_pv P1 P2 P3 b))))]))
        refine own_by (fun tz kz => XS.istore X0.here hx rfl (hb hby d15_42) rfl (l' := #[.val (.ref pa), .val (.int a), .val (.int b), .val (.int b), .val (.int (own_pv P1 P2 P3 b)), .val (.int (own_pv P1 P2 P3 (own_pv P1 P2 P3 b))), .val (.int (own_pv P1 P2 P3 (own_pv P1 P2 P3 (own_pv P1 P2 P3 b))))]) rfl kz) ?_
        show own_Go p e below s _ _ (s₁.setTop (mkF m 44 #[.val (.ref pa), .val (.int a), .val (.int b), .val (.int b), .val (.int (own_pv P1 P2 P3 b)), .val (.int (own_pv P1 P2 P3 (own_pv P1 P2 P3 b))), .val (.int (own_pv P1 P2 P3 (own_pv P1 P2 P3 (own_pv P1 P2 P3 b))))] []))
        refine own_by (fun tz kz => XS.iloadN X0.here hx rfl (hb hby d15_44) rfl  kz) ?_
        show own_Go p e below s _ _ (s₁.setTop (mkF m 45 #[.val (.ref pa), .val (.int a), .val (.int b), .val (.int b), .val (.int (own_pv P1 P2 P3 b)), .val (.int (own_pv P1 P2 P3 (own_pv P1 P2 P3 b))), .val (.int (own_pv P1 P2 P3 (own_pv P1 P2 P3 (own_pv P1 P2 P3 b))))] [(.int b)]))
        refine own_by (fun tz kz => XS.iloadN X0.here hx rfl (hb hby d15_45) rfl  kz) ?_
        show own_Go p e below s _ _ (s₁.setTop (mkF m 46 #[.val (.ref pa), .val (.int a), .val (.int b), .val (.int b), .val (.int (own_pv P1 P2 P3 b)), .val (.int (own_pv P1 P2 P3 (own_pv P1 P2 P3 b))), .val (.int (own_pv P1 P2 P3 (own_pv P1 P2 P3 (own_pv P1 P2 P3 b))))] [(.int a), (.int b)]))
        by_cases hc46_14 : b = a
        · refine own_by (fun tz kz => XS.icmpYes X0.here hx rfl (pc0 := 46) (pc' := 67) rfl (hb hby d15_46) rfl (teq hc46_14).1 (by decide) (by decide) kz) ?_
          show own_Go p e below s _ _ (s₁.setTop (mkF m 67 #[.val (.ref pa), .val (.int a), .val (.int b), .val (.int b), .val (.int (own_pv P1 P2 P3 b)), .val (.int (own_pv P1 P2 P3 (own_pv P1 P2 P3 b))), .val (.int (own_pv P1 P2 P3 (own_pv P1 P2 P3 (own_pv P1 P2 P3 b))))] []))
          refine own_by (fun tz kz => XS.iconst X0.here hx rfl (hb hby d15_67) kz) ?_
          show own_Go p e below s _ _ (s₁.setTop (mkF m 68 #[.val (.ref pa), .val (.int a), .val (.int b), .val (.int b), .val (.int (own_pv P1 P2 P3 b)), .val (.int (own_pv P1 P2 P3 (own_pv P1 P2 P3 b))), .val (.int (own_pv P1 P2 P3 (own_pv P1 P2 P3 (own_pv P1 P2 P3 b))))] [(.int (1 : Int32))]))
          refine own_by (fun tz kz => XS.goto X0.here hx rfl (pc0 := 68) (pc' := 72) rfl (hb hby d15_68) (by decide) (by decide) kz) ?_
          show own_Go p e below s _ _ (s₁.setTop (mkF m 72 #[.val (.ref pa), .val (.int a), .val (.int b), .val (.int b), .val (.int (own_pv P1 P2 P3 b)), .val (.int (own_pv P1 P2 P3 (own_pv P1 P2 P3 b))), .val (.int (own_pv P1 P2 P3 (own_pv P1 P2 P3 (own_pv P1 P2 P3 b))))] [(.int (1 : Int32))]))
          have e2 : own_x2 P1 P2 P3 (own_pv P1 P2 P3 b) = (own_pv P1 P2 P3 (own_pv P1 P2 P3 b)) := if_neg hc16_3
          have e3 : own_x2 P1 P2 P3 (own_x2 P1 P2 P3 (own_pv P1 P2 P3 b)) = (own_pv P1 P2 P3 (own_pv P1 P2 P3 (own_pv P1 P2 P3 b))) := by rw [e2]; exact if_neg hc31_8
          refine own_retI X0 hx hlk (t := .boolean) hret (by simp) rfl (hb hby d15_72) ?_ (by decide) (by decide)
          exact ⟨by rw [hr, own_anc, if_neg hc2_1, if_pos (Or.inl hc46_14)], N0, e0⟩
        · refine own_by (fun tz kz => XS.icmpNo X0.here hx rfl (hb hby d15_46) rfl (feq hc46_14).1 kz) ?_
          show own_Go p e below s _ _ (s₁.setTop (mkF m 49 #[.val (.ref pa), .val (.int a), .val (.int b), .val (.int b), .val (.int (own_pv P1 P2 P3 b)), .val (.int (own_pv P1 P2 P3 (own_pv P1 P2 P3 b))), .val (.int (own_pv P1 P2 P3 (own_pv P1 P2 P3 (own_pv P1 P2 P3 b))))] []))
          refine own_by (fun tz kz => XS.iload X0.here hx rfl (hb hby d15_49) rfl  kz) ?_
          show own_Go p e below s _ _ (s₁.setTop (mkF m 51 #[.val (.ref pa), .val (.int a), .val (.int b), .val (.int b), .val (.int (own_pv P1 P2 P3 b)), .val (.int (own_pv P1 P2 P3 (own_pv P1 P2 P3 b))), .val (.int (own_pv P1 P2 P3 (own_pv P1 P2 P3 (own_pv P1 P2 P3 b))))] [(.int (own_pv P1 P2 P3 b))]))
          refine own_by (fun tz kz => XS.iloadN X0.here hx rfl (hb hby d15_51) rfl  kz) ?_
          show own_Go p e below s _ _ (s₁.setTop (mkF m 52 #[.val (.ref pa), .val (.int a), .val (.int b), .val (.int b), .val (.int (own_pv P1 P2 P3 b)), .val (.int (own_pv P1 P2 P3 (own_pv P1 P2 P3 b))), .val (.int (own_pv P1 P2 P3 (own_pv P1 P2 P3 (own_pv P1 P2 P3 b))))] [(.int a), (.int (own_pv P1 P2 P3 b))]))
          by_cases hc52_15 : (own_pv P1 P2 P3 b) = a
          · refine own_by (fun tz kz => XS.icmpYes X0.here hx rfl (pc0 := 52) (pc' := 67) rfl (hb hby d15_52) rfl (teq hc52_15).1 (by decide) (by decide) kz) ?_
            show own_Go p e below s _ _ (s₁.setTop (mkF m 67 #[.val (.ref pa), .val (.int a), .val (.int b), .val (.int b), .val (.int (own_pv P1 P2 P3 b)), .val (.int (own_pv P1 P2 P3 (own_pv P1 P2 P3 b))), .val (.int (own_pv P1 P2 P3 (own_pv P1 P2 P3 (own_pv P1 P2 P3 b))))] []))
            refine own_by (fun tz kz => XS.iconst X0.here hx rfl (hb hby d15_67) kz) ?_
            show own_Go p e below s _ _ (s₁.setTop (mkF m 68 #[.val (.ref pa), .val (.int a), .val (.int b), .val (.int b), .val (.int (own_pv P1 P2 P3 b)), .val (.int (own_pv P1 P2 P3 (own_pv P1 P2 P3 b))), .val (.int (own_pv P1 P2 P3 (own_pv P1 P2 P3 (own_pv P1 P2 P3 b))))] [(.int (1 : Int32))]))
            refine own_by (fun tz kz => XS.goto X0.here hx rfl (pc0 := 68) (pc' := 72) rfl (hb hby d15_68) (by decide) (by decide) kz) ?_
            show own_Go p e below s _ _ (s₁.setTop (mkF m 72 #[.val (.ref pa), .val (.int a), .val (.int b), .val (.int b), .val (.int (own_pv P1 P2 P3 b)), .val (.int (own_pv P1 P2 P3 (own_pv P1 P2 P3 b))), .val (.int (own_pv P1 P2 P3 (own_pv P1 P2 P3 (own_pv P1 P2 P3 b))))] [(.int (1 : Int32))]))
            have e2 : own_x2 P1 P2 P3 (own_pv P1 P2 P3 b) = (own_pv P1 P2 P3 (own_pv P1 P2 P3 b)) := if_neg hc16_3
            have e3 : own_x2 P1 P2 P3 (own_x2 P1 P2 P3 (own_pv P1 P2 P3 b)) = (own_pv P1 P2 P3 (own_pv P1 P2 P3 (own_pv P1 P2 P3 b))) := by rw [e2]; exact if_neg hc31_8
            refine own_retI X0 hx hlk (t := .boolean) hret (by simp) rfl (hb hby d15_72) ?_ (by decide) (by decide)
            exact ⟨by rw [hr, own_anc, if_neg hc2_1, if_pos (Or.inr (Or.inl hc52_15))], N0, e0⟩
          · refine own_by (fun tz kz => XS.icmpNo X0.here hx rfl (hb hby d15_52) rfl (feq hc52_15).1 kz) ?_
            show own_Go p e below s _ _ (s₁.setTop (mkF m 55 #[.val (.ref pa), .val (.int a), .val (.int b), .val (.int b), .val (.int (own_pv P1 P2 P3 b)), .val (.int (own_pv P1 P2 P3 (own_pv P1 P2 P3 b))), .val (.int (own_pv P1 P2 P3 (own_pv P1 P2 P3 (own_pv P1 P2 P3 b))))] []))
            refine own_by (fun tz kz => XS.iload X0.here hx rfl (hb hby d15_55) rfl  kz) ?_
            show own_Go p e below s _ _ (s₁.setTop (mkF m 57 #[.val (.ref pa), .val (.int a), .val (.int b), .val (.int b), .val (.int (own_pv P1 P2 P3 b)), .val (.int (own_pv P1 P2 P3 (own_pv P1 P2 P3 b))), .val (.int (own_pv P1 P2 P3 (own_pv P1 P2 P3 (own_pv P1 P2 P3 b))))] [(.int (own_pv P1 P2 P3 (own_pv P1 P2 P3 b)))]))
            refine own_by (fun tz kz => XS.iloadN X0.here hx rfl (hb hby d15_57) rfl  kz) ?_
            show own_Go p e below s _ _ (s₁.setTop (mkF m 58 #[.val (.ref pa), .val (.int a), .val (.int b), .val (.int b), .val (.int (own_pv P1 P2 P3 b)), .val (.int (own_pv P1 P2 P3 (own_pv P1 P2 P3 b))), .val (.int (own_pv P1 P2 P3 (own_pv P1 P2 P3 (own_pv P1 P2 P3 b))))] [(.int a), (.int (own_pv P1 P2 P3 (own_pv P1 P2 P3 b)))]))
            by_cases hc58_16 : (own_pv P1 P2 P3 (own_pv P1 P2 P3 b)) = a
            · refine own_by (fun tz kz => XS.icmpYes X0.here hx rfl (pc0 := 58) (pc' := 67) rfl (hb hby d15_58) rfl (teq hc58_16).1 (by decide) (by decide) kz) ?_
              show own_Go p e below s _ _ (s₁.setTop (mkF m 67 #[.val (.ref pa), .val (.int a), .val (.int b), .val (.int b), .val (.int (own_pv P1 P2 P3 b)), .val (.int (own_pv P1 P2 P3 (own_pv P1 P2 P3 b))), .val (.int (own_pv P1 P2 P3 (own_pv P1 P2 P3 (own_pv P1 P2 P3 b))))] []))
              refine own_by (fun tz kz => XS.iconst X0.here hx rfl (hb hby d15_67) kz) ?_
              show own_Go p e below s _ _ (s₁.setTop (mkF m 68 #[.val (.ref pa), .val (.int a), .val (.int b), .val (.int b), .val (.int (own_pv P1 P2 P3 b)), .val (.int (own_pv P1 P2 P3 (own_pv P1 P2 P3 b))), .val (.int (own_pv P1 P2 P3 (own_pv P1 P2 P3 (own_pv P1 P2 P3 b))))] [(.int (1 : Int32))]))
              refine own_by (fun tz kz => XS.goto X0.here hx rfl (pc0 := 68) (pc' := 72) rfl (hb hby d15_68) (by decide) (by decide) kz) ?_
              show own_Go p e below s _ _ (s₁.setTop (mkF m 72 #[.val (.ref pa), .val (.int a), .val (.int b), .val (.int b), .val (.int (own_pv P1 P2 P3 b)), .val (.int (own_pv P1 P2 P3 (own_pv P1 P2 P3 b))), .val (.int (own_pv P1 P2 P3 (own_pv P1 P2 P3 (own_pv P1 P2 P3 b))))] [(.int (1 : Int32))]))
              have e2 : own_x2 P1 P2 P3 (own_pv P1 P2 P3 b) = (own_pv P1 P2 P3 (own_pv P1 P2 P3 b)) := if_neg hc16_3
              have e3 : own_x2 P1 P2 P3 (own_x2 P1 P2 P3 (own_pv P1 P2 P3 b)) = (own_pv P1 P2 P3 (own_pv P1 P2 P3 (own_pv P1 P2 P3 b))) := by rw [e2]; exact if_neg hc31_8
              refine own_retI X0 hx hlk (t := .boolean) hret (by simp) rfl (hb hby d15_72) ?_ (by decide) (by decide)
              exact ⟨by rw [hr, own_anc, if_neg hc2_1, if_pos (Or.inr (Or.inr (Or.inl (e2.trans hc58_16))))], N0, e0⟩
            · refine own_by (fun tz kz => XS.icmpNo X0.here hx rfl (hb hby d15_58) rfl (feq hc58_16).1 kz) ?_
              show own_Go p e below s _ _ (s₁.setTop (mkF m 61 #[.val (.ref pa), .val (.int a), .val (.int b), .val (.int b), .val (.int (own_pv P1 P2 P3 b)), .val (.int (own_pv P1 P2 P3 (own_pv P1 P2 P3 b))), .val (.int (own_pv P1 P2 P3 (own_pv P1 P2 P3 (own_pv P1 P2 P3 b))))] []))
              refine own_by (fun tz kz => XS.iload X0.here hx rfl (hb hby d15_61) rfl  kz) ?_
              show own_Go p e below s _ _ (s₁.setTop (mkF m 63 #[.val (.ref pa), .val (.int a), .val (.int b), .val (.int b), .val (.int (own_pv P1 P2 P3 b)), .val (.int (own_pv P1 P2 P3 (own_pv P1 P2 P3 b))), .val (.int (own_pv P1 P2 P3 (own_pv P1 P2 P3 (own_pv P1 P2 P3 b))))] [(.int (own_pv P1 P2 P3 (own_pv P1 P2 P3 (own_pv P1 P2 P3 b))))]))
              refine own_by (fun tz kz => XS.iloadN X0.here hx rfl (hb hby d15_63) rfl  kz) ?_
              show own_Go p e below s _ _ (s₁.setTop (mkF m 64 #[.val (.ref pa), .val (.int a), .val (.int b), .val (.int b), .val (.int (own_pv P1 P2 P3 b)), .val (.int (own_pv P1 P2 P3 (own_pv P1 P2 P3 b))), .val (.int (own_pv P1 P2 P3 (own_pv P1 P2 P3 (own_pv P1 P2 P3 b))))] [(.int a), (.int (own_pv P1 P2 P3 (own_pv P1 P2 P3 (own_pv P1 P2 P3 b))))]))
              by_cases hc64_17 : (own_pv P1 P2 P3 (own_pv P1 P2 P3 (own_pv P1 P2 P3 b))) = a
              · refine own_by (fun tz kz => XS.icmpNo X0.here hx rfl (hb hby d15_64) rfl (teq hc64_17).2 kz) ?_
                show own_Go p e below s _ _ (s₁.setTop (mkF m 67 #[.val (.ref pa), .val (.int a), .val (.int b), .val (.int b), .val (.int (own_pv P1 P2 P3 b)), .val (.int (own_pv P1 P2 P3 (own_pv P1 P2 P3 b))), .val (.int (own_pv P1 P2 P3 (own_pv P1 P2 P3 (own_pv P1 P2 P3 b))))] []))
                refine own_by (fun tz kz => XS.iconst X0.here hx rfl (hb hby d15_67) kz) ?_
                show own_Go p e below s _ _ (s₁.setTop (mkF m 68 #[.val (.ref pa), .val (.int a), .val (.int b), .val (.int b), .val (.int (own_pv P1 P2 P3 b)), .val (.int (own_pv P1 P2 P3 (own_pv P1 P2 P3 b))), .val (.int (own_pv P1 P2 P3 (own_pv P1 P2 P3 (own_pv P1 P2 P3 b))))] [(.int (1 : Int32))]))
                refine own_by (fun tz kz => XS.goto X0.here hx rfl (pc0 := 68) (pc' := 72) rfl (hb hby d15_68) (by decide) (by decide) kz) ?_
                show own_Go p e below s _ _ (s₁.setTop (mkF m 72 #[.val (.ref pa), .val (.int a), .val (.int b), .val (.int b), .val (.int (own_pv P1 P2 P3 b)), .val (.int (own_pv P1 P2 P3 (own_pv P1 P2 P3 b))), .val (.int (own_pv P1 P2 P3 (own_pv P1 P2 P3 (own_pv P1 P2 P3 b))))] [(.int (1 : Int32))]))
                have e2 : own_x2 P1 P2 P3 (own_pv P1 P2 P3 b) = (own_pv P1 P2 P3 (own_pv P1 P2 P3 b)) := if_neg hc16_3
                have e3 : own_x2 P1 P2 P3 (own_x2 P1 P2 P3 (own_pv P1 P2 P3 b)) = (own_pv P1 P2 P3 (own_pv P1 P2 P3 (own_pv P1 P2 P3 b))) := by rw [e2]; exact if_neg hc31_8
                refine own_retI X0 hx hlk (t := .boolean) hret (by simp) rfl (hb hby d15_72) ?_ (by decide) (by decide)
                exact ⟨by rw [hr, own_anc, if_neg hc2_1, if_pos (Or.inr (Or.inr (Or.inr ((e3.trans hc64_17)))))], N0, e0⟩
              · refine own_by (fun tz kz => XS.icmpYes X0.here hx rfl (pc0 := 64) (pc' := 71) rfl (hb hby d15_64) rfl (feq hc64_17).2 (by decide) (by decide) kz) ?_
                show own_Go p e below s _ _ (s₁.setTop (mkF m 71 #[.val (.ref pa), .val (.int a), .val (.int b), .val (.int b), .val (.int (own_pv P1 P2 P3 b)), .val (.int (own_pv P1 P2 P3 (own_pv P1 P2 P3 b))), .val (.int (own_pv P1 P2 P3 (own_pv P1 P2 P3 (own_pv P1 P2 P3 b))))] []))
                refine own_by (fun tz kz => XS.iconst X0.here hx rfl (hb hby d15_71) kz) ?_
                show own_Go p e below s _ _ (s₁.setTop (mkF m 72 #[.val (.ref pa), .val (.int a), .val (.int b), .val (.int b), .val (.int (own_pv P1 P2 P3 b)), .val (.int (own_pv P1 P2 P3 (own_pv P1 P2 P3 b))), .val (.int (own_pv P1 P2 P3 (own_pv P1 P2 P3 (own_pv P1 P2 P3 b))))] [(.int (0 : Int32))]))
                have e2 : own_x2 P1 P2 P3 (own_pv P1 P2 P3 b) = (own_pv P1 P2 P3 (own_pv P1 P2 P3 b)) := if_neg hc16_3
                have e3 : own_x2 P1 P2 P3 (own_x2 P1 P2 P3 (own_pv P1 P2 P3 b)) = (own_pv P1 P2 P3 (own_pv P1 P2 P3 (own_pv P1 P2 P3 b))) := by rw [e2]; exact if_neg hc31_8
                refine own_retI X0 hx hlk (t := .boolean) hret (by simp) rfl (hb hby d15_72) ?_ (by decide) (by decide)
                exact ⟨by rw [hr, own_anc, if_neg hc2_1, if_neg (fun q => q.elim hc46_14 (fun q => q.elim hc52_15 (fun q => q.elim (fun q => hc58_16 (e2.symm.trans q)) (fun q => hc64_17 (e3.symm.trans q)))))], N0, e0⟩
def own_ad (g0 g1 g2 g3 : Addr) (j : Int32) : Addr := if j = (0 : Int32) then g0 else if j = (1 : Int32) then g1 else if j = (2 : Int32) then g2 else g3
def own_par (g0 g1 g2 g3 : Addr) (P : Int32) : Value := if P < (0 : Int32) then .null else .ref (own_ad g0 g1 g2 g3 P)
def own_arg (g0 g1 g2 g3 : Addr) (b : Int32) : Value := if b < (4 : Int32) then .ref (own_ad g0 g1 g2 g3 b) else .null
theorem own_par_ref (g0 g1 g2 g3 : Addr) (P : Int32) : (own_par g0 g1 g2 g3 P).isRef = true := by
  unfold own_par; by_cases h : P < (0 : Int32)
  · rw [if_pos h]; rfl
  · rw [if_neg h]; rfl
theorem own_arg_ref (g0 g1 g2 g3 : Addr) (b : Int32) : (own_arg g0 g1 g2 g3 b).isRef = true := by
  unfold own_arg; by_cases h : b < (4 : Int32)
  · rw [if_pos h]; rfl
  · rw [if_neg h]; rfl
theorem own_at3 (g0 g1 g2 g3 : Addr) (j : Int32) (h : j = (0 : Int32) ∨ j = (1 : Int32) ∨ j = (2 : Int32)) : ([.ref g0, .ref g1, .ref g2] : List Value).getD j.toNatClampNeg .null = .ref (own_ad g0 g1 g2 g3 j) := by
  rcases h with rfl | rfl | rfl
  · rw [(by decide : (0 : Int32).toNatClampNeg = 0)]; rfl
  · rw [(by decide : (1 : Int32).toNatClampNeg = 1)]; rfl
  · rw [(by decide : (2 : Int32).toNatClampNeg = 2)]; rfl
theorem own_at4 (g0 g1 g2 g3 : Addr) (j : Int32) (h : j = (0 : Int32) ∨ j = (1 : Int32) ∨ j = (2 : Int32) ∨ j = (3 : Int32)) : ([.ref g0, .ref g1, .ref g2, .ref g3] : List Value).getD j.toNatClampNeg .null = .ref (own_ad g0 g1 g2 g3 j) := by
  rcases h with rfl | rfl | rfl | rfl
  · rw [(by decide : (0 : Int32).toNatClampNeg = 0)]; rfl
  · rw [(by decide : (1 : Int32).toNatClampNeg = 1)]; rfl
  · rw [(by decide : (2 : Int32).toNatClampNeg = 2)]; rfl
  · rw [(by decide : (3 : Int32).toNatClampNeg = 3)]; rfl
theorem own_b3 {j : Int32} (h : j = (0 : Int32) ∨ j = (1 : Int32) ∨ j = (2 : Int32)) : ¬ j < 0 ∧ j < (3 : Int32) := by rcases h with rfl | rfl | rfl <;> decide
theorem own_b4 {j : Int32} (h : j = (0 : Int32) ∨ j = (1 : Int32) ∨ j = (2 : Int32) ∨ j = (3 : Int32)) : ¬ j < 0 ∧ j < (4 : Int32) := by rcases h with rfl | rfl | rfl | rfl <;> decide
def own_c0 (g0 : Addr) : List Addr := [g0]
def own_c1 (g0 g1 : Addr) (P1 : Int32) : List Addr := g1 :: (if P1 < (0 : Int32) then [] else own_c0 g0)
def own_c2 (g0 g1 g2 : Addr) (P1 P2 : Int32) : List Addr := g2 :: (if P2 < (0 : Int32) then [] else if P2 = (0 : Int32) then own_c0 g0 else own_c1 g0 g1 P1)
def own_c3 (g0 g1 g2 g3 : Addr) (P1 P2 P3 : Int32) : List Addr := g3 :: (if P3 < (0 : Int32) then [] else if P3 = (0 : Int32) then own_c0 g0 else if P3 = (1 : Int32) then own_c1 g0 g1 P1 else own_c2 g0 g1 g2 P1 P2)
def own_cb (g0 g1 g2 g3 : Addr) (P1 P2 P3 b : Int32) : List Addr := if b = (0 : Int32) then own_c0 g0 else if b = (1 : Int32) then own_c1 g0 g1 P1 else if b = (2 : Int32) then own_c2 g0 g1 g2 P1 P2 else if b = (3 : Int32) then own_c3 g0 g1 g2 g3 P1 P2 P3 else []
abbrev own_h1 (P : Int32) : Prop := P = (-1 : Int32) ∨ P = (0 : Int32)
abbrev own_h2 (P : Int32) : Prop := P = (-1 : Int32) ∨ P = (0 : Int32) ∨ P = (1 : Int32)
abbrev own_h3 (P : Int32) : Prop := P = (-1 : Int32) ∨ P = (0 : Int32) ∨ P = (1 : Int32) ∨ P = (2 : Int32)
theorem own_chs {Z : State} {h : Heap} {g0 g1 g2 g3 : Addr} {P1 P2 P3 : Int32} (h1 : own_h1 P1) (h2 : own_h2 P2) (h3 : own_h3 P3) (F0 : Fld Z h g0 "com/example/postweave/postweave/view/View" "parent" "Lcom/example/postweave/postweave/view/ViewGroup;" .null) (F1 : Fld Z h g1 "com/example/postweave/postweave/view/View" "parent" "Lcom/example/postweave/postweave/view/ViewGroup;" (own_par g0 g1 g2 g3 P1)) (F2 : Fld Z h g2 "com/example/postweave/postweave/view/View" "parent" "Lcom/example/postweave/postweave/view/ViewGroup;" (own_par g0 g1 g2 g3 P2)) (F3 : Fld Z h g3 "com/example/postweave/postweave/view/View" "parent" "Lcom/example/postweave/postweave/view/ViewGroup;" (own_par g0 g1 g2 g3 P3)) (b : Int32) (hb : b = (0 : Int32) ∨ b = (1 : Int32) ∨ b = (2 : Int32) ∨ b = (3 : Int32) ∨ b = (4 : Int32)) : own_Ch Z h (own_arg g0 g1 g2 g3 b) (own_cb g0 g1 g2 g3 P1 P2 P3 b) := by
  have C0 : own_Ch Z h (.ref g0) (own_c0 g0) := ⟨rfl, .null, F0, rfl⟩
  have C1 : own_Ch Z h (.ref g1) (own_c1 g0 g1 P1) := by
    refine ⟨rfl, _, F1, ?_⟩
    rcases h1 with rfl | rfl
    · exact rfl
    · exact C0
  have C2 : own_Ch Z h (.ref g2) (own_c2 g0 g1 g2 P1 P2) := by
    refine ⟨rfl, _, F2, ?_⟩
    rcases h2 with rfl | rfl | rfl
    · exact rfl
    · exact C0
    · exact C1
  have C3 : own_Ch Z h (.ref g3) (own_c3 g0 g1 g2 g3 P1 P2 P3) := by
    refine ⟨rfl, _, F3, ?_⟩
    rcases h3 with rfl | rfl | rfl | rfl
    · exact rfl
    · exact C0
    · exact C1
    · exact C2
  rcases hb with rfl | rfl | rfl | rfl | rfl
  · exact C0
  · exact C1
  · exact C2
  · exact C3
  · exact rfl
def own_i1 (P1 : Int32) : List Int32 := (1 : Int32) :: (if P1 < (0 : Int32) then [] else [(0 : Int32)])
def own_i2 (P1 P2 : Int32) : List Int32 := (2 : Int32) :: (if P2 < (0 : Int32) then [] else if P2 = (0 : Int32) then [(0 : Int32)] else own_i1 P1)
def own_i3 (P1 P2 P3 : Int32) : List Int32 := (3 : Int32) :: (if P3 < (0 : Int32) then [] else if P3 = (0 : Int32) then [(0 : Int32)] else if P3 = (1 : Int32) then own_i1 P1 else own_i2 P1 P2)
def own_ib (P1 P2 P3 b : Int32) : List Int32 := if b = (0 : Int32) then [(0 : Int32)] else if b = (1 : Int32) then own_i1 P1 else if b = (2 : Int32) then own_i2 P1 P2 else if b = (3 : Int32) then own_i3 P1 P2 P3 else []
abbrev own_j4 (a : Int32) : Prop := a = (0 : Int32) ∨ a = (1 : Int32) ∨ a = (2 : Int32) ∨ a = (3 : Int32)
theorem own_ad_inj {g0 g1 g2 g3 : Addr} (n01 : g0 ≠ g1) (n02 : g0 ≠ g2) (n03 : g0 ≠ g3) (n12 : g1 ≠ g2) (n13 : g1 ≠ g3) (n23 : g2 ≠ g3) {a k : Int32} (ha : own_j4 a) (hk : own_j4 k) (q : own_ad g0 g1 g2 g3 a = own_ad g0 g1 g2 g3 k) : a = k := by
  rcases ha with rfl | rfl | rfl | rfl <;> rcases hk with rfl | rfl | rfl | rfl <;> first | rfl | exact absurd q n01 | exact absurd q n02 | exact absurd q n03 | exact absurd q n12 | exact absurd q n13 | exact absurd q n23 | exact absurd q n01.symm | exact absurd q n02.symm | exact absurd q n03.symm | exact absurd q n12.symm | exact absurd q n13.symm | exact absurd q n23.symm
theorem own_mem {g0 g1 g2 g3 : Addr} (n01 : g0 ≠ g1) (n02 : g0 ≠ g2) (n03 : g0 ≠ g3) (n12 : g1 ≠ g2) (n13 : g1 ≠ g3) (n23 : g2 ≠ g3) {a : Int32} (ha : own_j4 a) : ∀ l : List Int32, (∀ k ∈ l, own_j4 k) → (own_ad g0 g1 g2 g3 a ∈ l.map (own_ad g0 g1 g2 g3) ↔ a ∈ l)
  | [], _ => by simp
  | k :: t, h => by
    have ih := own_mem n01 n02 n03 n12 n13 n23 ha t (fun x hx => h x (List.mem_cons_of_mem _ hx))
    have hk := h k (List.mem_cons_self ..)
    rw [List.map_cons, List.mem_cons, List.mem_cons, ih]
    exact ⟨fun q => q.imp (own_ad_inj n01 n02 n03 n12 n13 n23 ha hk) id, fun q => q.imp (fun e => congrArg _ e) id⟩
theorem own_ib_j {P1 P2 P3 b : Int32} (h1 : own_h1 P1) (h2 : own_h2 P2) (h3 : own_h3 P3) (hb : b = (0 : Int32) ∨ b = (1 : Int32) ∨ b = (2 : Int32) ∨ b = (3 : Int32) ∨ b = (4 : Int32)) : ∀ k ∈ own_ib P1 P2 P3 b, own_j4 k := by
  rcases h1 with rfl | rfl <;> rcases h2 with rfl | rfl | rfl <;> rcases h3 with rfl | rfl | rfl | rfl <;> rcases hb with rfl | rfl | rfl | rfl | rfl <;> decide
theorem own_ib_anc {P1 P2 P3 a b : Int32} (h1 : own_h1 P1) (h2 : own_h2 P2) (h3 : own_h3 P3) (hb : b = (0 : Int32) ∨ b = (1 : Int32) ∨ b = (2 : Int32) ∨ b = (3 : Int32) ∨ b = (4 : Int32)) (ha : own_j4 a) : (if a ∈ own_ib P1 P2 P3 b then (1 : Int32) else (0 : Int32)) = own_anc P1 P2 P3 a b := by
  rcases h1 with rfl | rfl <;> rcases h2 with rfl | rfl | rfl <;> rcases h3 with rfl | rfl | rfl | rfl <;> rcases hb with rfl | rfl | rfl | rfl | rfl <;> rcases ha with rfl | rfl | rfl | rfl <;> decide
theorem own_cb_eq {g0 g1 g2 g3 : Addr} {P1 P2 P3 b : Int32} (h1 : own_h1 P1) (h2 : own_h2 P2) (h3 : own_h3 P3) (hb : b = (0 : Int32) ∨ b = (1 : Int32) ∨ b = (2 : Int32) ∨ b = (3 : Int32) ∨ b = (4 : Int32)) : own_cb g0 g1 g2 g3 P1 P2 P3 b = (own_ib P1 P2 P3 b).map (own_ad g0 g1 g2 g3) := by
  rcases h1 with rfl | rfl <;> rcases h2 with rfl | rfl | rfl <;> rcases h3 with rfl | rfl | rfl | rfl <;> rcases hb with rfl | rfl | rfl | rfl | rfl <;> rfl
theorem own_fin {g0 g1 g2 g3 : Addr} (n01 : g0 ≠ g1) (n02 : g0 ≠ g2) (n03 : g0 ≠ g3) (n12 : g1 ≠ g2) (n13 : g1 ≠ g3) (n23 : g2 ≠ g3) {P1 P2 P3 a b : Int32} (h1 : own_h1 P1) (h2 : own_h2 P2) (h3 : own_h3 P3) (hb : b = (0 : Int32) ∨ b = (1 : Int32) ∨ b = (2 : Int32) ∨ b = (3 : Int32) ∨ b = (4 : Int32)) (ha : own_j4 a) : (if own_ad g0 g1 g2 g3 a ∈ own_cb g0 g1 g2 g3 P1 P2 P3 b then (1 : Int32) else (0 : Int32)) = own_anc P1 P2 P3 a b := by
  rw [← own_ib_anc h1 h2 h3 hb ha, own_cb_eq h1 h2 h3 hb]
  have e := own_mem n01 n02 n03 n12 n13 n23 ha _ (own_ib_j h1 h2 h3 hb)
  by_cases q : a ∈ own_ib P1 P2 P3 b
  · rw [if_pos q, if_pos (e.mpr q)]
  · rw [if_neg q, if_neg (fun x => q (e.mp x))]
theorem own_e1 (q : Int32) : own_h1 ((q &&& (1 : Int32)) - (1 : Int32)) := by
  have h := c_and q 1 (by decide)
  have e1 : (1 : Int32).toInt = 1 := by decide
  have s := c_isub (q &&& 1) 1
  have r := rng32 ((q &&& 1) - 1)
  have t : ((q &&& (1 : Int32)) - (1 : Int32)).toInt = -1 ∨ ((q &&& (1 : Int32)) - (1 : Int32)).toInt = 0 := by omega
  exact t.imp (fun z => Int32.toInt_inj.mp (z.trans (by decide))) (fun z => Int32.toInt_inj.mp (z.trans (by decide)))
theorem own_e3 (u : Int32) : own_h3 ((u &&& (3 : Int32)) - (1 : Int32)) := by
  have h := c_and u 3 (by decide)
  have e1 : (1 : Int32).toInt = 1 := by decide
  have e3 : (3 : Int32).toInt = 3 := by decide
  have s := c_isub (u &&& 3) 1
  have r := rng32 ((u &&& 3) - 1)
  have t : ((u &&& (3 : Int32)) - (1 : Int32)).toInt = -1 ∨ ((u &&& (3 : Int32)) - (1 : Int32)).toInt = 0 ∨ ((u &&& (3 : Int32)) - (1 : Int32)).toInt = 1 ∨ ((u &&& (3 : Int32)) - (1 : Int32)).toInt = 2 := by omega
  rcases t with z | z | z | z
  · exact Or.inl (Int32.toInt_inj.mp (z.trans (by decide)))
  · exact Or.inr (Or.inl (Int32.toInt_inj.mp (z.trans (by decide))))
  · exact Or.inr (Or.inr (Or.inl (Int32.toInt_inj.mp (z.trans (by decide)))))
  · exact Or.inr (Or.inr (Or.inr (Int32.toInt_inj.mp (z.trans (by decide)))))
theorem own_e2 (u : Int32) : own_h2 (((u &&& (3 : Int32)) % (3 : Int32)) - (1 : Int32)) := by
  have h := c_and u 3 (by decide)
  have e1 : (1 : Int32).toInt = 1 := by decide
  have e3 : (3 : Int32).toInt = 3 := by decide
  have m := (c_iremV (u &&& 3) 3).1 h.1 (by decide)
  have s := c_isub ((u &&& 3) % 3) 1
  have r := rng32 (((u &&& 3) % 3) - 1)
  have t : (((u &&& (3 : Int32)) % (3 : Int32)) - (1 : Int32)).toInt = -1 ∨ (((u &&& (3 : Int32)) % (3 : Int32)) - (1 : Int32)).toInt = 0 ∨ (((u &&& (3 : Int32)) % (3 : Int32)) - (1 : Int32)).toInt = 1 := by omega
  rcases t with z | z | z
  · exact Or.inl (Int32.toInt_inj.mp (z.trans (by decide)))
  · exact Or.inr (Or.inl (Int32.toInt_inj.mp (z.trans (by decide))))
  · exact Or.inr (Or.inr (Int32.toInt_inj.mp (z.trans (by decide))))
theorem own_ea (u : Int32) : own_j4 (u &&& (3 : Int32)) := by
  have h := c_and u 3 (by decide)
  have e3 : (3 : Int32).toInt = 3 := by decide
  exact own_cases4 _ ⟨h.1, by have e4 : (4 : Int32).toInt = 4 := by decide
                              omega⟩
theorem own_eb (u : Int32) : ((u &&& (7 : Int32)) % (5 : Int32)) = (0 : Int32) ∨ ((u &&& (7 : Int32)) % (5 : Int32)) = (1 : Int32) ∨ ((u &&& (7 : Int32)) % (5 : Int32)) = (2 : Int32) ∨ ((u &&& (7 : Int32)) % (5 : Int32)) = (3 : Int32) ∨ ((u &&& (7 : Int32)) % (5 : Int32)) = (4 : Int32) := by
  have h := c_and u 7 (by decide)
  have m := (c_iremV (u &&& 7) 5).1 h.1 (by decide)
  exact own_cases5 _ ⟨m.1, m.2.1⟩
theorem own_pos2 {P : Int32} (h : own_h1 P) (n : ¬ P < (0 : Int32)) : P = (0 : Int32) ∨ P = (1 : Int32) ∨ P = (2 : Int32) := by rcases h with rfl | rfl <;> first | exact absurd (by decide) n | exact Or.inl rfl
theorem own_pos3 {P : Int32} (h : own_h2 P) (n : ¬ P < (0 : Int32)) : P = (0 : Int32) ∨ P = (1 : Int32) ∨ P = (2 : Int32) := by rcases h with rfl | rfl | rfl <;> first | exact absurd (by decide) n | exact Or.inl rfl | exact Or.inr (Or.inl rfl)
theorem own_pos4 {P : Int32} (h : own_h3 P) (n : ¬ P < (0 : Int32)) : P = (0 : Int32) ∨ P = (1 : Int32) ∨ P = (2 : Int32) := by rcases h with rfl | rfl | rfl | rfl <;> first | exact absurd (by decide) n | exact Or.inl rfl | exact Or.inr (Or.inl rfl) | exact Or.inr (Or.inr rfl)
theorem own_lt4 {P : Int32} (h : own_h3 P) : P < (4 : Int32) := by rcases h with rfl | rfl | rfl | rfl <;> decide
theorem own_h13 {P : Int32} (h : own_h1 P) : own_h3 P := h.imp id Or.inl
theorem own_h23 {P : Int32} (h : own_h2 P) : own_h3 P := h.imp id (Or.imp id Or.inl)
theorem own_bj {b : Int32} (hb : b = (0 : Int32) ∨ b = (1 : Int32) ∨ b = (2 : Int32) ∨ b = (3 : Int32) ∨ b = (4 : Int32)) (n : b < (4 : Int32)) : own_j4 b := by rcases hb with rfl | rfl | rfl | rfl | rfl <;> first | exact absurd n (by decide) | (simp [own_j4]; done) | decide
theorem own_b4j {b : Int32} (hb : b = (0 : Int32) ∨ b = (1 : Int32) ∨ b = (2 : Int32) ∨ b = (3 : Int32) ∨ b = (4 : Int32)) (n : ¬ b = (4 : Int32)) : ¬ b < 0 ∧ b < (4 : Int32) := by rcases hb with rfl | rfl | rfl | rfl | rfl <;> first | exact absurd rfl n | decide
theorem own_a3 {a : Int32} (h : own_j4 a) (n : ¬ a = (3 : Int32)) : a = (0 : Int32) ∨ a = (1 : Int32) ∨ a = (2 : Int32) := by rcases h with rfl | rfl | rfl | rfl <;> first | exact absurd rfl n | exact Or.inl rfl | exact Or.inr (Or.inl rfl) | exact Or.inr (Or.inr rfl)
theorem own_adE {Z : State} {h : Heap} {g0 g1 g2 g3 : Addr} {C : String} (E0 : Exa Z h g0 C) (E1 : Exa Z h g1 C) (E2 : Exa Z h g2 C) {a : Int32} (ha : a = (0 : Int32) ∨ a = (1 : Int32) ∨ a = (2 : Int32)) : Exa Z h (own_ad g0 g1 g2 g3 a) C := by rcases ha with rfl | rfl | rfl <;> assumption
theorem own_adE3 {Z : State} {h : Heap} {g0 g1 g2 g3 : Addr} {C : String} (E : Exa Z h g3 C) {a : Int32} (ha : a = (3 : Int32)) : Exa Z h (own_ad g0 g1 g2 g3 a) C := by subst ha; exact E
def Q_rm0 (n0 : Nat) (v : Option Value) (h : Heap) (L : List Loc) : Prop := v = some (.int 1) ∧ Fr n0 L
set_option maxRecDepth 65536 in
set_option maxHeartbeats 40000000 in
theorem rm0 (l : Launch) (Z : State) (a0 : Array Value) (hw : ∀ d ∈ tables_1, d.before a0 Z = true) (ws : List Jvm.Cond) (q0 q1 P1 P2 P3 A B : Int32) (ni nmi nv de mA mL mR : Addr) (h0 : Heap) (n0 : Nat) (O0 : Old Z n0 h0) (S_ni : Sta Z Z.heap "com/example/postweave/postweave/util/TimedList" "NO_ITEMS" "[Ljava/lang/Object;" (.ref ni)) (S_nm : Sta Z Z.heap "com/example/postweave/postweave/util/TimedList" "NO_MILLIS" "[J" (.ref nmi)) (S_nv : Sta Z Z.heap "com/example/postweave/postweave/view/ViewGroup" "NO_VIEWS" "[Lcom/example/postweave/postweave/view/View;" (.ref nv)) (S_de : Sta Z Z.heap "java/util/ArrayList" "DEFAULTCAPACITY_EMPTY_ELEMENTDATA" "[Ljava/lang/Object;" (.ref de)) (M_A : Mir Z "java/util/ArrayList" mA) (M_L : Mir Z "java/util/Collections$UnmodifiableList" mL) (M_R : Mir Z "java/util/Collections$UnmodifiableRandomAccessList" mR) (eP1 : P1 = ((q0 &&& (1 : Int32)) - (1 : Int32))) (eP2 : P2 = (((((q0.toUInt32 >>> ((1 : Int32) &&& 31).toUInt32).toInt32) &&& (3 : Int32)) % (3 : Int32)) - (1 : Int32))) (eP3 : P3 = ((((q0.toUInt32 >>> ((3 : Int32) &&& 31).toUInt32).toInt32) &&& (3 : Int32)) - (1 : Int32))) (eA : A = (q1 &&& (3 : Int32))) (eB : B = ((((q1.toUInt32 >>> ((2 : Int32) &&& 31).toUInt32).toInt32) &&& (7 : Int32)) % (5 : Int32))) (hp1 : own_h1 P1) (hp2 : own_h2 P2) (hp3 : own_h3 P3) (hA : own_j4 A) (hB : B = (0 : Int32) ∨ B = (1 : Int32) ∨ B = (2 : Int32) ∨ B = (3 : Int32) ∨ B = (4 : Int32)) :
    MetFree l x (head1 (Jvm.Cond.code x code maxLocals ret :: ws) room_1) (fun ar U => ar = #[(.int q0), (.int q1)] ∧ Z.Warmed39 U.vm ∧ U.heap = h0) (fun _ _ _ _ _ => True) (fun _ U o U' => ∃ v L, o = .returned v ∧ Q_rm0 n0 v U'.heap L ∧ FrameEnd U o U' L room_1.cells room_1.slots) := by
  refine own_enter (Q := (Q_rm0 n0)) pl_0 ?_
  intro p e s m below meth c s₁ X0 hx hZ hby hml hown hnm hret hlk e0 hnamed
  have N0 := Fr.nil n0
  refine own_by (fun tz kz => castTop (g' := (mkF m 0 #[.val (.int q0), .val (.int q1), .unset, .unset, .unset, .unset, .unset, .unset, .unset, .unset, .unset, .unset, .unset, .unset, .unset, .unset, .unset] [])) (by first | (simp [entryFrame, mkF, argsToLocals, Value.category, maxLocals]; done) | rfl) kz) ?_
  have K0 := Keep.refl h0 []
  show own_Go p e below s _ _ (s₁.setTop (mkF m 0 #[.val (.int q0), .val (.int q1), .unset, .unset, .unset, .unset, .unset, .unset, .unset, .unset, .unset, .unset, .unset, .unset, .unset, .unset, .unset] []))
  refine own_by (fun tz kz => XS.iloadN X0.here hx rfl (hb hby at_0) rfl  kz) ?_
  show own_Go p e below s _ _ (s₁.setTop (mkF m 1 #[.val (.int q0), .val (.int q1), .unset, .unset, .unset, .unset, .unset, .unset, .unset, .unset, .unset, .unset, .unset, .unset, .unset, .unset, .unset] [(.int q0)]))
  refine own_by (fun tz kz => XS.iconst X0.here hx rfl (hb hby at_1) kz) ?_
  show own_Go p e below s _ _ (s₁.setTop (mkF m 2 #[.val (.int q0), .val (.int q1), .unset, .unset, .unset, .unset, .unset, .unset, .unset, .unset, .unset, .unset, .unset, .unset, .unset, .unset, .unset] [(.int (1 : Int32)), (.int q0)]))
  refine own_by (fun tz kz => XS.iand X0.here hx rfl (hb hby at_2) rfl kz) ?_
  show own_Go p e below s _ _ (s₁.setTop (mkF m 3 #[.val (.int q0), .val (.int q1), .unset, .unset, .unset, .unset, .unset, .unset, .unset, .unset, .unset, .unset, .unset, .unset, .unset, .unset, .unset] [(.int (q0 &&& (1 : Int32)))]))
  refine own_by (fun tz kz => XS.iconst X0.here hx rfl (hb hby at_3) kz) ?_
  show own_Go p e below s _ _ (s₁.setTop (mkF m 4 #[.val (.int q0), .val (.int q1), .unset, .unset, .unset, .unset, .unset, .unset, .unset, .unset, .unset, .unset, .unset, .unset, .unset, .unset, .unset] [(.int (1 : Int32)), (.int (q0 &&& (1 : Int32)))]))
  refine own_by (fun tz kz => XS.isub X0.here hx rfl (hb hby at_4) rfl kz) ?_
  show own_Go p e below s _ _ (s₁.setTop (mkF m 5 #[.val (.int q0), .val (.int q1), .unset, .unset, .unset, .unset, .unset, .unset, .unset, .unset, .unset, .unset, .unset, .unset, .unset, .unset, .unset] [(.int ((q0 &&& (1 : Int32)) - (1 : Int32)))]))
  refine own_by (fun tz kz => XS.istoreN X0.here hx rfl (hb hby at_5) rfl (l' := #[.val (.int q0), .val (.int q1), .val (.int ((q0 &&& (1 : Int32)) - (1 : Int32))), .unset, .unset, .unset, .unset, .unset, .unset, .unset, .unset, .unset, .unset, .unset, .unset, .unset, .unset]) rfl kz) ?_
  rw [← eP1]
  show own_Go p e below s _ _ (s₁.setTop (mkF m 6 #[.val (.int q0), .val (.int q1), .val (.int P1), .unset, .unset, .unset, .unset, .unset, .unset, .unset, .unset, .unset, .unset, .unset, .unset, .unset, .unset] []))
  refine own_by (fun tz kz => XS.iloadN X0.here hx rfl (hb hby at_6) rfl  kz) ?_
  show own_Go p e below s _ _ (s₁.setTop (mkF m 7 #[.val (.int q0), .val (.int q1), .val (.int P1), .unset, .unset, .unset, .unset, .unset, .unset, .unset, .unset, .unset, .unset, .unset, .unset, .unset, .unset] [(.int q0)]))
  refine own_by (fun tz kz => XS.iconst X0.here hx rfl (hb hby at_7) kz) ?_
  show own_Go p e below s _ _ (s₁.setTop (mkF m 8 #[.val (.int q0), .val (.int q1), .val (.int P1), .unset, .unset, .unset, .unset, .unset, .unset, .unset, .unset, .unset, .unset, .unset, .unset, .unset, .unset] [(.int (1 : Int32)), (.int q0)]))
  refine own_by (fun tz kz => XS.iushr X0.here hx rfl (hb hby at_8) rfl kz) ?_
  show own_Go p e below s _ _ (s₁.setTop (mkF m 9 #[.val (.int q0), .val (.int q1), .val (.int P1), .unset, .unset, .unset, .unset, .unset, .unset, .unset, .unset, .unset, .unset, .unset, .unset, .unset, .unset] [(.int ((q0.toUInt32 >>> ((1 : Int32) &&& 31).toUInt32).toInt32))]))
  refine own_by (fun tz kz => XS.iconst X0.here hx rfl (hb hby at_9) kz) ?_
  show own_Go p e below s _ _ (s₁.setTop (mkF m 10 #[.val (.int q0), .val (.int q1), .val (.int P1), .unset, .unset, .unset, .unset, .unset, .unset, .unset, .unset, .unset, .unset, .unset, .unset, .unset, .unset] [(.int (3 : Int32)), (.int ((q0.toUInt32 >>> ((1 : Int32) &&& 31).toUInt32).toInt32))]))
  refine own_by (fun tz kz => XS.iand X0.here hx rfl (hb hby at_10) rfl kz) ?_
  show own_Go p e below s _ _ (s₁.setTop (mkF m 11 #[.val (.int q0), .val (.int q1), .val (.int P1), .unset, .unset, .unset, .unset, .unset, .unset, .unset, .unset, .unset, .unset, .unset, .unset, .unset, .unset] [(.int (((q0.toUInt32 >>> ((1 : Int32) &&& 31).toUInt32).toInt32) &&& (3 : Int32)))]))
  refine own_by (fun tz kz => XS.iconst X0.here hx rfl (hb hby at_11) kz) ?_
  show own_Go p e below s _ _ (s₁.setTop (mkF m 12 #[.val (.int q0), .val (.int q1), .val (.int P1), .unset, .unset, .unset, .unset, .unset, .unset, .unset, .unset, .unset, .unset, .unset, .unset, .unset, .unset] [(.int (3 : Int32)), (.int (((q0.toUInt32 >>> ((1 : Int32) &&& 31).toUInt32).toInt32) &&& (3 : Int32)))]))
  refine own_by (fun tz kz => iremM X0 hx rfl (hb hby at_12) rfl (by decide) kz) ?_
  show own_Go p e below s _ _ (s₁.setTop (mkF m 13 #[.val (.int q0), .val (.int q1), .val (.int P1), .unset, .unset, .unset, .unset, .unset, .unset, .unset, .unset, .unset, .unset, .unset, .unset, .unset, .unset] [(.int ((((q0.toUInt32 >>> ((1 : Int32) &&& 31).toUInt32).toInt32) &&& (3 : Int32)) % (3 : Int32)))]))
  refine own_by (fun tz kz => XS.iconst X0.here hx rfl (hb hby at_13) kz) ?_
  show own_Go p e below s _ _ (s₁.setTop (mkF m 14 #[.val (.int q0), .val (.int q1), .val (.int P1), .unset, .unset, .unset, .unset, .unset, .unset, .unset, .unset, .unset, .unset, .unset, .unset, .unset, .unset] [(.int (1 : Int32)), (.int ((((q0.toUInt32 >>> ((1 : Int32) &&& 31).toUInt32).toInt32) &&& (3 : Int32)) % (3 : Int32)))]))
  refine own_by (fun tz kz => XS.isub X0.here hx rfl (hb hby at_14) rfl kz) ?_
  show own_Go p e below s _ _ (s₁.setTop (mkF m 15 #[.val (.int q0), .val (.int q1), .val (.int P1), .unset, .unset, .unset, .unset, .unset, .unset, .unset, .unset, .unset, .unset, .unset, .unset, .unset, .unset] [(.int (((((q0.toUInt32 >>> ((1 : Int32) &&& 31).toUInt32).toInt32) &&& (3 : Int32)) % (3 : Int32)) - (1 : Int32)))]))
  refine own_by (fun tz kz => XS.istoreN X0.here hx rfl (hb hby at_15) rfl (l' := #[.val (.int q0), .val (.int q1), .val (.int P1), .val (.int (((((q0.toUInt32 >>> ((1 : Int32) &&& 31).toUInt32).toInt32) &&& (3 : Int32)) % (3 : Int32)) - (1 : Int32))), .unset, .unset, .unset, .unset, .unset, .unset, .unset, .unset, .unset, .unset, .unset, .unset, .unset]) rfl kz) ?_
  rw [← eP2]
  show own_Go p e below s _ _ (s₁.setTop (mkF m 16 #[.val (.int q0), .val (.int q1), .val (.int P1), .val (.int P2), .unset, .unset, .unset, .unset, .unset, .unset, .unset, .unset, .unset, .unset, .unset, .unset, .unset] []))
  refine own_by (fun tz kz => XS.iloadN X0.here hx rfl (hb hby at_16) rfl  kz) ?_
  show own_Go p e below s _ _ (s₁.setTop (mkF m 17 #[.val (.int q0), .val (.int q1), .val (.int P1), .val (.int P2), .unset, .unset, .unset, .unset, .unset, .unset, .unset, .unset, .unset, .unset, .unset, .unset, .unset] [(.int q0)]))
  refine own_by (fun tz kz => XS.iconst X0.here hx rfl (hb hby at_17) kz) ?_
  show own_Go p e below s _ _ (s₁.setTop (mkF m 18 #[.val (.int q0), .val (.int q1), .val (.int P1), .val (.int P2), .unset, .unset, .unset, .unset, .unset, .unset, .unset, .unset, .unset, .unset, .unset, .unset, .unset] [(.int (3 : Int32)), (.int q0)]))
  refine own_by (fun tz kz => XS.iushr X0.here hx rfl (hb hby at_18) rfl kz) ?_
  show own_Go p e below s _ _ (s₁.setTop (mkF m 19 #[.val (.int q0), .val (.int q1), .val (.int P1), .val (.int P2), .unset, .unset, .unset, .unset, .unset, .unset, .unset, .unset, .unset, .unset, .unset, .unset, .unset] [(.int ((q0.toUInt32 >>> ((3 : Int32) &&& 31).toUInt32).toInt32))]))
  refine own_by (fun tz kz => XS.iconst X0.here hx rfl (hb hby at_19) kz) ?_
  show own_Go p e below s _ _ (s₁.setTop (mkF m 20 #[.val (.int q0), .val (.int q1), .val (.int P1), .val (.int P2), .unset, .unset, .unset, .unset, .unset, .unset, .unset, .unset, .unset, .unset, .unset, .unset, .unset] [(.int (3 : Int32)), (.int ((q0.toUInt32 >>> ((3 : Int32) &&& 31).toUInt32).toInt32))]))
  refine own_by (fun tz kz => XS.iand X0.here hx rfl (hb hby at_20) rfl kz) ?_
  show own_Go p e below s _ _ (s₁.setTop (mkF m 21 #[.val (.int q0), .val (.int q1), .val (.int P1), .val (.int P2), .unset, .unset, .unset, .unset, .unset, .unset, .unset, .unset, .unset, .unset, .unset, .unset, .unset] [(.int (((q0.toUInt32 >>> ((3 : Int32) &&& 31).toUInt32).toInt32) &&& (3 : Int32)))]))
  refine own_by (fun tz kz => XS.iconst X0.here hx rfl (hb hby at_21) kz) ?_
  show own_Go p e below s _ _ (s₁.setTop (mkF m 22 #[.val (.int q0), .val (.int q1), .val (.int P1), .val (.int P2), .unset, .unset, .unset, .unset, .unset, .unset, .unset, .unset, .unset, .unset, .unset, .unset, .unset] [(.int (1 : Int32)), (.int (((q0.toUInt32 >>> ((3 : Int32) &&& 31).toUInt32).toInt32) &&& (3 : Int32)))]))
  refine own_by (fun tz kz => XS.isub X0.here hx rfl (hb hby at_22) rfl kz) ?_
  show own_Go p e below s _ _ (s₁.setTop (mkF m 23 #[.val (.int q0), .val (.int q1), .val (.int P1), .val (.int P2), .unset, .unset, .unset, .unset, .unset, .unset, .unset, .unset, .unset, .unset, .unset, .unset, .unset] [(.int ((((q0.toUInt32 >>> ((3 : Int32) &&& 31).toUInt32).toInt32) &&& (3 : Int32)) - (1 : Int32)))]))
  refine own_by (fun tz kz => XS.istore X0.here hx rfl (hb hby at_23) rfl (l' := #[.val (.int q0), .val (.int q1), .val (.int P1), .val (.int P2), .val (.int ((((q0.toUInt32 >>> ((3 : Int32) &&& 31).toUInt32).toInt32) &&& (3 : Int32)) - (1 : Int32))), .unset, .unset, .unset, .unset, .unset, .unset, .unset, .unset, .unset, .unset, .unset, .unset]) rfl kz) ?_
  rw [← eP3]
  show own_Go p e below s _ _ (s₁.setTop (mkF m 25 #[.val (.int q0), .val (.int q1), .val (.int P1), .val (.int P2), .val (.int P3), .unset, .unset, .unset, .unset, .unset, .unset, .unset, .unset, .unset, .unset, .unset, .unset] []))
  refine own_by (fun tz kz => XS.iloadN X0.here hx rfl (hb hby at_25) rfl  kz) ?_
  show own_Go p e below s _ _ (s₁.setTop (mkF m 26 #[.val (.int q0), .val (.int q1), .val (.int P1), .val (.int P2), .val (.int P3), .unset, .unset, .unset, .unset, .unset, .unset, .unset, .unset, .unset, .unset, .unset, .unset] [(.int q1)]))
  refine own_by (fun tz kz => XS.iconst X0.here hx rfl (hb hby at_26) kz) ?_
  show own_Go p e below s _ _ (s₁.setTop (mkF m 27 #[.val (.int q0), .val (.int q1), .val (.int P1), .val (.int P2), .val (.int P3), .unset, .unset, .unset, .unset, .unset, .unset, .unset, .unset, .unset, .unset, .unset, .unset] [(.int (3 : Int32)), (.int q1)]))
  refine own_by (fun tz kz => XS.iand X0.here hx rfl (hb hby at_27) rfl kz) ?_
  show own_Go p e below s _ _ (s₁.setTop (mkF m 28 #[.val (.int q0), .val (.int q1), .val (.int P1), .val (.int P2), .val (.int P3), .unset, .unset, .unset, .unset, .unset, .unset, .unset, .unset, .unset, .unset, .unset, .unset] [(.int (q1 &&& (3 : Int32)))]))
  refine own_by (fun tz kz => XS.istore X0.here hx rfl (hb hby at_28) rfl (l' := #[.val (.int q0), .val (.int q1), .val (.int P1), .val (.int P2), .val (.int P3), .val (.int (q1 &&& (3 : Int32))), .unset, .unset, .unset, .unset, .unset, .unset, .unset, .unset, .unset, .unset, .unset]) rfl kz) ?_
  rw [← eA]
  show own_Go p e below s _ _ (s₁.setTop (mkF m 30 #[.val (.int q0), .val (.int q1), .val (.int P1), .val (.int P2), .val (.int P3), .val (.int A), .unset, .unset, .unset, .unset, .unset, .unset, .unset, .unset, .unset, .unset, .unset] []))
  refine own_by (fun tz kz => XS.iloadN X0.here hx rfl (hb hby at_30) rfl  kz) ?_
  show own_Go p e below s _ _ (s₁.setTop (mkF m 31 #[.val (.int q0), .val (.int q1), .val (.int P1), .val (.int P2), .val (.int P3), .val (.int A), .unset, .unset, .unset, .unset, .unset, .unset, .unset, .unset, .unset, .unset, .unset] [(.int q1)]))
  refine own_by (fun tz kz => XS.iconst X0.here hx rfl (hb hby at_31) kz) ?_
  show own_Go p e below s _ _ (s₁.setTop (mkF m 32 #[.val (.int q0), .val (.int q1), .val (.int P1), .val (.int P2), .val (.int P3), .val (.int A), .unset, .unset, .unset, .unset, .unset, .unset, .unset, .unset, .unset, .unset, .unset] [(.int (2 : Int32)), (.int q1)]))
  refine own_by (fun tz kz => XS.iushr X0.here hx rfl (hb hby at_32) rfl kz) ?_
  show own_Go p e below s _ _ (s₁.setTop (mkF m 33 #[.val (.int q0), .val (.int q1), .val (.int P1), .val (.int P2), .val (.int P3), .val (.int A), .unset, .unset, .unset, .unset, .unset, .unset, .unset, .unset, .unset, .unset, .unset] [(.int ((q1.toUInt32 >>> ((2 : Int32) &&& 31).toUInt32).toInt32))]))
  refine own_by (fun tz kz => XS.bipush X0.here hx rfl (hb hby at_33) kz) ?_
  show own_Go p e below s _ _ (s₁.setTop (mkF m 35 #[.val (.int q0), .val (.int q1), .val (.int P1), .val (.int P2), .val (.int P3), .val (.int A), .unset, .unset, .unset, .unset, .unset, .unset, .unset, .unset, .unset, .unset, .unset] [(.int (7 : Int32)), (.int ((q1.toUInt32 >>> ((2 : Int32) &&& 31).toUInt32).toInt32))]))
  refine own_by (fun tz kz => XS.iand X0.here hx rfl (hb hby at_35) rfl kz) ?_
  show own_Go p e below s _ _ (s₁.setTop (mkF m 36 #[.val (.int q0), .val (.int q1), .val (.int P1), .val (.int P2), .val (.int P3), .val (.int A), .unset, .unset, .unset, .unset, .unset, .unset, .unset, .unset, .unset, .unset, .unset] [(.int (((q1.toUInt32 >>> ((2 : Int32) &&& 31).toUInt32).toInt32) &&& (7 : Int32)))]))
  refine own_by (fun tz kz => XS.iconst X0.here hx rfl (hb hby at_36) kz) ?_
  show own_Go p e below s _ _ (s₁.setTop (mkF m 37 #[.val (.int q0), .val (.int q1), .val (.int P1), .val (.int P2), .val (.int P3), .val (.int A), .unset, .unset, .unset, .unset, .unset, .unset, .unset, .unset, .unset, .unset, .unset] [(.int (5 : Int32)), (.int (((q1.toUInt32 >>> ((2 : Int32) &&& 31).toUInt32).toInt32) &&& (7 : Int32)))]))
  refine own_by (fun tz kz => iremM X0 hx rfl (hb hby at_37) rfl (by decide) kz) ?_
  show own_Go p e below s _ _ (s₁.setTop (mkF m 38 #[.val (.int q0), .val (.int q1), .val (.int P1), .val (.int P2), .val (.int P3), .val (.int A), .unset, .unset, .unset, .unset, .unset, .unset, .unset, .unset, .unset, .unset, .unset] [(.int ((((q1.toUInt32 >>> ((2 : Int32) &&& 31).toUInt32).toInt32) &&& (7 : Int32)) % (5 : Int32)))]))
  refine own_by (fun tz kz => XS.istore X0.here hx rfl (hb hby at_38) rfl (l' := #[.val (.int q0), .val (.int q1), .val (.int P1), .val (.int P2), .val (.int P3), .val (.int A), .val (.int ((((q1.toUInt32 >>> ((2 : Int32) &&& 31).toUInt32).toInt32) &&& (7 : Int32)) % (5 : Int32))), .unset, .unset, .unset, .unset, .unset, .unset, .unset, .unset, .unset, .unset]) rfl kz) ?_
  rw [← eB]
  show own_Go p e below s _ _ (s₁.setTop (mkF m 40 #[.val (.int q0), .val (.int q1), .val (.int P1), .val (.int P2), .val (.int P3), .val (.int A), .val (.int B), .unset, .unset, .unset, .unset, .unset, .unset, .unset, .unset, .unset, .unset] []))
  obtain ⟨T1, h1, X1, e1, E1, A1, D1, -, st1⟩ := newO X0 hx hZ hown (hw _ (List.mem_of_getElem? (i := 0) rfl)) (hw _ (List.mem_of_getElem? (i := 1) rfl)) (hw _ (List.mem_of_getElem? (i := 2) rfl)) e0 (g := (mkF m 40 #[.val (.int q0), .val (.int q1), .val (.int P1), .val (.int P2), .val (.int P3), .val (.int A), .val (.int B), .unset, .unset, .unset, .unset, .unset, .unset, .unset, .unset, .unset, .unset] [])) rfl (hb hby at_40) (by decide) (by decide)
  obtain ⟨b1, g1⟩ : ∃ z, z = h0.size := ⟨_, rfl⟩
  rw [← g1] at A1 D1 st1
  have g_b1 : n0 ≤ b1 := by rw [g1]; exact O0.1 ▸ O0.2.1
  have sz_b1 : h0.size ≤ b1 := by rw [g1]; exact K0.1
  have O1 := O0.ext E1
  have K1 := K0.ext E1
  refine own_by st1 ?_
  have F1_posts : Fld Z h1 b1 "com/example/postweave/postweave/view/View" "posts" "Lcom/example/postweave/postweave/view/ViewPosts;" .null := D1 (Or.inr (hw _ (List.mem_of_getElem? (i := 53) rfl))) (ty := (.object "com/example/postweave/postweave/view/ViewPosts")) (by decide)
  have F1_fixedWidth : Fld Z h1 b1 "com/example/postweave/postweave/view/View" "fixedWidth" "I" (.int (0 : Int32)) := D1 (Or.inl (hw _ (List.mem_of_getElem? (i := 58) rfl))) (ty := .int) (by decide)
  have F1_fixedHeight : Fld Z h1 b1 "com/example/postweave/postweave/view/View" "fixedHeight" "I" (.int (0 : Int32)) := D1 (Or.inl (hw _ (List.mem_of_getElem? (i := 60) rfl))) (ty := .int) (by decide)
  have F1_children : Fld Z h1 b1 "com/example/postweave/postweave/view/ViewGroup" "children" "Ljava/util/List;" .null := D1 (Or.inr (hw _ (List.mem_of_getElem? (i := 86) rfl))) (ty := (.object "java/util/List")) (by decide)
  have F1_readOnlyChildren : Fld Z h1 b1 "com/example/postweave/postweave/view/ViewGroup" "readOnlyChildren" "Ljava/util/List;" .null := D1 (Or.inr (hw _ (List.mem_of_getElem? (i := 131) rfl))) (ty := (.object "java/util/List")) (by decide)
  have F1_walkedChildren : Fld Z h1 b1 "com/example/postweave/postweave/view/ViewGroup" "walkedChildren" "[Lcom/example/postweave/postweave/view/View;" .null := D1 (Or.inl (hw _ (List.mem_of_getElem? (i := 135) rfl))) (ty := (.array (.object "com/example/postweave/postweave/view/View"))) (by decide)
  have F1_parent : Fld Z h1 b1 "com/example/postweave/postweave/view/View" "parent" "Lcom/example/postweave/postweave/view/ViewGroup;" .null := D1 (Or.inl (hw _ (List.mem_of_getElem? (i := 148) rfl))) (ty := (.object "com/example/postweave/postweave/view/ViewGroup")) (by decide)
  show own_Go p e below s _ _ (T1.setTop (mkF m 43 #[.val (.int q0), .val (.int q1), .val (.int P1), .val (.int P2), .val (.int P3), .val (.int A), .val (.int B), .unset, .unset, .unset, .unset, .unset, .unset, .unset, .unset, .unset, .unset] [(.ref b1)]))
  refine own_by (fun tz kz => XS.dup X1.here hx rfl (hb hby at_43) rfl rfl kz) ?_
  show own_Go p e below s _ _ (T1.setTop (mkF m 44 #[.val (.int q0), .val (.int q1), .val (.int P1), .val (.int P2), .val (.int P3), .val (.int A), .val (.int B), .unset, .unset, .unset, .unset, .unset, .unset, .unset, .unset, .unset, .unset] [(.ref b1), (.ref b1)]))
  refine own_by (fun tz kz => XS.iconst X1.here hx rfl (hb hby at_44) kz) ?_
  show own_Go p e below s _ _ (T1.setTop (mkF m 45 #[.val (.int q0), .val (.int q1), .val (.int P1), .val (.int P2), .val (.int P3), .val (.int A), .val (.int B), .unset, .unset, .unset, .unset, .unset, .unset, .unset, .unset, .unset, .unset] [(.int (1 : Int32)), (.ref b1), (.ref b1)]))
  refine own_by (fun tz kz => XS.iconst X1.here hx rfl (hb hby at_45) kz) ?_
  show own_Go p e below s _ _ (T1.setTop (mkF m 46 #[.val (.int q0), .val (.int q1), .val (.int P1), .val (.int P2), .val (.int P3), .val (.int A), .val (.int B), .unset, .unset, .unset, .unset, .unset, .unset, .unset, .unset, .unset, .unset] [(.int (2 : Int32)), (.int (1 : Int32)), (.ref b1), (.ref b1)]))
  obtain ⟨_, _, ⟨T2, L2, k2, n2⟩, -, X2, ⟨Lc2, hQ2, l2, y2, z2⟩, st2⟩ := X1.specialBack hx (y := (⟨"com/example/postweave/postweave/view/ViewGroup", "<init>", "(II)V"⟩ : MethodName)) rfl hown (mvT hZ (hw _ (List.mem_of_getElem? (i := 3) rfl))) (mvT hZ (hw _ (List.mem_of_getElem? (i := 4) rfl))) (mvT hZ (hw _ (List.mem_of_getElem? (i := 5) rfl))) (by decide) (backOf (W := 1) (rm_VG l Z a0 hw [] b1 (1 : Int32) (2 : Int32) ni nmi nv de mA mL mR h1 n0 O1 A1 F1_posts F1_fixedWidth F1_fixedHeight F1_parent F1_children F1_readOnlyChildren F1_walkedChildren g_b1 S_ni S_nm S_nv S_de M_A M_L M_R (by decide) (by decide)) hZ (hw _ (List.mem_of_getElem? (i := 5) rfl)) (hw _ (List.mem_of_getElem? (i := 2) rfl)) (by decide) (by decide)) (g := (mkF m 46 #[.val (.int q0), .val (.int q1), .val (.int P1), .val (.int P2), .val (.int P3), .val (.int A), .val (.int B), .unset, .unset, .unset, .unset, .unset, .unset, .unset, .unset, .unset, .unset] [(.int (2 : Int32)), (.int (1 : Int32)), (.ref b1), (.ref b1)])) rfl (by rw [hml]; rfl) (Steps.refl _) (a := b1) (argsL := [(.int (1 : Int32)), (.int (2 : Int32))]) (rest := [(.ref b1)]) (lenOf pd_0 rfl) rfl (by show 2 * 0 + _ ≤ _; exact Nat.le_of_eq rfl) (hb hby at_46) (fun _ _ => ⟨rfl, e1, (by decide : 1 + 7 ≤ _), (by decide : 10 + 19 ≤ _)⟩)
  dsimp only [Pt.U, Pt.locs, Pt.cells, Pt.slots] at X2 l2 y2 z2 st2 hQ2
  rw [l2, y2, z2] at X2
  obtain ⟨rfl, Nq2, Kq2, Fp2⟩ := hQ2
  have N2 := Fr.app N0 Nq2
  have e2 : T2.heap = T2.heap := rfl
  refine own_via st2 ?_
  have O2 := O1.keep Kq2 (allS g_b1 all0)
  have K2 := K1.trans Kq2 (allS (Or.inr sz_b1) all0)
  show own_Go p e below s _ _ (T2.setTop (mkF m 49 #[.val (.int q0), .val (.int q1), .val (.int P1), .val (.int P2), .val (.int P3), .val (.int A), .val (.int B), .unset, .unset, .unset, .unset, .unset, .unset, .unset, .unset, .unset, .unset] [(.ref b1)]))
  refine own_by (fun tz kz => XS.astore X2.here hx rfl (hb hby at_49) rfl rfl (l' := #[.val (.int q0), .val (.int q1), .val (.int P1), .val (.int P2), .val (.int P3), .val (.int A), .val (.int B), .val (.ref b1), .unset, .unset, .unset, .unset, .unset, .unset, .unset, .unset, .unset]) rfl kz) ?_
  show own_Go p e below s _ _ (T2.setTop (mkF m 51 #[.val (.int q0), .val (.int q1), .val (.int P1), .val (.int P2), .val (.int P3), .val (.int A), .val (.int B), .val (.ref b1), .unset, .unset, .unset, .unset, .unset, .unset, .unset, .unset, .unset] []))
  obtain ⟨T3, h3, X3, e3, E3, A3, D3, -, st3⟩ := newO X2 hx hZ hown (hw _ (List.mem_of_getElem? (i := 0) rfl)) (hw _ (List.mem_of_getElem? (i := 1) rfl)) (hw _ (List.mem_of_getElem? (i := 2) rfl)) e2 (g := (mkF m 51 #[.val (.int q0), .val (.int q1), .val (.int P1), .val (.int P2), .val (.int P3), .val (.int A), .val (.int B), .val (.ref b1), .unset, .unset, .unset, .unset, .unset, .unset, .unset, .unset, .unset] [])) rfl (hb hby at_51) (by decide) (by decide)
  obtain ⟨b3, g3⟩ : ∃ z, z = T2.heap.size := ⟨_, rfl⟩
  have f4 := (A1.keep Kq2)
  have ne_b1_b3 : b1 ≠ b3 := by rw [g3]; exact Nat.ne_of_lt f4.lt
  rw [← g3] at A3 D3 st3
  have g_b3 : n0 ≤ b3 := by rw [g3]; exact O2.1 ▸ O2.2.1
  have sz_b3 : h0.size ≤ b3 := by rw [g3]; exact K2.1
  have O3 := O2.ext E3
  have K3 := K2.ext E3
  refine own_by st3 ?_
  have F3_posts : Fld Z h3 b3 "com/example/postweave/postweave/view/View" "posts" "Lcom/example/postweave/postweave/view/ViewPosts;" .null := D3 (Or.inr (hw _ (List.mem_of_getElem? (i := 53) rfl))) (ty := (.object "com/example/postweave/postweave/view/ViewPosts")) (by decide)
  have F3_fixedWidth : Fld Z h3 b3 "com/example/postweave/postweave/view/View" "fixedWidth" "I" (.int (0 : Int32)) := D3 (Or.inl (hw _ (List.mem_of_getElem? (i := 58) rfl))) (ty := .int) (by decide)
  have F3_fixedHeight : Fld Z h3 b3 "com/example/postweave/postweave/view/View" "fixedHeight" "I" (.int (0 : Int32)) := D3 (Or.inl (hw _ (List.mem_of_getElem? (i := 60) rfl))) (ty := .int) (by decide)
  have F3_children : Fld Z h3 b3 "com/example/postweave/postweave/view/ViewGroup" "children" "Ljava/util/List;" .null := D3 (Or.inr (hw _ (List.mem_of_getElem? (i := 86) rfl))) (ty := (.object "java/util/List")) (by decide)
  have F3_readOnlyChildren : Fld Z h3 b3 "com/example/postweave/postweave/view/ViewGroup" "readOnlyChildren" "Ljava/util/List;" .null := D3 (Or.inr (hw _ (List.mem_of_getElem? (i := 131) rfl))) (ty := (.object "java/util/List")) (by decide)
  have F3_walkedChildren : Fld Z h3 b3 "com/example/postweave/postweave/view/ViewGroup" "walkedChildren" "[Lcom/example/postweave/postweave/view/View;" .null := D3 (Or.inl (hw _ (List.mem_of_getElem? (i := 135) rfl))) (ty := (.array (.object "com/example/postweave/postweave/view/View"))) (by decide)
  have F3_parent : Fld Z h3 b3 "com/example/postweave/postweave/view/View" "parent" "Lcom/example/postweave/postweave/view/ViewGroup;" .null := D3 (Or.inl (hw _ (List.mem_of_getElem? (i := 148) rfl))) (ty := (.object "com/example/postweave/postweave/view/ViewGroup")) (by decide)
  show own_Go p e below s _ _ (T3.setTop (mkF m 54 #[.val (.int q0), .val (.int q1), .val (.int P1), .val (.int P2), .val (.int P3), .val (.int A), .val (.int B), .val (.ref b1), .unset, .unset, .unset, .unset, .unset, .unset, .unset, .unset, .unset] [(.ref b3)]))
  refine own_by (fun tz kz => XS.dup X3.here hx rfl (hb hby at_54) rfl rfl kz) ?_
  show own_Go p e below s _ _ (T3.setTop (mkF m 55 #[.val (.int q0), .val (.int q1), .val (.int P1), .val (.int P2), .val (.int P3), .val (.int A), .val (.int B), .val (.ref b1), .unset, .unset, .unset, .unset, .unset, .unset, .unset, .unset, .unset] [(.ref b3), (.ref b3)]))
  refine own_by (fun tz kz => XS.iconst X3.here hx rfl (hb hby at_55) kz) ?_
  show own_Go p e below s _ _ (T3.setTop (mkF m 56 #[.val (.int q0), .val (.int q1), .val (.int P1), .val (.int P2), .val (.int P3), .val (.int A), .val (.int B), .val (.ref b1), .unset, .unset, .unset, .unset, .unset, .unset, .unset, .unset, .unset] [(.int (3 : Int32)), (.ref b3), (.ref b3)]))
  refine own_by (fun tz kz => XS.iconst X3.here hx rfl (hb hby at_56) kz) ?_
  show own_Go p e below s _ _ (T3.setTop (mkF m 57 #[.val (.int q0), .val (.int q1), .val (.int P1), .val (.int P2), .val (.int P3), .val (.int A), .val (.int B), .val (.ref b1), .unset, .unset, .unset, .unset, .unset, .unset, .unset, .unset, .unset] [(.int (4 : Int32)), (.int (3 : Int32)), (.ref b3), (.ref b3)]))
  obtain ⟨_, _, ⟨T5, L5, k5, n5⟩, -, X5, ⟨Lc5, hQ5, l5, y5, z5⟩, st5⟩ := X3.specialBack hx (y := (⟨"com/example/postweave/postweave/view/ViewGroup", "<init>", "(II)V"⟩ : MethodName)) rfl hown (mvT hZ (hw _ (List.mem_of_getElem? (i := 3) rfl))) (mvT hZ (hw _ (List.mem_of_getElem? (i := 4) rfl))) (mvT hZ (hw _ (List.mem_of_getElem? (i := 5) rfl))) (by decide) (backOf (W := 1) (rm_VG l Z a0 hw [] b3 (3 : Int32) (4 : Int32) ni nmi nv de mA mL mR h3 n0 O3 A3 F3_posts F3_fixedWidth F3_fixedHeight F3_parent F3_children F3_readOnlyChildren F3_walkedChildren g_b3 S_ni S_nm S_nv S_de M_A M_L M_R (by decide) (by decide)) hZ (hw _ (List.mem_of_getElem? (i := 5) rfl)) (hw _ (List.mem_of_getElem? (i := 2) rfl)) (by decide) (by decide)) (g := (mkF m 57 #[.val (.int q0), .val (.int q1), .val (.int P1), .val (.int P2), .val (.int P3), .val (.int A), .val (.int B), .val (.ref b1), .unset, .unset, .unset, .unset, .unset, .unset, .unset, .unset, .unset] [(.int (4 : Int32)), (.int (3 : Int32)), (.ref b3), (.ref b3)])) rfl (by rw [hml]; rfl) (Steps.refl _) (a := b3) (argsL := [(.int (3 : Int32)), (.int (4 : Int32))]) (rest := [(.ref b3)]) (lenOf pd_0 rfl) rfl (by show 2 * 0 + _ ≤ _; exact Nat.le_of_eq rfl) (hb hby at_57) (fun _ _ => ⟨rfl, e3, (by decide : ((1 + 7) + 1) + 7 ≤ _), (by decide : ((10 + 19) + 10) + 19 ≤ _)⟩)
  dsimp only [Pt.U, Pt.locs, Pt.cells, Pt.slots] at X5 l5 y5 z5 st5 hQ5
  rw [l5, y5, z5] at X5
  obtain ⟨rfl, Nq5, Kq5, Fp5⟩ := hQ5
  have N5 := Fr.app N2 Nq5
  have e5 : T5.heap = T5.heap := rfl
  refine own_via st5 ?_
  have O5 := O3.keep Kq5 (allS g_b3 all0)
  have K5 := K3.trans Kq5 (allS (Or.inr sz_b3) all0)
  show own_Go p e below s _ _ (T5.setTop (mkF m 60 #[.val (.int q0), .val (.int q1), .val (.int P1), .val (.int P2), .val (.int P3), .val (.int A), .val (.int B), .val (.ref b1), .unset, .unset, .unset, .unset, .unset, .unset, .unset, .unset, .unset] [(.ref b3)]))
  refine own_by (fun tz kz => XS.astore X5.here hx rfl (hb hby at_60) rfl rfl (l' := #[.val (.int q0), .val (.int q1), .val (.int P1), .val (.int P2), .val (.int P3), .val (.int A), .val (.int B), .val (.ref b1), .val (.ref b3), .unset, .unset, .unset, .unset, .unset, .unset, .unset, .unset]) rfl kz) ?_
  show own_Go p e below s _ _ (T5.setTop (mkF m 62 #[.val (.int q0), .val (.int q1), .val (.int P1), .val (.int P2), .val (.int P3), .val (.int A), .val (.int B), .val (.ref b1), .val (.ref b3), .unset, .unset, .unset, .unset, .unset, .unset, .unset, .unset] []))
  obtain ⟨T6, h6, X6, e6, E6, A6, D6, -, st6⟩ := newO X5 hx hZ hown (hw _ (List.mem_of_getElem? (i := 0) rfl)) (hw _ (List.mem_of_getElem? (i := 1) rfl)) (hw _ (List.mem_of_getElem? (i := 2) rfl)) e5 (g := (mkF m 62 #[.val (.int q0), .val (.int q1), .val (.int P1), .val (.int P2), .val (.int P3), .val (.int A), .val (.int B), .val (.ref b1), .val (.ref b3), .unset, .unset, .unset, .unset, .unset, .unset, .unset, .unset] [])) rfl (hb hby at_62) (by decide) (by decide)
  obtain ⟨b6, g6⟩ : ∃ z, z = T5.heap.size := ⟨_, rfl⟩
  have f7 := ((f4.ext E3).keep Kq5)
  have ne_b1_b6 : b1 ≠ b6 := by rw [g6]; exact Nat.ne_of_lt f7.lt
  have f8 := (A3.keep Kq5)
  have ne_b3_b6 : b3 ≠ b6 := by rw [g6]; exact Nat.ne_of_lt f8.lt
  rw [← g6] at A6 D6 st6
  have g_b6 : n0 ≤ b6 := by rw [g6]; exact O5.1 ▸ O5.2.1
  have sz_b6 : h0.size ≤ b6 := by rw [g6]; exact K5.1
  have O6 := O5.ext E6
  have K6 := K5.ext E6
  refine own_by st6 ?_
  have F6_posts : Fld Z h6 b6 "com/example/postweave/postweave/view/View" "posts" "Lcom/example/postweave/postweave/view/ViewPosts;" .null := D6 (Or.inr (hw _ (List.mem_of_getElem? (i := 53) rfl))) (ty := (.object "com/example/postweave/postweave/view/ViewPosts")) (by decide)
  have F6_fixedWidth : Fld Z h6 b6 "com/example/postweave/postweave/view/View" "fixedWidth" "I" (.int (0 : Int32)) := D6 (Or.inl (hw _ (List.mem_of_getElem? (i := 58) rfl))) (ty := .int) (by decide)
  have F6_fixedHeight : Fld Z h6 b6 "com/example/postweave/postweave/view/View" "fixedHeight" "I" (.int (0 : Int32)) := D6 (Or.inl (hw _ (List.mem_of_getElem? (i := 60) rfl))) (ty := .int) (by decide)
  have F6_children : Fld Z h6 b6 "com/example/postweave/postweave/view/ViewGroup" "children" "Ljava/util/List;" .null := D6 (Or.inr (hw _ (List.mem_of_getElem? (i := 86) rfl))) (ty := (.object "java/util/List")) (by decide)
  have F6_readOnlyChildren : Fld Z h6 b6 "com/example/postweave/postweave/view/ViewGroup" "readOnlyChildren" "Ljava/util/List;" .null := D6 (Or.inr (hw _ (List.mem_of_getElem? (i := 131) rfl))) (ty := (.object "java/util/List")) (by decide)
  have F6_walkedChildren : Fld Z h6 b6 "com/example/postweave/postweave/view/ViewGroup" "walkedChildren" "[Lcom/example/postweave/postweave/view/View;" .null := D6 (Or.inl (hw _ (List.mem_of_getElem? (i := 135) rfl))) (ty := (.array (.object "com/example/postweave/postweave/view/View"))) (by decide)
  have F6_parent : Fld Z h6 b6 "com/example/postweave/postweave/view/View" "parent" "Lcom/example/postweave/postweave/view/ViewGroup;" .null := D6 (Or.inl (hw _ (List.mem_of_getElem? (i := 148) rfl))) (ty := (.object "com/example/postweave/postweave/view/ViewGroup")) (by decide)
  show own_Go p e below s _ _ (T6.setTop (mkF m 65 #[.val (.int q0), .val (.int q1), .val (.int P1), .val (.int P2), .val (.int P3), .val (.int A), .val (.int B), .val (.ref b1), .val (.ref b3), .unset, .unset, .unset, .unset, .unset, .unset, .unset, .unset] [(.ref b6)]))
  refine own_by (fun tz kz => XS.dup X6.here hx rfl (hb hby at_65) rfl rfl kz) ?_
  show own_Go p e below s _ _ (T6.setTop (mkF m 66 #[.val (.int q0), .val (.int q1), .val (.int P1), .val (.int P2), .val (.int P3), .val (.int A), .val (.int B), .val (.ref b1), .val (.ref b3), .unset, .unset, .unset, .unset, .unset, .unset, .unset, .unset] [(.ref b6), (.ref b6)]))
  refine own_by (fun tz kz => XS.iconst X6.here hx rfl (hb hby at_66) kz) ?_
  show own_Go p e below s _ _ (T6.setTop (mkF m 67 #[.val (.int q0), .val (.int q1), .val (.int P1), .val (.int P2), .val (.int P3), .val (.int A), .val (.int B), .val (.ref b1), .val (.ref b3), .unset, .unset, .unset, .unset, .unset, .unset, .unset, .unset] [(.int (5 : Int32)), (.ref b6), (.ref b6)]))
  refine own_by (fun tz kz => XS.bipush X6.here hx rfl (hb hby at_67) kz) ?_
  show own_Go p e below s _ _ (T6.setTop (mkF m 69 #[.val (.int q0), .val (.int q1), .val (.int P1), .val (.int P2), .val (.int P3), .val (.int A), .val (.int B), .val (.ref b1), .val (.ref b3), .unset, .unset, .unset, .unset, .unset, .unset, .unset, .unset] [(.int (6 : Int32)), (.int (5 : Int32)), (.ref b6), (.ref b6)]))
  obtain ⟨_, _, ⟨T9, L9, k9, n9⟩, -, X9, ⟨Lc9, hQ9, l9, y9, z9⟩, st9⟩ := X6.specialBack hx (y := (⟨"com/example/postweave/postweave/view/ViewGroup", "<init>", "(II)V"⟩ : MethodName)) rfl hown (mvT hZ (hw _ (List.mem_of_getElem? (i := 3) rfl))) (mvT hZ (hw _ (List.mem_of_getElem? (i := 4) rfl))) (mvT hZ (hw _ (List.mem_of_getElem? (i := 5) rfl))) (by decide) (backOf (W := 1) (rm_VG l Z a0 hw [] b6 (5 : Int32) (6 : Int32) ni nmi nv de mA mL mR h6 n0 O6 A6 F6_posts F6_fixedWidth F6_fixedHeight F6_parent F6_children F6_readOnlyChildren F6_walkedChildren g_b6 S_ni S_nm S_nv S_de M_A M_L M_R (by decide) (by decide)) hZ (hw _ (List.mem_of_getElem? (i := 5) rfl)) (hw _ (List.mem_of_getElem? (i := 2) rfl)) (by decide) (by decide)) (g := (mkF m 69 #[.val (.int q0), .val (.int q1), .val (.int P1), .val (.int P2), .val (.int P3), .val (.int A), .val (.int B), .val (.ref b1), .val (.ref b3), .unset, .unset, .unset, .unset, .unset, .unset, .unset, .unset] [(.int (6 : Int32)), (.int (5 : Int32)), (.ref b6), (.ref b6)])) rfl (by rw [hml]; rfl) (Steps.refl _) (a := b6) (argsL := [(.int (5 : Int32)), (.int (6 : Int32))]) (rest := [(.ref b6)]) (lenOf pd_0 rfl) rfl (by show 2 * 0 + _ ≤ _; exact Nat.le_of_eq rfl) (hb hby at_69) (fun _ _ => ⟨rfl, e6, (by decide : ((((1 + 7) + 1) + 7) + 1) + 7 ≤ _), (by decide : ((((10 + 19) + 10) + 19) + 10) + 19 ≤ _)⟩)
  dsimp only [Pt.U, Pt.locs, Pt.cells, Pt.slots] at X9 l9 y9 z9 st9 hQ9
  rw [l9, y9, z9] at X9
  obtain ⟨rfl, Nq9, Kq9, Fp9⟩ := hQ9
  have N9 := Fr.app N5 Nq9
  have e9 : T9.heap = T9.heap := rfl
  refine own_via st9 ?_
  have O9 := O6.keep Kq9 (allS g_b6 all0)
  have K9 := K6.trans Kq9 (allS (Or.inr sz_b6) all0)
  show own_Go p e below s _ _ (T9.setTop (mkF m 72 #[.val (.int q0), .val (.int q1), .val (.int P1), .val (.int P2), .val (.int P3), .val (.int A), .val (.int B), .val (.ref b1), .val (.ref b3), .unset, .unset, .unset, .unset, .unset, .unset, .unset, .unset] [(.ref b6)]))
  refine own_by (fun tz kz => XS.astore X9.here hx rfl (hb hby at_72) rfl rfl (l' := #[.val (.int q0), .val (.int q1), .val (.int P1), .val (.int P2), .val (.int P3), .val (.int A), .val (.int B), .val (.ref b1), .val (.ref b3), .val (.ref b6), .unset, .unset, .unset, .unset, .unset, .unset, .unset]) rfl kz) ?_
  show own_Go p e below s _ _ (T9.setTop (mkF m 74 #[.val (.int q0), .val (.int q1), .val (.int P1), .val (.int P2), .val (.int P3), .val (.int A), .val (.int B), .val (.ref b1), .val (.ref b3), .val (.ref b6), .unset, .unset, .unset, .unset, .unset, .unset, .unset] []))
  obtain ⟨T10, h10, X10, e10, E10, A10, D10, -, st10⟩ := newO X9 hx hZ hown (hw _ (List.mem_of_getElem? (i := 136) rfl)) (hw _ (List.mem_of_getElem? (i := 137) rfl)) (hw _ (List.mem_of_getElem? (i := 9) rfl)) e9 (g := (mkF m 74 #[.val (.int q0), .val (.int q1), .val (.int P1), .val (.int P2), .val (.int P3), .val (.int A), .val (.int B), .val (.ref b1), .val (.ref b3), .val (.ref b6), .unset, .unset, .unset, .unset, .unset, .unset, .unset] [])) rfl (hb hby at_74) (by decide) (by decide)
  obtain ⟨b10, g10⟩ : ∃ z, z = T9.heap.size := ⟨_, rfl⟩
  have f11 := ((f7.ext E6).keep Kq9)
  have ne_b1_b10 : b1 ≠ b10 := by rw [g10]; exact Nat.ne_of_lt f11.lt
  have f12 := ((f8.ext E6).keep Kq9)
  have ne_b3_b10 : b3 ≠ b10 := by rw [g10]; exact Nat.ne_of_lt f12.lt
  have f13 := (A6.keep Kq9)
  have ne_b6_b10 : b6 ≠ b10 := by rw [g10]; exact Nat.ne_of_lt f13.lt
  rw [← g10] at A10 D10 st10
  have g_b10 : n0 ≤ b10 := by rw [g10]; exact O9.1 ▸ O9.2.1
  have sz_b10 : h0.size ≤ b10 := by rw [g10]; exact K9.1
  have O10 := O9.ext E10
  have K10 := K9.ext E10
  refine own_by st10 ?_
  have F10_posts : Fld Z h10 b10 "com/example/postweave/postweave/view/View" "posts" "Lcom/example/postweave/postweave/view/ViewPosts;" .null := D10 (Or.inr (hw _ (List.mem_of_getElem? (i := 139) rfl))) (ty := (.object "com/example/postweave/postweave/view/ViewPosts")) (by decide)
  have F10_fixedWidth : Fld Z h10 b10 "com/example/postweave/postweave/view/View" "fixedWidth" "I" (.int (0 : Int32)) := D10 (Or.inl (hw _ (List.mem_of_getElem? (i := 140) rfl))) (ty := .int) (by decide)
  have F10_fixedHeight : Fld Z h10 b10 "com/example/postweave/postweave/view/View" "fixedHeight" "I" (.int (0 : Int32)) := D10 (Or.inl (hw _ (List.mem_of_getElem? (i := 141) rfl))) (ty := .int) (by decide)
  have F10_parent : Fld Z h10 b10 "com/example/postweave/postweave/view/View" "parent" "Lcom/example/postweave/postweave/view/ViewGroup;" .null := D10 (Or.inl (hw _ (List.mem_of_getElem? (i := 150) rfl))) (ty := (.object "com/example/postweave/postweave/view/ViewGroup")) (by decide)
  show own_Go p e below s _ _ (T10.setTop (mkF m 77 #[.val (.int q0), .val (.int q1), .val (.int P1), .val (.int P2), .val (.int P3), .val (.int A), .val (.int B), .val (.ref b1), .val (.ref b3), .val (.ref b6), .unset, .unset, .unset, .unset, .unset, .unset, .unset] [(.ref b10)]))
  refine own_by (fun tz kz => XS.dup X10.here hx rfl (hb hby at_77) rfl rfl kz) ?_
  show own_Go p e below s _ _ (T10.setTop (mkF m 78 #[.val (.int q0), .val (.int q1), .val (.int P1), .val (.int P2), .val (.int P3), .val (.int A), .val (.int B), .val (.ref b1), .val (.ref b3), .val (.ref b6), .unset, .unset, .unset, .unset, .unset, .unset, .unset] [(.ref b10), (.ref b10)]))
  refine own_by (fun tz kz => XS.bipush X10.here hx rfl (hb hby at_78) kz) ?_
  show own_Go p e below s _ _ (T10.setTop (mkF m 80 #[.val (.int q0), .val (.int q1), .val (.int P1), .val (.int P2), .val (.int P3), .val (.int A), .val (.int B), .val (.ref b1), .val (.ref b3), .val (.ref b6), .unset, .unset, .unset, .unset, .unset, .unset, .unset] [(.int (7 : Int32)), (.ref b10), (.ref b10)]))
  refine own_by (fun tz kz => XS.bipush X10.here hx rfl (hb hby at_80) kz) ?_
  show own_Go p e below s _ _ (T10.setTop (mkF m 82 #[.val (.int q0), .val (.int q1), .val (.int P1), .val (.int P2), .val (.int P3), .val (.int A), .val (.int B), .val (.ref b1), .val (.ref b3), .val (.ref b6), .unset, .unset, .unset, .unset, .unset, .unset, .unset] [(.int (8 : Int32)), (.int (7 : Int32)), (.ref b10), (.ref b10)]))
  obtain ⟨_, _, ⟨T14, L14, k14, n14⟩, -, X14, ⟨Lc14, hQ14, l14, y14, z14⟩, st14⟩ := X10.specialBack hx (y := (⟨"com/example/postweave/postweave/view/View", "<init>", "(II)V"⟩ : MethodName)) rfl hown (mvT hZ (hw _ (List.mem_of_getElem? (i := 138) rfl))) (mvT hZ (hw _ (List.mem_of_getElem? (i := 7) rfl))) (mvT hZ (hw _ (List.mem_of_getElem? (i := 10) rfl))) (by decide) (backOf (W := 1) (rm_V l Z a0 hw [] b10 (7 : Int32) (8 : Int32) ni nmi h10 n0 O10 A10 F10_posts F10_fixedWidth F10_fixedHeight F10_parent g_b10 S_ni S_nm (by decide) (by decide)) hZ (hw _ (List.mem_of_getElem? (i := 10) rfl)) (hw _ (List.mem_of_getElem? (i := 9) rfl)) (by decide) (by decide)) (g := (mkF m 82 #[.val (.int q0), .val (.int q1), .val (.int P1), .val (.int P2), .val (.int P3), .val (.int A), .val (.int B), .val (.ref b1), .val (.ref b3), .val (.ref b6), .unset, .unset, .unset, .unset, .unset, .unset, .unset] [(.int (8 : Int32)), (.int (7 : Int32)), (.ref b10), (.ref b10)])) rfl (by rw [hml]; rfl) (Steps.refl _) (a := b10) (argsL := [(.int (7 : Int32)), (.int (8 : Int32))]) (rest := [(.ref b10)]) (lenOf pd_0 rfl) rfl (by show 2 * 0 + _ ≤ _; exact Nat.le_of_eq rfl) (hb hby at_82) (fun _ _ => ⟨rfl, e10, (by decide : ((((((1 + 7) + 1) + 7) + 1) + 7) + 1) + 5 ≤ _), (by decide : ((((((10 + 19) + 10) + 19) + 10) + 19) + 7) + 14 ≤ _)⟩)
  dsimp only [Pt.U, Pt.locs, Pt.cells, Pt.slots] at X14 l14 y14 z14 st14 hQ14
  rw [l14, y14, z14] at X14
  obtain ⟨rfl, Nq14, Kq14, Fp14⟩ := hQ14
  have N14 := Fr.app N9 Nq14
  have e14 : T14.heap = T14.heap := rfl
  refine own_via st14 ?_
  have O14 := O10.keep Kq14 (allS g_b10 all0)
  have K14 := K10.trans Kq14 (allS (Or.inr sz_b10) all0)
  show own_Go p e below s _ _ (T14.setTop (mkF m 85 #[.val (.int q0), .val (.int q1), .val (.int P1), .val (.int P2), .val (.int P3), .val (.int A), .val (.int B), .val (.ref b1), .val (.ref b3), .val (.ref b6), .unset, .unset, .unset, .unset, .unset, .unset, .unset] [(.ref b10)]))
  refine own_by (fun tz kz => XS.astore X14.here hx rfl (hb hby at_85) rfl rfl (l' := #[.val (.int q0), .val (.int q1), .val (.int P1), .val (.int P2), .val (.int P3), .val (.int A), .val (.int B), .val (.ref b1), .val (.ref b3), .val (.ref b6), .val (.ref b10), .unset, .unset, .unset, .unset, .unset, .unset]) rfl kz) ?_
  show own_Go p e below s _ _ (T14.setTop (mkF m 87 #[.val (.int q0), .val (.int q1), .val (.int P1), .val (.int P2), .val (.int P3), .val (.int A), .val (.int B), .val (.ref b1), .val (.ref b3), .val (.ref b6), .val (.ref b10), .unset, .unset, .unset, .unset, .unset, .unset] []))
  refine own_by (fun tz kz => XS.iconst X14.here hx rfl (hb hby at_87) kz) ?_
  show own_Go p e below s _ _ (T14.setTop (mkF m 88 #[.val (.int q0), .val (.int q1), .val (.int P1), .val (.int P2), .val (.int P3), .val (.int A), .val (.int B), .val (.ref b1), .val (.ref b3), .val (.ref b6), .val (.ref b10), .unset, .unset, .unset, .unset, .unset, .unset] [(.int (3 : Int32))]))
  obtain ⟨T15, h15, k15, X15, e15, E15, A15, Q15, st15⟩ := newR X14 hx hZ hown (hw _ (List.mem_of_getElem? (i := 0) rfl)) (hw _ (List.mem_of_getElem? (i := 142) rfl)) e14 (g := (mkF m 88 #[.val (.int q0), .val (.int q1), .val (.int P1), .val (.int P2), .val (.int P3), .val (.int A), .val (.int B), .val (.ref b1), .val (.ref b3), .val (.ref b6), .val (.ref b10), .unset, .unset, .unset, .unset, .unset, .unset] [(.int (3 : Int32))])) rfl (hb hby at_88) rfl (by decide) (cap := 3) (by decide) (by decide) (by decide) (by decide)
  obtain ⟨b15, g15⟩ : ∃ z, z = T14.heap.size := ⟨_, rfl⟩
  have f16 := ((f11.ext E10).keep Kq14)
  have ne_b1_b15 : b1 ≠ b15 := by rw [g15]; exact Nat.ne_of_lt f16.lt
  have f17 := ((f12.ext E10).keep Kq14)
  have ne_b3_b15 : b3 ≠ b15 := by rw [g15]; exact Nat.ne_of_lt f17.lt
  have f18 := ((f13.ext E10).keep Kq14)
  have ne_b6_b15 : b6 ≠ b15 := by rw [g15]; exact Nat.ne_of_lt f18.lt
  have f19 := (A10.keep Kq14)
  have ne_b10_b15 : b10 ≠ b15 := by rw [g15]; exact Nat.ne_of_lt f19.lt
  rw [← g15] at A15 st15
  have g_b15 : n0 ≤ b15 := by rw [g15]; exact O14.1 ▸ O14.2.1
  have sz_b15 : h0.size ≤ b15 := by rw [g15]; exact K14.1
  have O15 := O14.ext E15
  have K15 := K14.ext E15
  refine own_by st15 ?_
  have V15 : Arv Z h15 b15 k15 (.object "com/example/postweave/postweave/view/ViewGroup") (3 : Int32) [.null, .null, .null] .null := (Arv.new A15 (by decide)).pad (pad_rep [] .null 3)
  show own_Go p e below s _ _ (T15.setTop (mkF m 91 #[.val (.int q0), .val (.int q1), .val (.int P1), .val (.int P2), .val (.int P3), .val (.int A), .val (.int B), .val (.ref b1), .val (.ref b3), .val (.ref b6), .val (.ref b10), .unset, .unset, .unset, .unset, .unset, .unset] [(.ref b15)]))
  refine own_by (fun tz kz => XS.dup X15.here hx rfl (hb hby at_91) rfl rfl kz) ?_
  show own_Go p e below s _ _ (T15.setTop (mkF m 92 #[.val (.int q0), .val (.int q1), .val (.int P1), .val (.int P2), .val (.int P3), .val (.int A), .val (.int B), .val (.ref b1), .val (.ref b3), .val (.ref b6), .val (.ref b10), .unset, .unset, .unset, .unset, .unset, .unset] [(.ref b15), (.ref b15)]))
  refine own_by (fun tz kz => XS.iconst X15.here hx rfl (hb hby at_92) kz) ?_
  show own_Go p e below s _ _ (T15.setTop (mkF m 93 #[.val (.int q0), .val (.int q1), .val (.int P1), .val (.int P2), .val (.int P3), .val (.int A), .val (.int B), .val (.ref b1), .val (.ref b3), .val (.ref b6), .val (.ref b10), .unset, .unset, .unset, .unset, .unset, .unset] [(.int (0 : Int32)), (.ref b15), (.ref b15)]))
  refine own_by (fun tz kz => XS.aload X15.here hx rfl (hb hby at_93) rfl rfl kz) ?_
  show own_Go p e below s _ _ (T15.setTop (mkF m 95 #[.val (.int q0), .val (.int q1), .val (.int P1), .val (.int P2), .val (.int P3), .val (.int A), .val (.int B), .val (.ref b1), .val (.ref b3), .val (.ref b6), .val (.ref b10), .unset, .unset, .unset, .unset, .unset, .unset] [(.ref b1), (.int (0 : Int32)), (.ref b15), (.ref b15)]))
  have f21 := (f16.ext E15)
  obtain ⟨c20, Ar20, q20, S20, M20, Hh20, G20⟩ := id V15
  have hin20 : ¬ ((0 : Int32) < 0 ∨ c20.slots.size ≤ ((0 : Int32)).toNatClampNeg) := inb_of S20 ⟨by decide, by decide⟩
  obtain ⟨T20, h20, X20, e20, W20, st20⟩ := stR X15 hx hZ e15 Ar20 (j := (0 : Int32)) hin20 rfl (Sto.ofV Ar20 q20 Q15 (Ins.self f21)) (g := (mkF m 95 #[.val (.int q0), .val (.int q1), .val (.int P1), .val (.int P2), .val (.int P3), .val (.int A), .val (.int B), .val (.ref b1), .val (.ref b3), .val (.ref b6), .val (.ref b10), .unset, .unset, .unset, .unset, .unset, .unset] [(.ref b1), (.int (0 : Int32)), (.ref b15), (.ref b15)])) rfl rfl (hb hby at_95)
  have V20 : Arv Z h20 b15 k15 (.object "com/example/postweave/postweave/view/ViewGroup") (3 : Int32) [(.ref b1), .null, .null] .null := Arv.set Ar20 q20 S20 M20 Hh20 G20 rfl W20 0 (by decide) (Nat.le_of_ble_eq_true rfl)
  have O20 := O15.wr W20 g_b15
  have N20 := Fr.snoc X20 N14 g_b15
  have K20 := K15.wr W20 (Or.inr sz_b15)
  refine own_by st20 ?_
  show own_Go p e below s _ _ (T20.setTop (mkF m 96 #[.val (.int q0), .val (.int q1), .val (.int P1), .val (.int P2), .val (.int P3), .val (.int A), .val (.int B), .val (.ref b1), .val (.ref b3), .val (.ref b6), .val (.ref b10), .unset, .unset, .unset, .unset, .unset, .unset] [(.ref b15)]))
  refine own_by (fun tz kz => XS.dup X20.here hx rfl (hb hby at_96) rfl rfl kz) ?_
  show own_Go p e below s _ _ (T20.setTop (mkF m 97 #[.val (.int q0), .val (.int q1), .val (.int P1), .val (.int P2), .val (.int P3), .val (.int A), .val (.int B), .val (.ref b1), .val (.ref b3), .val (.ref b6), .val (.ref b10), .unset, .unset, .unset, .unset, .unset, .unset] [(.ref b15), (.ref b15)]))
  refine own_by (fun tz kz => XS.iconst X20.here hx rfl (hb hby at_97) kz) ?_
  show own_Go p e below s _ _ (T20.setTop (mkF m 98 #[.val (.int q0), .val (.int q1), .val (.int P1), .val (.int P2), .val (.int P3), .val (.int A), .val (.int B), .val (.ref b1), .val (.ref b3), .val (.ref b6), .val (.ref b10), .unset, .unset, .unset, .unset, .unset, .unset] [(.int (1 : Int32)), (.ref b15), (.ref b15)]))
  refine own_by (fun tz kz => XS.aload X20.here hx rfl (hb hby at_98) rfl rfl kz) ?_
  show own_Go p e below s _ _ (T20.setTop (mkF m 100 #[.val (.int q0), .val (.int q1), .val (.int P1), .val (.int P2), .val (.int P3), .val (.int A), .val (.int B), .val (.ref b1), .val (.ref b3), .val (.ref b6), .val (.ref b10), .unset, .unset, .unset, .unset, .unset, .unset] [(.ref b3), (.int (1 : Int32)), (.ref b15), (.ref b15)]))
  have f23 := ((f17.ext E15).wr W20)
  obtain ⟨c22, Ar22, q22, S22, M22, Hh22, G22⟩ := id V20
  have hin22 : ¬ ((1 : Int32) < 0 ∨ c22.slots.size ≤ ((1 : Int32)).toNatClampNeg) := inb_of S22 ⟨by decide, by decide⟩
  obtain ⟨T22, h22, X22, e22, W22, st22⟩ := stR X20 hx hZ e20 Ar22 (j := (1 : Int32)) hin22 rfl (Sto.ofV Ar22 q22 Q15 (Ins.self f23)) (g := (mkF m 100 #[.val (.int q0), .val (.int q1), .val (.int P1), .val (.int P2), .val (.int P3), .val (.int A), .val (.int B), .val (.ref b1), .val (.ref b3), .val (.ref b6), .val (.ref b10), .unset, .unset, .unset, .unset, .unset, .unset] [(.ref b3), (.int (1 : Int32)), (.ref b15), (.ref b15)])) rfl rfl (hb hby at_100)
  have V22 : Arv Z h22 b15 k15 (.object "com/example/postweave/postweave/view/ViewGroup") (3 : Int32) [(.ref b1), (.ref b3), .null] .null := Arv.set Ar22 q22 S22 M22 Hh22 G22 rfl W22 1 (by decide) (Nat.le_of_ble_eq_true rfl)
  have O22 := O20.wr W22 g_b15
  have N22 := Fr.snoc X22 N20 g_b15
  have K22 := K20.wr W22 (Or.inr sz_b15)
  refine own_by st22 ?_
  show own_Go p e below s _ _ (T22.setTop (mkF m 101 #[.val (.int q0), .val (.int q1), .val (.int P1), .val (.int P2), .val (.int P3), .val (.int A), .val (.int B), .val (.ref b1), .val (.ref b3), .val (.ref b6), .val (.ref b10), .unset, .unset, .unset, .unset, .unset, .unset] [(.ref b15)]))
  refine own_by (fun tz kz => XS.dup X22.here hx rfl (hb hby at_101) rfl rfl kz) ?_
  show own_Go p e below s _ _ (T22.setTop (mkF m 102 #[.val (.int q0), .val (.int q1), .val (.int P1), .val (.int P2), .val (.int P3), .val (.int A), .val (.int B), .val (.ref b1), .val (.ref b3), .val (.ref b6), .val (.ref b10), .unset, .unset, .unset, .unset, .unset, .unset] [(.ref b15), (.ref b15)]))
  refine own_by (fun tz kz => XS.iconst X22.here hx rfl (hb hby at_102) kz) ?_
  show own_Go p e below s _ _ (T22.setTop (mkF m 103 #[.val (.int q0), .val (.int q1), .val (.int P1), .val (.int P2), .val (.int P3), .val (.int A), .val (.int B), .val (.ref b1), .val (.ref b3), .val (.ref b6), .val (.ref b10), .unset, .unset, .unset, .unset, .unset, .unset] [(.int (2 : Int32)), (.ref b15), (.ref b15)]))
  refine own_by (fun tz kz => XS.aload X22.here hx rfl (hb hby at_103) rfl rfl kz) ?_
  show own_Go p e below s _ _ (T22.setTop (mkF m 105 #[.val (.int q0), .val (.int q1), .val (.int P1), .val (.int P2), .val (.int P3), .val (.int A), .val (.int B), .val (.ref b1), .val (.ref b3), .val (.ref b6), .val (.ref b10), .unset, .unset, .unset, .unset, .unset, .unset] [(.ref b6), (.int (2 : Int32)), (.ref b15), (.ref b15)]))
  have f25 := (((f18.ext E15).wr W20).wr W22)
  obtain ⟨c24, Ar24, q24, S24, M24, Hh24, G24⟩ := id V22
  have hin24 : ¬ ((2 : Int32) < 0 ∨ c24.slots.size ≤ ((2 : Int32)).toNatClampNeg) := inb_of S24 ⟨by decide, by decide⟩
  obtain ⟨T24, h24, X24, e24, W24, st24⟩ := stR X22 hx hZ e22 Ar24 (j := (2 : Int32)) hin24 rfl (Sto.ofV Ar24 q24 Q15 (Ins.self f25)) (g := (mkF m 105 #[.val (.int q0), .val (.int q1), .val (.int P1), .val (.int P2), .val (.int P3), .val (.int A), .val (.int B), .val (.ref b1), .val (.ref b3), .val (.ref b6), .val (.ref b10), .unset, .unset, .unset, .unset, .unset, .unset] [(.ref b6), (.int (2 : Int32)), (.ref b15), (.ref b15)])) rfl rfl (hb hby at_105)
  have V24 : Arv Z h24 b15 k15 (.object "com/example/postweave/postweave/view/ViewGroup") (3 : Int32) [(.ref b1), (.ref b3), (.ref b6)] .null := Arv.set Ar24 q24 S24 M24 Hh24 G24 rfl W24 2 (by decide) (Nat.le_of_ble_eq_true rfl)
  have O24 := O22.wr W24 g_b15
  have N24 := Fr.snoc X24 N22 g_b15
  have K24 := K22.wr W24 (Or.inr sz_b15)
  refine own_by st24 ?_
  show own_Go p e below s _ _ (T24.setTop (mkF m 106 #[.val (.int q0), .val (.int q1), .val (.int P1), .val (.int P2), .val (.int P3), .val (.int A), .val (.int B), .val (.ref b1), .val (.ref b3), .val (.ref b6), .val (.ref b10), .unset, .unset, .unset, .unset, .unset, .unset] [(.ref b15)]))
  refine own_by (fun tz kz => XS.astore X24.here hx rfl (hb hby at_106) rfl rfl (l' := #[.val (.int q0), .val (.int q1), .val (.int P1), .val (.int P2), .val (.int P3), .val (.int A), .val (.int B), .val (.ref b1), .val (.ref b3), .val (.ref b6), .val (.ref b10), .val (.ref b15), .unset, .unset, .unset, .unset, .unset]) rfl kz) ?_
  show own_Go p e below s _ _ (T24.setTop (mkF m 108 #[.val (.int q0), .val (.int q1), .val (.int P1), .val (.int P2), .val (.int P3), .val (.int A), .val (.int B), .val (.ref b1), .val (.ref b3), .val (.ref b6), .val (.ref b10), .val (.ref b15), .unset, .unset, .unset, .unset, .unset] []))
  refine own_by (fun tz kz => XS.iconst X24.here hx rfl (hb hby at_108) kz) ?_
  show own_Go p e below s _ _ (T24.setTop (mkF m 109 #[.val (.int q0), .val (.int q1), .val (.int P1), .val (.int P2), .val (.int P3), .val (.int A), .val (.int B), .val (.ref b1), .val (.ref b3), .val (.ref b6), .val (.ref b10), .val (.ref b15), .unset, .unset, .unset, .unset, .unset] [(.int (4 : Int32))]))
  obtain ⟨T26, h26, k26, X26, e26, E26, A26, Q26, st26⟩ := newR X24 hx hZ hown (hw _ (List.mem_of_getElem? (i := 136) rfl)) (hw _ (List.mem_of_getElem? (i := 144) rfl)) e24 (g := (mkF m 109 #[.val (.int q0), .val (.int q1), .val (.int P1), .val (.int P2), .val (.int P3), .val (.int A), .val (.int B), .val (.ref b1), .val (.ref b3), .val (.ref b6), .val (.ref b10), .val (.ref b15), .unset, .unset, .unset, .unset, .unset] [(.int (4 : Int32))])) rfl (hb hby at_109) rfl (by decide) (cap := 4) (by decide) (by decide) (by decide) (by decide)
  obtain ⟨b26, g26⟩ : ∃ z, z = h24.size := ⟨_, rfl⟩
  have f27 := (((f21.wr W20).wr W22).wr W24)
  have ne_b1_b26 : b1 ≠ b26 := by rw [g26]; exact Nat.ne_of_lt f27.lt
  have f28 := ((f23.wr W22).wr W24)
  have ne_b3_b26 : b3 ≠ b26 := by rw [g26]; exact Nat.ne_of_lt f28.lt
  have f29 := (f25.wr W24)
  have ne_b6_b26 : b6 ≠ b26 := by rw [g26]; exact Nat.ne_of_lt f29.lt
  have f30 := ((((f19.ext E15).wr W20).wr W22).wr W24)
  have ne_b10_b26 : b10 ≠ b26 := by rw [g26]; exact Nat.ne_of_lt f30.lt
  have ne_b15_b26 : b15 ≠ b26 := by rw [g26]; exact Nat.ne_of_lt (Arv.lt V24)
  rw [← g26] at A26 st26
  have g_b26 : n0 ≤ b26 := by rw [g26]; exact O24.1 ▸ O24.2.1
  have sz_b26 : h0.size ≤ b26 := by rw [g26]; exact K24.1
  have O26 := O24.ext E26
  have K26 := K24.ext E26
  refine own_by st26 ?_
  have V26 : Arv Z h26 b26 k26 (.object "com/example/postweave/postweave/view/View") (4 : Int32) [.null, .null, .null, .null] .null := (Arv.new A26 (by decide)).pad (pad_rep [] .null 4)
  show own_Go p e below s _ _ (T26.setTop (mkF m 112 #[.val (.int q0), .val (.int q1), .val (.int P1), .val (.int P2), .val (.int P3), .val (.int A), .val (.int B), .val (.ref b1), .val (.ref b3), .val (.ref b6), .val (.ref b10), .val (.ref b15), .unset, .unset, .unset, .unset, .unset] [(.ref b26)]))
  refine own_by (fun tz kz => XS.dup X26.here hx rfl (hb hby at_112) rfl rfl kz) ?_
  show own_Go p e below s _ _ (T26.setTop (mkF m 113 #[.val (.int q0), .val (.int q1), .val (.int P1), .val (.int P2), .val (.int P3), .val (.int A), .val (.int B), .val (.ref b1), .val (.ref b3), .val (.ref b6), .val (.ref b10), .val (.ref b15), .unset, .unset, .unset, .unset, .unset] [(.ref b26), (.ref b26)]))
  refine own_by (fun tz kz => XS.iconst X26.here hx rfl (hb hby at_113) kz) ?_
  show own_Go p e below s _ _ (T26.setTop (mkF m 114 #[.val (.int q0), .val (.int q1), .val (.int P1), .val (.int P2), .val (.int P3), .val (.int A), .val (.int B), .val (.ref b1), .val (.ref b3), .val (.ref b6), .val (.ref b10), .val (.ref b15), .unset, .unset, .unset, .unset, .unset] [(.int (0 : Int32)), (.ref b26), (.ref b26)]))
  refine own_by (fun tz kz => XS.aload X26.here hx rfl (hb hby at_114) rfl rfl kz) ?_
  show own_Go p e below s _ _ (T26.setTop (mkF m 116 #[.val (.int q0), .val (.int q1), .val (.int P1), .val (.int P2), .val (.int P3), .val (.int A), .val (.int B), .val (.ref b1), .val (.ref b3), .val (.ref b6), .val (.ref b10), .val (.ref b15), .unset, .unset, .unset, .unset, .unset] [(.ref b1), (.int (0 : Int32)), (.ref b26), (.ref b26)]))
  have f32 := (f27.ext E26)
  obtain ⟨c31, Ar31, q31, S31, M31, Hh31, G31⟩ := id V26
  have hin31 : ¬ ((0 : Int32) < 0 ∨ c31.slots.size ≤ ((0 : Int32)).toNatClampNeg) := inb_of S31 ⟨by decide, by decide⟩
  obtain ⟨T31, h31, X31, e31, W31, st31⟩ := stR X26 hx hZ e26 Ar31 (j := (0 : Int32)) hin31 rfl (Sto.ofV Ar31 q31 Q26 (Ins.of_exa f32 (hw _ (List.mem_of_getElem? (i := 145) rfl)))) (g := (mkF m 116 #[.val (.int q0), .val (.int q1), .val (.int P1), .val (.int P2), .val (.int P3), .val (.int A), .val (.int B), .val (.ref b1), .val (.ref b3), .val (.ref b6), .val (.ref b10), .val (.ref b15), .unset, .unset, .unset, .unset, .unset] [(.ref b1), (.int (0 : Int32)), (.ref b26), (.ref b26)])) rfl rfl (hb hby at_116)
  have V31 : Arv Z h31 b26 k26 (.object "com/example/postweave/postweave/view/View") (4 : Int32) [(.ref b1), .null, .null, .null] .null := Arv.set Ar31 q31 S31 M31 Hh31 G31 rfl W31 0 (by decide) (Nat.le_of_ble_eq_true rfl)
  have O31 := O26.wr W31 g_b26
  have N31 := Fr.snoc X31 N24 g_b26
  have K31 := K26.wr W31 (Or.inr sz_b26)
  refine own_by st31 ?_
  show own_Go p e below s _ _ (T31.setTop (mkF m 117 #[.val (.int q0), .val (.int q1), .val (.int P1), .val (.int P2), .val (.int P3), .val (.int A), .val (.int B), .val (.ref b1), .val (.ref b3), .val (.ref b6), .val (.ref b10), .val (.ref b15), .unset, .unset, .unset, .unset, .unset] [(.ref b26)]))
  refine own_by (fun tz kz => XS.dup X31.here hx rfl (hb hby at_117) rfl rfl kz) ?_
  show own_Go p e below s _ _ (T31.setTop (mkF m 118 #[.val (.int q0), .val (.int q1), .val (.int P1), .val (.int P2), .val (.int P3), .val (.int A), .val (.int B), .val (.ref b1), .val (.ref b3), .val (.ref b6), .val (.ref b10), .val (.ref b15), .unset, .unset, .unset, .unset, .unset] [(.ref b26), (.ref b26)]))
  refine own_by (fun tz kz => XS.iconst X31.here hx rfl (hb hby at_118) kz) ?_
  show own_Go p e below s _ _ (T31.setTop (mkF m 119 #[.val (.int q0), .val (.int q1), .val (.int P1), .val (.int P2), .val (.int P3), .val (.int A), .val (.int B), .val (.ref b1), .val (.ref b3), .val (.ref b6), .val (.ref b10), .val (.ref b15), .unset, .unset, .unset, .unset, .unset] [(.int (1 : Int32)), (.ref b26), (.ref b26)]))
  refine own_by (fun tz kz => XS.aload X31.here hx rfl (hb hby at_119) rfl rfl kz) ?_
  show own_Go p e below s _ _ (T31.setTop (mkF m 121 #[.val (.int q0), .val (.int q1), .val (.int P1), .val (.int P2), .val (.int P3), .val (.int A), .val (.int B), .val (.ref b1), .val (.ref b3), .val (.ref b6), .val (.ref b10), .val (.ref b15), .unset, .unset, .unset, .unset, .unset] [(.ref b3), (.int (1 : Int32)), (.ref b26), (.ref b26)]))
  have f34 := ((f28.ext E26).wr W31)
  obtain ⟨c33, Ar33, q33, S33, M33, Hh33, G33⟩ := id V31
  have hin33 : ¬ ((1 : Int32) < 0 ∨ c33.slots.size ≤ ((1 : Int32)).toNatClampNeg) := inb_of S33 ⟨by decide, by decide⟩
  obtain ⟨T33, h33, X33, e33, W33, st33⟩ := stR X31 hx hZ e31 Ar33 (j := (1 : Int32)) hin33 rfl (Sto.ofV Ar33 q33 Q26 (Ins.of_exa f34 (hw _ (List.mem_of_getElem? (i := 145) rfl)))) (g := (mkF m 121 #[.val (.int q0), .val (.int q1), .val (.int P1), .val (.int P2), .val (.int P3), .val (.int A), .val (.int B), .val (.ref b1), .val (.ref b3), .val (.ref b6), .val (.ref b10), .val (.ref b15), .unset, .unset, .unset, .unset, .unset] [(.ref b3), (.int (1 : Int32)), (.ref b26), (.ref b26)])) rfl rfl (hb hby at_121)
  have V33 : Arv Z h33 b26 k26 (.object "com/example/postweave/postweave/view/View") (4 : Int32) [(.ref b1), (.ref b3), .null, .null] .null := Arv.set Ar33 q33 S33 M33 Hh33 G33 rfl W33 1 (by decide) (Nat.le_of_ble_eq_true rfl)
  have O33 := O31.wr W33 g_b26
  have N33 := Fr.snoc X33 N31 g_b26
  have K33 := K31.wr W33 (Or.inr sz_b26)
  refine own_by st33 ?_
  show own_Go p e below s _ _ (T33.setTop (mkF m 122 #[.val (.int q0), .val (.int q1), .val (.int P1), .val (.int P2), .val (.int P3), .val (.int A), .val (.int B), .val (.ref b1), .val (.ref b3), .val (.ref b6), .val (.ref b10), .val (.ref b15), .unset, .unset, .unset, .unset, .unset] [(.ref b26)]))
  refine own_by (fun tz kz => XS.dup X33.here hx rfl (hb hby at_122) rfl rfl kz) ?_
  show own_Go p e below s _ _ (T33.setTop (mkF m 123 #[.val (.int q0), .val (.int q1), .val (.int P1), .val (.int P2), .val (.int P3), .val (.int A), .val (.int B), .val (.ref b1), .val (.ref b3), .val (.ref b6), .val (.ref b10), .val (.ref b15), .unset, .unset, .unset, .unset, .unset] [(.ref b26), (.ref b26)]))
  refine own_by (fun tz kz => XS.iconst X33.here hx rfl (hb hby at_123) kz) ?_
  show own_Go p e below s _ _ (T33.setTop (mkF m 124 #[.val (.int q0), .val (.int q1), .val (.int P1), .val (.int P2), .val (.int P3), .val (.int A), .val (.int B), .val (.ref b1), .val (.ref b3), .val (.ref b6), .val (.ref b10), .val (.ref b15), .unset, .unset, .unset, .unset, .unset] [(.int (2 : Int32)), (.ref b26), (.ref b26)]))
  refine own_by (fun tz kz => XS.aload X33.here hx rfl (hb hby at_124) rfl rfl kz) ?_
  show own_Go p e below s _ _ (T33.setTop (mkF m 126 #[.val (.int q0), .val (.int q1), .val (.int P1), .val (.int P2), .val (.int P3), .val (.int A), .val (.int B), .val (.ref b1), .val (.ref b3), .val (.ref b6), .val (.ref b10), .val (.ref b15), .unset, .unset, .unset, .unset, .unset] [(.ref b6), (.int (2 : Int32)), (.ref b26), (.ref b26)]))
  have f36 := (((f29.ext E26).wr W31).wr W33)
  obtain ⟨c35, Ar35, q35, S35, M35, Hh35, G35⟩ := id V33
  have hin35 : ¬ ((2 : Int32) < 0 ∨ c35.slots.size ≤ ((2 : Int32)).toNatClampNeg) := inb_of S35 ⟨by decide, by decide⟩
  obtain ⟨T35, h35, X35, e35, W35, st35⟩ := stR X33 hx hZ e33 Ar35 (j := (2 : Int32)) hin35 rfl (Sto.ofV Ar35 q35 Q26 (Ins.of_exa f36 (hw _ (List.mem_of_getElem? (i := 145) rfl)))) (g := (mkF m 126 #[.val (.int q0), .val (.int q1), .val (.int P1), .val (.int P2), .val (.int P3), .val (.int A), .val (.int B), .val (.ref b1), .val (.ref b3), .val (.ref b6), .val (.ref b10), .val (.ref b15), .unset, .unset, .unset, .unset, .unset] [(.ref b6), (.int (2 : Int32)), (.ref b26), (.ref b26)])) rfl rfl (hb hby at_126)
  have V35 : Arv Z h35 b26 k26 (.object "com/example/postweave/postweave/view/View") (4 : Int32) [(.ref b1), (.ref b3), (.ref b6), .null] .null := Arv.set Ar35 q35 S35 M35 Hh35 G35 rfl W35 2 (by decide) (Nat.le_of_ble_eq_true rfl)
  have O35 := O33.wr W35 g_b26
  have N35 := Fr.snoc X35 N33 g_b26
  have K35 := K33.wr W35 (Or.inr sz_b26)
  refine own_by st35 ?_
  show own_Go p e below s _ _ (T35.setTop (mkF m 127 #[.val (.int q0), .val (.int q1), .val (.int P1), .val (.int P2), .val (.int P3), .val (.int A), .val (.int B), .val (.ref b1), .val (.ref b3), .val (.ref b6), .val (.ref b10), .val (.ref b15), .unset, .unset, .unset, .unset, .unset] [(.ref b26)]))
  refine own_by (fun tz kz => XS.dup X35.here hx rfl (hb hby at_127) rfl rfl kz) ?_
  show own_Go p e below s _ _ (T35.setTop (mkF m 128 #[.val (.int q0), .val (.int q1), .val (.int P1), .val (.int P2), .val (.int P3), .val (.int A), .val (.int B), .val (.ref b1), .val (.ref b3), .val (.ref b6), .val (.ref b10), .val (.ref b15), .unset, .unset, .unset, .unset, .unset] [(.ref b26), (.ref b26)]))
  refine own_by (fun tz kz => XS.iconst X35.here hx rfl (hb hby at_128) kz) ?_
  show own_Go p e below s _ _ (T35.setTop (mkF m 129 #[.val (.int q0), .val (.int q1), .val (.int P1), .val (.int P2), .val (.int P3), .val (.int A), .val (.int B), .val (.ref b1), .val (.ref b3), .val (.ref b6), .val (.ref b10), .val (.ref b15), .unset, .unset, .unset, .unset, .unset] [(.int (3 : Int32)), (.ref b26), (.ref b26)]))
  refine own_by (fun tz kz => XS.aload X35.here hx rfl (hb hby at_129) rfl rfl kz) ?_
  show own_Go p e below s _ _ (T35.setTop (mkF m 131 #[.val (.int q0), .val (.int q1), .val (.int P1), .val (.int P2), .val (.int P3), .val (.int A), .val (.int B), .val (.ref b1), .val (.ref b3), .val (.ref b6), .val (.ref b10), .val (.ref b15), .unset, .unset, .unset, .unset, .unset] [(.ref b10), (.int (3 : Int32)), (.ref b26), (.ref b26)]))
  have f38 := ((((f30.ext E26).wr W31).wr W33).wr W35)
  obtain ⟨c37, Ar37, q37, S37, M37, Hh37, G37⟩ := id V35
  have hin37 : ¬ ((3 : Int32) < 0 ∨ c37.slots.size ≤ ((3 : Int32)).toNatClampNeg) := inb_of S37 ⟨by decide, by decide⟩
  obtain ⟨T37, h37, X37, e37, W37, st37⟩ := stR X35 hx hZ e35 Ar37 (j := (3 : Int32)) hin37 rfl (Sto.ofV Ar37 q37 Q26 (Ins.self f38)) (g := (mkF m 131 #[.val (.int q0), .val (.int q1), .val (.int P1), .val (.int P2), .val (.int P3), .val (.int A), .val (.int B), .val (.ref b1), .val (.ref b3), .val (.ref b6), .val (.ref b10), .val (.ref b15), .unset, .unset, .unset, .unset, .unset] [(.ref b10), (.int (3 : Int32)), (.ref b26), (.ref b26)])) rfl rfl (hb hby at_131)
  have V37 : Arv Z h37 b26 k26 (.object "com/example/postweave/postweave/view/View") (4 : Int32) [(.ref b1), (.ref b3), (.ref b6), (.ref b10)] .null := Arv.set Ar37 q37 S37 M37 Hh37 G37 rfl W37 3 (by decide) (Nat.le_of_ble_eq_true rfl)
  have O37 := O35.wr W37 g_b26
  have N37 := Fr.snoc X37 N35 g_b26
  have K37 := K35.wr W37 (Or.inr sz_b26)
  refine own_by st37 ?_
  show own_Go p e below s _ _ (T37.setTop (mkF m 132 #[.val (.int q0), .val (.int q1), .val (.int P1), .val (.int P2), .val (.int P3), .val (.int A), .val (.int B), .val (.ref b1), .val (.ref b3), .val (.ref b6), .val (.ref b10), .val (.ref b15), .unset, .unset, .unset, .unset, .unset] [(.ref b26)]))
  refine own_by (fun tz kz => XS.astore X37.here hx rfl (hb hby at_132) rfl rfl (l' := #[.val (.int q0), .val (.int q1), .val (.int P1), .val (.int P2), .val (.int P3), .val (.int A), .val (.int B), .val (.ref b1), .val (.ref b3), .val (.ref b6), .val (.ref b10), .val (.ref b15), .val (.ref b26), .unset, .unset, .unset, .unset]) rfl kz) ?_
  have J148 : ∀ u1 : Value, u1 = own_par b1 b3 b6 b10 P1 → own_Go p e below s (Q_rm0 n0) room_1 (T37.setTop (mkF m 148 #[.val (.int q0), .val (.int q1), .val (.int P1), .val (.int P2), .val (.int P3), .val (.int A), .val (.int B), .val (.ref b1), .val (.ref b3), .val (.ref b6), .val (.ref b10), .val (.ref b15), .val (.ref b26), .unset, .unset, .unset, .unset] [u1, (.ref b3)])) := by
    intro u1 hu1
    have hu1' : u1.isRef = true := by rw [hu1]; exact own_par_ref _ _ _ _ _
    show own_Go p e below s _ _ (T37.setTop (mkF m 148 #[.val (.int q0), .val (.int q1), .val (.int P1), .val (.int P2), .val (.int P3), .val (.int A), .val (.int B), .val (.ref b1), .val (.ref b3), .val (.ref b6), .val (.ref b10), .val (.ref b15), .val (.ref b26), .unset, .unset, .unset, .unset] [u1, (.ref b3)]))
    have f39 := (((((((((((((Fp5.ext E6).keep Kq9 (ninS ne_b3_b6 nin0)).ext E10).keep Kq14 (ninS ne_b3_b10 nin0)).ext E15).other W20 (Or.inl ne_b3_b15)).other W22 (Or.inl ne_b3_b15)).other W24 (Or.inl ne_b3_b15)).ext E26).other W31 (Or.inl ne_b3_b26)).other W33 (Or.inl ne_b3_b26)).other W35 (Or.inl ne_b3_b26)).other W37 (Or.inl ne_b3_b26))
    have f40 := (((f34.wr W33).wr W35).wr W37)
    obtain ⟨T41, h41, X41, e41, W41, st41⟩ := putF X37 hx hZ hown (host := "") (Or.inl (hw _ (List.mem_of_getElem? (i := 146) rfl))) (Via.of (hw _ (List.mem_of_getElem? (i := 147) rfl))) e37 f39 f40 (Or.inl (hw _ (List.mem_of_getElem? (i := 148) rfl))) (hw _ (List.mem_of_getElem? (i := 1) rfl)) (ty := (.object "com/example/postweave/postweave/view/ViewGroup")) (by decide) (own_nar hu1') (own_fit hu1') (g := (mkF m 148 #[.val (.int q0), .val (.int q1), .val (.int P1), .val (.int P2), .val (.int P3), .val (.int A), .val (.int B), .val (.ref b1), .val (.ref b3), .val (.ref b6), .val (.ref b10), .val (.ref b15), .val (.ref b26), .unset, .unset, .unset, .unset] [u1, (.ref b3)])) rfl rfl (hb hby at_148)
    have Fw41 := f39.same W41
    have O41 := O37.wr W41 g_b3
    have N41 := Fr.snoc X41 N37 g_b3
    have K41 := K37.wr W41 (Or.inr sz_b3)
    refine own_by st41 ?_
    have J165 : ∀ u2 : Value, u2 = own_par b1 b3 b6 b10 P2 → own_Go p e below s (Q_rm0 n0) room_1 (T41.setTop (mkF m 165 #[.val (.int q0), .val (.int q1), .val (.int P1), .val (.int P2), .val (.int P3), .val (.int A), .val (.int B), .val (.ref b1), .val (.ref b3), .val (.ref b6), .val (.ref b10), .val (.ref b15), .val (.ref b26), .unset, .unset, .unset, .unset] [u2, (.ref b6)])) := by
      intro u2 hu2
      have hu2' : u2.isRef = true := by rw [hu2]; exact own_par_ref _ _ _ _ _
      show own_Go p e below s _ _ (T41.setTop (mkF m 165 #[.val (.int q0), .val (.int q1), .val (.int P1), .val (.int P2), .val (.int P3), .val (.int A), .val (.int B), .val (.ref b1), .val (.ref b3), .val (.ref b6), .val (.ref b10), .val (.ref b15), .val (.ref b26), .unset, .unset, .unset, .unset] [u2, (.ref b6)]))
      have f42 := ((((((((((((Fp9.ext E10).keep Kq14 (ninS ne_b6_b10 nin0)).ext E15).other W20 (Or.inl ne_b6_b15)).other W22 (Or.inl ne_b6_b15)).other W24 (Or.inl ne_b6_b15)).ext E26).other W31 (Or.inl ne_b6_b26)).other W33 (Or.inl ne_b6_b26)).other W35 (Or.inl ne_b6_b26)).other W37 (Or.inl ne_b6_b26)).other W41 (Or.inl (Ne.symm ne_b3_b6)))
      have f43 := (((f36.wr W35).wr W37).wr W41)
      obtain ⟨T44, h44, X44, e44, W44, st44⟩ := putF X41 hx hZ hown (host := "") (Or.inl (hw _ (List.mem_of_getElem? (i := 146) rfl))) (Via.of (hw _ (List.mem_of_getElem? (i := 147) rfl))) e41 f42 f43 (Or.inl (hw _ (List.mem_of_getElem? (i := 148) rfl))) (hw _ (List.mem_of_getElem? (i := 1) rfl)) (ty := (.object "com/example/postweave/postweave/view/ViewGroup")) (by decide) (own_nar hu2') (own_fit hu2') (g := (mkF m 165 #[.val (.int q0), .val (.int q1), .val (.int P1), .val (.int P2), .val (.int P3), .val (.int A), .val (.int B), .val (.ref b1), .val (.ref b3), .val (.ref b6), .val (.ref b10), .val (.ref b15), .val (.ref b26), .unset, .unset, .unset, .unset] [u2, (.ref b6)])) rfl rfl (hb hby at_165)
      have Fw44 := f42.same W44
      have O44 := O41.wr W44 g_b6
      have N44 := Fr.snoc X44 N41 g_b6
      have K44 := K41.wr W44 (Or.inr sz_b6)
      refine own_by st44 ?_
      have J184 : ∀ u3 : Value, u3 = own_par b1 b3 b6 b10 P3 → own_Go p e below s (Q_rm0 n0) room_1 (T44.setTop (mkF m 184 #[.val (.int q0), .val (.int q1), .val (.int P1), .val (.int P2), .val (.int P3), .val (.int A), .val (.int B), .val (.ref b1), .val (.ref b3), .val (.ref b6), .val (.ref b10), .val (.ref b15), .val (.ref b26), .unset, .unset, .unset, .unset] [u3, (.ref b10)])) := by
        intro u3 hu3
        have hu3' : u3.isRef = true := by rw [hu3]; exact own_par_ref _ _ _ _ _
        show own_Go p e below s _ _ (T44.setTop (mkF m 184 #[.val (.int q0), .val (.int q1), .val (.int P1), .val (.int P2), .val (.int P3), .val (.int A), .val (.int B), .val (.ref b1), .val (.ref b3), .val (.ref b6), .val (.ref b10), .val (.ref b15), .val (.ref b26), .unset, .unset, .unset, .unset] [u3, (.ref b10)]))
        have f45 := (((((((((((Fp14.ext E15).other W20 (Or.inl ne_b10_b15)).other W22 (Or.inl ne_b10_b15)).other W24 (Or.inl ne_b10_b15)).ext E26).other W31 (Or.inl ne_b10_b26)).other W33 (Or.inl ne_b10_b26)).other W35 (Or.inl ne_b10_b26)).other W37 (Or.inl ne_b10_b26)).other W41 (Or.inl (Ne.symm ne_b3_b10))).other W44 (Or.inl (Ne.symm ne_b6_b10)))
        have f46 := (((f38.wr W37).wr W41).wr W44)
        obtain ⟨T47, h47, X47, e47, W47, st47⟩ := putF X44 hx hZ hown (host := "") (Or.inl (hw _ (List.mem_of_getElem? (i := 149) rfl))) Via.refl e44 f45 f46 (Or.inl (hw _ (List.mem_of_getElem? (i := 150) rfl))) (hw _ (List.mem_of_getElem? (i := 137) rfl)) (ty := (.object "com/example/postweave/postweave/view/ViewGroup")) (by decide) (own_nar hu3') (own_fit hu3') (g := (mkF m 184 #[.val (.int q0), .val (.int q1), .val (.int P1), .val (.int P2), .val (.int P3), .val (.int A), .val (.int B), .val (.ref b1), .val (.ref b3), .val (.ref b6), .val (.ref b10), .val (.ref b15), .val (.ref b26), .unset, .unset, .unset, .unset] [u3, (.ref b10)])) rfl rfl (hb hby at_184)
        have Fw47 := f45.same W47
        have O47 := O44.wr W47 g_b10
        have N47 := Fr.snoc X47 N44 g_b10
        have K47 := K44.wr W47 (Or.inr sz_b10)
        refine own_by st47 ?_
        have J204 : ∀ u4 : Value, u4 = own_arg b1 b3 b6 b10 B → own_Go p e below s (Q_rm0 n0) room_1 (T47.setTop (mkF m 204 #[.val (.int q0), .val (.int q1), .val (.int P1), .val (.int P2), .val (.int P3), .val (.int A), .val (.int B), .val (.ref b1), .val (.ref b3), .val (.ref b6), .val (.ref b10), .val (.ref b15), .val (.ref b26), .val u4, .unset, .unset, .unset] [])) := by
          intro u4 hu4
          have hu4' : u4.isRef = true := by rw [hu4]; exact own_arg_ref _ _ _ _ _
          by_cases hc204_48 : A = (3 : Int32)
          · show own_Go p e below s _ _ (T47.setTop (mkF m 204 #[.val (.int q0), .val (.int q1), .val (.int P1), .val (.int P2), .val (.int P3), .val (.int A), .val (.int B), .val (.ref b1), .val (.ref b3), .val (.ref b6), .val (.ref b10), .val (.ref b15), .val (.ref b26), .val u4, .unset, .unset, .unset] []))
            refine own_by (fun tz kz => XS.aload X47.here hx rfl (hb hby at_204) rfl rfl kz) ?_
            show own_Go p e below s _ _ (T47.setTop (mkF m 206 #[.val (.int q0), .val (.int q1), .val (.int P1), .val (.int P2), .val (.int P3), .val (.int A), .val (.int B), .val (.ref b1), .val (.ref b3), .val (.ref b6), .val (.ref b10), .val (.ref b15), .val (.ref b26), .val u4, .unset, .unset, .unset] [(.ref b26)]))
            refine own_by (fun tz kz => XS.iload X47.here hx rfl (hb hby at_206) rfl  kz) ?_
            show own_Go p e below s _ _ (T47.setTop (mkF m 208 #[.val (.int q0), .val (.int q1), .val (.int P1), .val (.int P2), .val (.int P3), .val (.int A), .val (.int B), .val (.ref b1), .val (.ref b3), .val (.ref b6), .val (.ref b10), .val (.ref b15), .val (.ref b26), .val u4, .unset, .unset, .unset] [(.int A), (.ref b26)]))
            have f50 := (((V37.other W41 (Ne.symm ne_b3_b26)).other W44 (Ne.symm ne_b6_b26)).other W47 (Ne.symm ne_b10_b26))
            obtain ⟨c49, Ar49, q49, S49, M49, Hh49, G49⟩ := id f50
            have hin49 : ¬ (A < 0 ∨ c49.slots.size ≤ (A).toNatClampNeg) := inb_of S49 (own_b4 hA)
            have hat49 := Has.at Hh49 hin49 (v := (.ref (own_ad b1 b3 b6 b10 A))) (own_at4 b1 b3 b6 b10 _ hA)
            refine own_by (fun tz kz => X47.aaload hx (j := A) (v := (.ref (own_ad b1 b3 b6 b10 A))) (by rw [e47]; exact Ar49.1) (State.isArrayOf_alike hZ.alike Ar49.2.1) rfl Ar49.2.2 hin49 hat49 (g := (mkF m 208 #[.val (.int q0), .val (.int q1), .val (.int P1), .val (.int P2), .val (.int P3), .val (.int A), .val (.int B), .val (.ref b1), .val (.ref b3), .val (.ref b6), .val (.ref b10), .val (.ref b15), .val (.ref b26), .val u4, .unset, .unset, .unset] [(.int A), (.ref b26)])) rfl rfl (hb hby at_208) _ kz) ?_
            show own_Go p e below s _ _ (T47.setTop (mkF m 209 #[.val (.int q0), .val (.int q1), .val (.int P1), .val (.int P2), .val (.int P3), .val (.int A), .val (.int B), .val (.ref b1), .val (.ref b3), .val (.ref b6), .val (.ref b10), .val (.ref b15), .val (.ref b26), .val u4, .unset, .unset, .unset] [(.ref (own_ad b1 b3 b6 b10 A))]))
            refine own_by (fun tz kz => XS.aload X47.here hx rfl (hb hby at_209) rfl hu4' kz) ?_
            show own_Go p e below s _ _ (T47.setTop (mkF m 211 #[.val (.int q0), .val (.int q1), .val (.int P1), .val (.int P2), .val (.int P3), .val (.int A), .val (.int B), .val (.ref b1), .val (.ref b3), .val (.ref b6), .val (.ref b10), .val (.ref b15), .val (.ref b26), .val u4, .unset, .unset, .unset] [u4, (.ref (own_ad b1 b3 b6 b10 A))]))
            have f51 := ((((((((((((((((((Fp2.ext E3).keep Kq5 (ninS ne_b1_b3 nin0)).ext E6).keep Kq9 (ninS ne_b1_b6 nin0)).ext E10).keep Kq14 (ninS ne_b1_b10 nin0)).ext E15).other W20 (Or.inl ne_b1_b15)).other W22 (Or.inl ne_b1_b15)).other W24 (Or.inl ne_b1_b15)).ext E26).other W31 (Or.inl ne_b1_b26)).other W33 (Or.inl ne_b1_b26)).other W35 (Or.inl ne_b1_b26)).other W37 (Or.inl ne_b1_b26)).other W41 (Or.inl ne_b1_b3)).other W44 (Or.inl ne_b1_b6)).other W47 (Or.inl ne_b1_b10))
            have f52 := ((Fw41.other W44 (Or.inl ne_b3_b6)).other W47 (Or.inl ne_b3_b10))
            have f53 := (Fw44.other W47 (Or.inl ne_b6_b10))
            have f54 := (((((((f32.wr W31).wr W33).wr W35).wr W37).wr W41).wr W44).wr W47)
            have f55 := (((f40.wr W41).wr W44).wr W47)
            have f56 := ((f43.wr W44).wr W47)
            have f57 := (f46.wr W47)
            obtain ⟨cq58, kq58, q58a, q58b, q58c⟩ := isOf hZ e47 (own_adE3 f57 hc204_48)
            obtain ⟨_, _, ⟨T58, L58, k58, n58⟩, -, X58, ⟨Lc58, hQ58, l58, y58, z58⟩, st58⟩ := X47.virtualBack hx (y := (⟨"com/example/postweave/postweave/view/View", "holds", "(Lcom/example/postweave/postweave/view/View;)Z"⟩ : MethodName)) (z := (⟨"com/example/postweave/postweave/view/View", "holds", "(Lcom/example/postweave/postweave/view/View;)Z"⟩ : MethodName)) hown (mvT hZ (hw _ (List.mem_of_getElem? (i := 151) rfl))) (mvT hZ (hw _ (List.mem_of_getElem? (i := 152) rfl))) (notFace_of_selects (args := #[]) (mvT hZ (hw _ (List.mem_of_getElem? (i := 154) rfl)))) (mvT hZ (hw _ (List.mem_of_getElem? (i := 154) rfl))) (mvT hZ (hw _ (List.mem_of_getElem? (i := 153) rfl))) (by decide) (backOf (W := 0) (rm_holds l Z a0 hw [] (own_ad b1 b3 b6 b10 A) u4 (own_cb b1 b3 b6 b10 P1 P2 P3 B) (own_anc P1 P2 P3 A B) h47 n0 hu4' (hu4 ▸ own_chs hp1 hp2 hp3 f51 (hu1 ▸ f52) (hu2 ▸ f53) (hu3 ▸ Fw47) B hB) (own_fin ne_b1_b3 ne_b1_b6 ne_b1_b10 ne_b3_b6 ne_b3_b10 ne_b6_b10 hp1 hp2 hp3 hB hA).symm) hZ (hw _ (List.mem_of_getElem? (i := 155) rfl)) (hw _ (List.mem_of_getElem? (i := 9) rfl)) (by decide) (by decide)) q58a q58c (g := (mkF m 211 #[.val (.int q0), .val (.int q1), .val (.int P1), .val (.int P2), .val (.int P3), .val (.int A), .val (.int B), .val (.ref b1), .val (.ref b3), .val (.ref b6), .val (.ref b10), .val (.ref b15), .val (.ref b26), .val u4, .unset, .unset, .unset] [u4, (.ref (own_ad b1 b3 b6 b10 A))])) rfl (by rw [hml]; rfl) (Steps.refl _) (argsL := [u4]) (rest := []) (lenOf pd_7 rfl) rfl (by show 2 * 0 + _ ≤ _; exact Nat.le_of_eq rfl) (hb hby at_211) (fun _ _ => ⟨rfl, e47, (by decide : (((((((((1 + 7) + 1) + 7) + 1) + 7) + 1) + 5) + 1) + 1) + 0 ≤ _), (by decide : (((((((((10 + 19) + 10) + 19) + 10) + 19) + 7) + 14) + 3) + 4) + 0 ≤ _)⟩)
            dsimp only [Pt.U, Pt.locs, Pt.cells, Pt.slots] at X58 l58 y58 z58 st58 hQ58
            rw [l58, y58, z58] at X58
            obtain ⟨rfl, Nq58, e58⟩ := hQ58
            have N58 := Fr.app N47 Nq58
            refine own_via st58 ?_
            show own_Go p e below s _ _ (T58.setTop (mkF m 214 #[.val (.int q0), .val (.int q1), .val (.int P1), .val (.int P2), .val (.int P3), .val (.int A), .val (.int B), .val (.ref b1), .val (.ref b3), .val (.ref b6), .val (.ref b10), .val (.ref b15), .val (.ref b26), .val u4, .unset, .unset, .unset] [(.int (own_anc P1 P2 P3 A B))]))
            refine own_by (fun tz kz => XS.istore X58.here hx rfl (hb hby at_214) rfl (l' := #[.val (.int q0), .val (.int q1), .val (.int P1), .val (.int P2), .val (.int P3), .val (.int A), .val (.int B), .val (.ref b1), .val (.ref b3), .val (.ref b6), .val (.ref b10), .val (.ref b15), .val (.ref b26), .val u4, .val (.int (own_anc P1 P2 P3 A B)), .unset, .unset]) rfl kz) ?_
            show own_Go p e below s _ _ (T58.setTop (mkF m 216 #[.val (.int q0), .val (.int q1), .val (.int P1), .val (.int P2), .val (.int P3), .val (.int A), .val (.int B), .val (.ref b1), .val (.ref b3), .val (.ref b6), .val (.ref b10), .val (.ref b15), .val (.ref b26), .val u4, .val (.int (own_anc P1 P2 P3 A B)), .unset, .unset] []))
            refine own_by (fun tz kz => XS.iconst X58.here hx rfl (hb hby at_216) kz) ?_
            show own_Go p e below s _ _ (T58.setTop (mkF m 217 #[.val (.int q0), .val (.int q1), .val (.int P1), .val (.int P2), .val (.int P3), .val (.int A), .val (.int B), .val (.ref b1), .val (.ref b3), .val (.ref b6), .val (.ref b10), .val (.ref b15), .val (.ref b26), .val u4, .val (.int (own_anc P1 P2 P3 A B)), .unset, .unset] [(.int (4 : Int32))]))
            obtain ⟨T59, h59, k59, X59, e59, E59, A59, st59⟩ := newP X58 hx hZ (hw _ (List.mem_of_getElem? (i := 157) rfl)) e58 (g := (mkF m 217 #[.val (.int q0), .val (.int q1), .val (.int P1), .val (.int P2), .val (.int P3), .val (.int A), .val (.int B), .val (.ref b1), .val (.ref b3), .val (.ref b6), .val (.ref b10), .val (.ref b15), .val (.ref b26), .val u4, .val (.int (own_anc P1 P2 P3 A B)), .unset, .unset] [(.int (4 : Int32))])) rfl (hb hby at_217) rfl (by decide) (cap := 4) (by decide) (by decide) (by decide) (by decide)
            obtain ⟨b59, g59⟩ : ∃ z, z = h47.size := ⟨_, rfl⟩
            have ne_b1_b59 : b1 ≠ b59 := by rw [g59]; exact Nat.ne_of_lt f54.lt
            have ne_b3_b59 : b3 ≠ b59 := by rw [g59]; exact Nat.ne_of_lt f55.lt
            have ne_b6_b59 : b6 ≠ b59 := by rw [g59]; exact Nat.ne_of_lt f56.lt
            have ne_b10_b59 : b10 ≠ b59 := by rw [g59]; exact Nat.ne_of_lt f57.lt
            have f60 := ((((((((Arv.ext V24 E26).other W31 ne_b15_b26).other W33 ne_b15_b26).other W35 ne_b15_b26).other W37 ne_b15_b26).other W41 (Ne.symm ne_b3_b15)).other W44 (Ne.symm ne_b6_b15)).other W47 (Ne.symm ne_b10_b15))
            have ne_b15_b59 : b15 ≠ b59 := by rw [g59]; exact Nat.ne_of_lt (Arv.lt f60)
            have ne_b26_b59 : b26 ≠ b59 := by rw [g59]; exact Nat.ne_of_lt (Arv.lt f50)
            rw [← g59] at A59 st59
            have g_b59 : n0 ≤ b59 := by rw [g59]; exact O47.1 ▸ O47.2.1
            have sz_b59 : h0.size ≤ b59 := by rw [g59]; exact K47.1
            have O59 := O47.ext E59
            have K59 := K47.ext E59
            refine own_by st59 ?_
            have V59 : Arv Z h59 b59 k59 .int (4 : Int32) [(.int (0 : Int32)), (.int (0 : Int32)), (.int (0 : Int32)), (.int (0 : Int32))] (.int (0 : Int32)) := (Arv.new A59 (by decide)).pad (pad_rep [] (.int (0 : Int32)) 4)
            show own_Go p e below s _ _ (T59.setTop (mkF m 219 #[.val (.int q0), .val (.int q1), .val (.int P1), .val (.int P2), .val (.int P3), .val (.int A), .val (.int B), .val (.ref b1), .val (.ref b3), .val (.ref b6), .val (.ref b10), .val (.ref b15), .val (.ref b26), .val u4, .val (.int (own_anc P1 P2 P3 A B)), .unset, .unset] [(.ref b59)]))
            refine own_by (fun tz kz => XS.dup X59.here hx rfl (hb hby at_219) rfl rfl kz) ?_
            show own_Go p e below s _ _ (T59.setTop (mkF m 220 #[.val (.int q0), .val (.int q1), .val (.int P1), .val (.int P2), .val (.int P3), .val (.int A), .val (.int B), .val (.ref b1), .val (.ref b3), .val (.ref b6), .val (.ref b10), .val (.ref b15), .val (.ref b26), .val u4, .val (.int (own_anc P1 P2 P3 A B)), .unset, .unset] [(.ref b59), (.ref b59)]))
            refine own_by (fun tz kz => XS.iconst X59.here hx rfl (hb hby at_220) kz) ?_
            show own_Go p e below s _ _ (T59.setTop (mkF m 221 #[.val (.int q0), .val (.int q1), .val (.int P1), .val (.int P2), .val (.int P3), .val (.int A), .val (.int B), .val (.ref b1), .val (.ref b3), .val (.ref b6), .val (.ref b10), .val (.ref b15), .val (.ref b26), .val u4, .val (.int (own_anc P1 P2 P3 A B)), .unset, .unset] [(.int (0 : Int32)), (.ref b59), (.ref b59)]))
            refine own_by (fun tz kz => XS.iconst X59.here hx rfl (hb hby at_221) kz) ?_
            show own_Go p e below s _ _ (T59.setTop (mkF m 222 #[.val (.int q0), .val (.int q1), .val (.int P1), .val (.int P2), .val (.int P3), .val (.int A), .val (.int B), .val (.ref b1), .val (.ref b3), .val (.ref b6), .val (.ref b10), .val (.ref b15), .val (.ref b26), .val u4, .val (.int (own_anc P1 P2 P3 A B)), .unset, .unset] [(.int (-1 : Int32)), (.int (0 : Int32)), (.ref b59), (.ref b59)]))
            obtain ⟨c61, Ar61, q61, S61, M61, Hh61, G61⟩ := id V59
            have hin61 : ¬ ((0 : Int32) < 0 ∨ c61.slots.size ≤ ((0 : Int32)).toNatClampNeg) := inb_of S61 ⟨by decide, by decide⟩
            obtain ⟨T61, h61, X61, e61, W61, st61⟩ := stI X59 hx hZ e59 Ar61 (j := (0 : Int32)) hin61 (g := (mkF m 222 #[.val (.int q0), .val (.int q1), .val (.int P1), .val (.int P2), .val (.int P3), .val (.int A), .val (.int B), .val (.ref b1), .val (.ref b3), .val (.ref b6), .val (.ref b10), .val (.ref b15), .val (.ref b26), .val u4, .val (.int (own_anc P1 P2 P3 A B)), .unset, .unset] [(.int (-1 : Int32)), (.int (0 : Int32)), (.ref b59), (.ref b59)])) rfl rfl (hb hby at_222)
            have V61 : Arv Z h61 b59 k59 .int (4 : Int32) [(.int (-1 : Int32)), (.int (0 : Int32)), (.int (0 : Int32)), (.int (0 : Int32))] (.int (0 : Int32)) := Arv.set Ar61 q61 S61 M61 Hh61 G61 rfl W61 0 (by decide) (Nat.le_of_ble_eq_true rfl)
            have O61 := O59.wr W61 g_b59
            have N61 := Fr.snoc X61 N58 g_b59
            have K61 := K59.wr W61 (Or.inr sz_b59)
            refine own_by st61 ?_
            show own_Go p e below s _ _ (T61.setTop (mkF m 223 #[.val (.int q0), .val (.int q1), .val (.int P1), .val (.int P2), .val (.int P3), .val (.int A), .val (.int B), .val (.ref b1), .val (.ref b3), .val (.ref b6), .val (.ref b10), .val (.ref b15), .val (.ref b26), .val u4, .val (.int (own_anc P1 P2 P3 A B)), .unset, .unset] [(.ref b59)]))
            refine own_by (fun tz kz => XS.dup X61.here hx rfl (hb hby at_223) rfl rfl kz) ?_
            show own_Go p e below s _ _ (T61.setTop (mkF m 224 #[.val (.int q0), .val (.int q1), .val (.int P1), .val (.int P2), .val (.int P3), .val (.int A), .val (.int B), .val (.ref b1), .val (.ref b3), .val (.ref b6), .val (.ref b10), .val (.ref b15), .val (.ref b26), .val u4, .val (.int (own_anc P1 P2 P3 A B)), .unset, .unset] [(.ref b59), (.ref b59)]))
            refine own_by (fun tz kz => XS.iconst X61.here hx rfl (hb hby at_224) kz) ?_
            show own_Go p e below s _ _ (T61.setTop (mkF m 225 #[.val (.int q0), .val (.int q1), .val (.int P1), .val (.int P2), .val (.int P3), .val (.int A), .val (.int B), .val (.ref b1), .val (.ref b3), .val (.ref b6), .val (.ref b10), .val (.ref b15), .val (.ref b26), .val u4, .val (.int (own_anc P1 P2 P3 A B)), .unset, .unset] [(.int (1 : Int32)), (.ref b59), (.ref b59)]))
            refine own_by (fun tz kz => XS.iloadN X61.here hx rfl (hb hby at_225) rfl  kz) ?_
            show own_Go p e below s _ _ (T61.setTop (mkF m 226 #[.val (.int q0), .val (.int q1), .val (.int P1), .val (.int P2), .val (.int P3), .val (.int A), .val (.int B), .val (.ref b1), .val (.ref b3), .val (.ref b6), .val (.ref b10), .val (.ref b15), .val (.ref b26), .val u4, .val (.int (own_anc P1 P2 P3 A B)), .unset, .unset] [(.int P1), (.int (1 : Int32)), (.ref b59), (.ref b59)]))
            obtain ⟨c62, Ar62, q62, S62, M62, Hh62, G62⟩ := id V61
            have hin62 : ¬ ((1 : Int32) < 0 ∨ c62.slots.size ≤ ((1 : Int32)).toNatClampNeg) := inb_of S62 ⟨by decide, by decide⟩
            obtain ⟨T62, h62, X62, e62, W62, st62⟩ := stI X61 hx hZ e61 Ar62 (j := (1 : Int32)) hin62 (g := (mkF m 226 #[.val (.int q0), .val (.int q1), .val (.int P1), .val (.int P2), .val (.int P3), .val (.int A), .val (.int B), .val (.ref b1), .val (.ref b3), .val (.ref b6), .val (.ref b10), .val (.ref b15), .val (.ref b26), .val u4, .val (.int (own_anc P1 P2 P3 A B)), .unset, .unset] [(.int P1), (.int (1 : Int32)), (.ref b59), (.ref b59)])) rfl rfl (hb hby at_226)
            have V62 : Arv Z h62 b59 k59 .int (4 : Int32) [(.int (-1 : Int32)), (.int P1), (.int (0 : Int32)), (.int (0 : Int32))] (.int (0 : Int32)) := Arv.set Ar62 q62 S62 M62 Hh62 G62 rfl W62 1 (by decide) (Nat.le_of_ble_eq_true rfl)
            have O62 := O61.wr W62 g_b59
            have N62 := Fr.snoc X62 N61 g_b59
            have K62 := K61.wr W62 (Or.inr sz_b59)
            refine own_by st62 ?_
            show own_Go p e below s _ _ (T62.setTop (mkF m 227 #[.val (.int q0), .val (.int q1), .val (.int P1), .val (.int P2), .val (.int P3), .val (.int A), .val (.int B), .val (.ref b1), .val (.ref b3), .val (.ref b6), .val (.ref b10), .val (.ref b15), .val (.ref b26), .val u4, .val (.int (own_anc P1 P2 P3 A B)), .unset, .unset] [(.ref b59)]))
            refine own_by (fun tz kz => XS.dup X62.here hx rfl (hb hby at_227) rfl rfl kz) ?_
            show own_Go p e below s _ _ (T62.setTop (mkF m 228 #[.val (.int q0), .val (.int q1), .val (.int P1), .val (.int P2), .val (.int P3), .val (.int A), .val (.int B), .val (.ref b1), .val (.ref b3), .val (.ref b6), .val (.ref b10), .val (.ref b15), .val (.ref b26), .val u4, .val (.int (own_anc P1 P2 P3 A B)), .unset, .unset] [(.ref b59), (.ref b59)]))
            refine own_by (fun tz kz => XS.iconst X62.here hx rfl (hb hby at_228) kz) ?_
            show own_Go p e below s _ _ (T62.setTop (mkF m 229 #[.val (.int q0), .val (.int q1), .val (.int P1), .val (.int P2), .val (.int P3), .val (.int A), .val (.int B), .val (.ref b1), .val (.ref b3), .val (.ref b6), .val (.ref b10), .val (.ref b15), .val (.ref b26), .val u4, .val (.int (own_anc P1 P2 P3 A B)), .unset, .unset] [(.int (2 : Int32)), (.ref b59), (.ref b59)]))
            refine own_by (fun tz kz => XS.iloadN X62.here hx rfl (hb hby at_229) rfl  kz) ?_
            show own_Go p e below s _ _ (T62.setTop (mkF m 230 #[.val (.int q0), .val (.int q1), .val (.int P1), .val (.int P2), .val (.int P3), .val (.int A), .val (.int B), .val (.ref b1), .val (.ref b3), .val (.ref b6), .val (.ref b10), .val (.ref b15), .val (.ref b26), .val u4, .val (.int (own_anc P1 P2 P3 A B)), .unset, .unset] [(.int P2), (.int (2 : Int32)), (.ref b59), (.ref b59)]))
            obtain ⟨c63, Ar63, q63, S63, M63, Hh63, G63⟩ := id V62
            have hin63 : ¬ ((2 : Int32) < 0 ∨ c63.slots.size ≤ ((2 : Int32)).toNatClampNeg) := inb_of S63 ⟨by decide, by decide⟩
            obtain ⟨T63, h63, X63, e63, W63, st63⟩ := stI X62 hx hZ e62 Ar63 (j := (2 : Int32)) hin63 (g := (mkF m 230 #[.val (.int q0), .val (.int q1), .val (.int P1), .val (.int P2), .val (.int P3), .val (.int A), .val (.int B), .val (.ref b1), .val (.ref b3), .val (.ref b6), .val (.ref b10), .val (.ref b15), .val (.ref b26), .val u4, .val (.int (own_anc P1 P2 P3 A B)), .unset, .unset] [(.int P2), (.int (2 : Int32)), (.ref b59), (.ref b59)])) rfl rfl (hb hby at_230)
            have V63 : Arv Z h63 b59 k59 .int (4 : Int32) [(.int (-1 : Int32)), (.int P1), (.int P2), (.int (0 : Int32))] (.int (0 : Int32)) := Arv.set Ar63 q63 S63 M63 Hh63 G63 rfl W63 2 (by decide) (Nat.le_of_ble_eq_true rfl)
            have O63 := O62.wr W63 g_b59
            have N63 := Fr.snoc X63 N62 g_b59
            have K63 := K62.wr W63 (Or.inr sz_b59)
            refine own_by st63 ?_
            show own_Go p e below s _ _ (T63.setTop (mkF m 231 #[.val (.int q0), .val (.int q1), .val (.int P1), .val (.int P2), .val (.int P3), .val (.int A), .val (.int B), .val (.ref b1), .val (.ref b3), .val (.ref b6), .val (.ref b10), .val (.ref b15), .val (.ref b26), .val u4, .val (.int (own_anc P1 P2 P3 A B)), .unset, .unset] [(.ref b59)]))
            refine own_by (fun tz kz => XS.dup X63.here hx rfl (hb hby at_231) rfl rfl kz) ?_
            show own_Go p e below s _ _ (T63.setTop (mkF m 232 #[.val (.int q0), .val (.int q1), .val (.int P1), .val (.int P2), .val (.int P3), .val (.int A), .val (.int B), .val (.ref b1), .val (.ref b3), .val (.ref b6), .val (.ref b10), .val (.ref b15), .val (.ref b26), .val u4, .val (.int (own_anc P1 P2 P3 A B)), .unset, .unset] [(.ref b59), (.ref b59)]))
            refine own_by (fun tz kz => XS.iconst X63.here hx rfl (hb hby at_232) kz) ?_
            show own_Go p e below s _ _ (T63.setTop (mkF m 233 #[.val (.int q0), .val (.int q1), .val (.int P1), .val (.int P2), .val (.int P3), .val (.int A), .val (.int B), .val (.ref b1), .val (.ref b3), .val (.ref b6), .val (.ref b10), .val (.ref b15), .val (.ref b26), .val u4, .val (.int (own_anc P1 P2 P3 A B)), .unset, .unset] [(.int (3 : Int32)), (.ref b59), (.ref b59)]))
            refine own_by (fun tz kz => XS.iload X63.here hx rfl (hb hby at_233) rfl  kz) ?_
            show own_Go p e below s _ _ (T63.setTop (mkF m 235 #[.val (.int q0), .val (.int q1), .val (.int P1), .val (.int P2), .val (.int P3), .val (.int A), .val (.int B), .val (.ref b1), .val (.ref b3), .val (.ref b6), .val (.ref b10), .val (.ref b15), .val (.ref b26), .val u4, .val (.int (own_anc P1 P2 P3 A B)), .unset, .unset] [(.int P3), (.int (3 : Int32)), (.ref b59), (.ref b59)]))
            obtain ⟨c64, Ar64, q64, S64, M64, Hh64, G64⟩ := id V63
            have hin64 : ¬ ((3 : Int32) < 0 ∨ c64.slots.size ≤ ((3 : Int32)).toNatClampNeg) := inb_of S64 ⟨by decide, by decide⟩
            obtain ⟨T64, h64, X64, e64, W64, st64⟩ := stI X63 hx hZ e63 Ar64 (j := (3 : Int32)) hin64 (g := (mkF m 235 #[.val (.int q0), .val (.int q1), .val (.int P1), .val (.int P2), .val (.int P3), .val (.int A), .val (.int B), .val (.ref b1), .val (.ref b3), .val (.ref b6), .val (.ref b10), .val (.ref b15), .val (.ref b26), .val u4, .val (.int (own_anc P1 P2 P3 A B)), .unset, .unset] [(.int P3), (.int (3 : Int32)), (.ref b59), (.ref b59)])) rfl rfl (hb hby at_235)
            have V64 : Arv Z h64 b59 k59 .int (4 : Int32) [(.int (-1 : Int32)), (.int P1), (.int P2), (.int P3)] (.int (0 : Int32)) := Arv.set Ar64 q64 S64 M64 Hh64 G64 rfl W64 3 (by decide) (Nat.le_of_ble_eq_true rfl)
            have O64 := O63.wr W64 g_b59
            have N64 := Fr.snoc X64 N63 g_b59
            have K64 := K63.wr W64 (Or.inr sz_b59)
            refine own_by st64 ?_
            show own_Go p e below s _ _ (T64.setTop (mkF m 236 #[.val (.int q0), .val (.int q1), .val (.int P1), .val (.int P2), .val (.int P3), .val (.int A), .val (.int B), .val (.ref b1), .val (.ref b3), .val (.ref b6), .val (.ref b10), .val (.ref b15), .val (.ref b26), .val u4, .val (.int (own_anc P1 P2 P3 A B)), .unset, .unset] [(.ref b59)]))
            refine own_by (fun tz kz => XS.astore X64.here hx rfl (hb hby at_236) rfl rfl (l' := #[.val (.int q0), .val (.int q1), .val (.int P1), .val (.int P2), .val (.int P3), .val (.int A), .val (.int B), .val (.ref b1), .val (.ref b3), .val (.ref b6), .val (.ref b10), .val (.ref b15), .val (.ref b26), .val u4, .val (.int (own_anc P1 P2 P3 A B)), .val (.ref b59), .unset]) rfl kz) ?_
            show own_Go p e below s _ _ (T64.setTop (mkF m 238 #[.val (.int q0), .val (.int q1), .val (.int P1), .val (.int P2), .val (.int P3), .val (.int A), .val (.int B), .val (.ref b1), .val (.ref b3), .val (.ref b6), .val (.ref b10), .val (.ref b15), .val (.ref b26), .val u4, .val (.int (own_anc P1 P2 P3 A B)), .val (.ref b59), .unset] []))
            refine own_by (fun tz kz => XS.aload X64.here hx rfl (hb hby at_238) rfl rfl kz) ?_
            show own_Go p e below s _ _ (T64.setTop (mkF m 240 #[.val (.int q0), .val (.int q1), .val (.int P1), .val (.int P2), .val (.int P3), .val (.int A), .val (.int B), .val (.ref b1), .val (.ref b3), .val (.ref b6), .val (.ref b10), .val (.ref b15), .val (.ref b26), .val u4, .val (.int (own_anc P1 P2 P3 A B)), .val (.ref b59), .unset] [(.ref b59)]))
            refine own_by (fun tz kz => XS.iload X64.here hx rfl (hb hby at_240) rfl  kz) ?_
            show own_Go p e below s _ _ (T64.setTop (mkF m 242 #[.val (.int q0), .val (.int q1), .val (.int P1), .val (.int P2), .val (.int P3), .val (.int A), .val (.int B), .val (.ref b1), .val (.ref b3), .val (.ref b6), .val (.ref b10), .val (.ref b15), .val (.ref b26), .val u4, .val (.int (own_anc P1 P2 P3 A B)), .val (.ref b59), .unset] [(.int A), (.ref b59)]))
            refine own_by (fun tz kz => XS.iload X64.here hx rfl (hb hby at_242) rfl  kz) ?_
            show own_Go p e below s _ _ (T64.setTop (mkF m 244 #[.val (.int q0), .val (.int q1), .val (.int P1), .val (.int P2), .val (.int P3), .val (.int A), .val (.int B), .val (.ref b1), .val (.ref b3), .val (.ref b6), .val (.ref b10), .val (.ref b15), .val (.ref b26), .val u4, .val (.int (own_anc P1 P2 P3 A B)), .val (.ref b59), .unset] [(.int B), (.int A), (.ref b59)]))
            obtain ⟨_, _, ⟨T65, L65, k65, n65⟩, -, X65, ⟨Lc65, hQ65, l65, y65, z65⟩, st65⟩ := Jvm.LawKit.callS X64 hx (y := (⟨"com/example/postweave/postweave/view/ViewHoldsPinLaw", "ancestorOrSelf", "([III)Z"⟩ : MethodName)) hown (mvT hZ (hw _ (List.mem_of_getElem? (i := 158) rfl))) (mvT hZ (hw _ (List.mem_of_getElem? (i := 159) rfl))) (mvT hZ (hw _ (List.mem_of_getElem? (i := 160) rfl))) (mvT hZ (hw _ (List.mem_of_getElem? (i := 161) rfl))) (by decide) (backOf (W := 0) (rm_anc l Z a0 hw [] b59 k59 P1 P2 P3 A B (own_anc P1 P2 P3 A B) h64 n0 V64 (own_lt4 (own_h13 hp1)) (own_lt4 (own_h23 hp2)) (own_lt4 hp3) (own_b4j hB) rfl) hZ (hw _ (List.mem_of_getElem? (i := 161) rfl)) (hw _ (List.mem_of_getElem? (i := 160) rfl)) (by decide) (by decide)) (g := (mkF m 244 #[.val (.int q0), .val (.int q1), .val (.int P1), .val (.int P2), .val (.int P3), .val (.int A), .val (.int B), .val (.ref b1), .val (.ref b3), .val (.ref b6), .val (.ref b10), .val (.ref b15), .val (.ref b26), .val u4, .val (.int (own_anc P1 P2 P3 A B)), .val (.ref b59), .unset] [(.int B), (.int A), (.ref b59)])) rfl (by rw [hml]; rfl) (argsL := [(.ref b59), (.int A), (.int B)]) (rest := []) (lenOf pd_8 rfl) rfl (by show 2 * 0 + _ ≤ _; exact Nat.le_of_eq rfl) (hb hby at_244) (fun _ _ => ⟨rfl, e64, (by decide : ((((((((((1 + 7) + 1) + 7) + 1) + 7) + 1) + 5) + 1) + 1) + 1) + 0 ≤ _), (by decide : ((((((((((10 + 19) + 10) + 19) + 10) + 19) + 7) + 14) + 3) + 4) + 4) + 0 ≤ _)⟩)
            dsimp only [Pt.U, Pt.locs, Pt.cells, Pt.slots] at X65 l65 y65 z65 st65 hQ65
            rw [l65, y65, z65] at X65
            obtain ⟨rfl, Nq65, e65⟩ := hQ65
            have N65 := Fr.app N64 Nq65
            refine own_by st65 ?_
            show own_Go p e below s _ _ (T65.setTop (mkF m 247 #[.val (.int q0), .val (.int q1), .val (.int P1), .val (.int P2), .val (.int P3), .val (.int A), .val (.int B), .val (.ref b1), .val (.ref b3), .val (.ref b6), .val (.ref b10), .val (.ref b15), .val (.ref b26), .val u4, .val (.int (own_anc P1 P2 P3 A B)), .val (.ref b59), .unset] [(.int (own_anc P1 P2 P3 A B))]))
            refine own_by (fun tz kz => XS.istore X65.here hx rfl (hb hby at_247) rfl (l' := #[.val (.int q0), .val (.int q1), .val (.int P1), .val (.int P2), .val (.int P3), .val (.int A), .val (.int B), .val (.ref b1), .val (.ref b3), .val (.ref b6), .val (.ref b10), .val (.ref b15), .val (.ref b26), .val u4, .val (.int (own_anc P1 P2 P3 A B)), .val (.ref b59), .val (.int (own_anc P1 P2 P3 A B))]) rfl kz) ?_
            show own_Go p e below s _ _ (T65.setTop (mkF m 249 #[.val (.int q0), .val (.int q1), .val (.int P1), .val (.int P2), .val (.int P3), .val (.int A), .val (.int B), .val (.ref b1), .val (.ref b3), .val (.ref b6), .val (.ref b10), .val (.ref b15), .val (.ref b26), .val u4, .val (.int (own_anc P1 P2 P3 A B)), .val (.ref b59), .val (.int (own_anc P1 P2 P3 A B))] []))
            refine own_by (fun tz kz => XS.iload X65.here hx rfl (hb hby at_249) rfl  kz) ?_
            show own_Go p e below s _ _ (T65.setTop (mkF m 251 #[.val (.int q0), .val (.int q1), .val (.int P1), .val (.int P2), .val (.int P3), .val (.int A), .val (.int B), .val (.ref b1), .val (.ref b3), .val (.ref b6), .val (.ref b10), .val (.ref b15), .val (.ref b26), .val u4, .val (.int (own_anc P1 P2 P3 A B)), .val (.ref b59), .val (.int (own_anc P1 P2 P3 A B))] [(.int (own_anc P1 P2 P3 A B))]))
            refine own_by (fun tz kz => XS.iload X65.here hx rfl (hb hby at_251) rfl  kz) ?_
            show own_Go p e below s _ _ (T65.setTop (mkF m 253 #[.val (.int q0), .val (.int q1), .val (.int P1), .val (.int P2), .val (.int P3), .val (.int A), .val (.int B), .val (.ref b1), .val (.ref b3), .val (.ref b6), .val (.ref b10), .val (.ref b15), .val (.ref b26), .val u4, .val (.int (own_anc P1 P2 P3 A B)), .val (.ref b59), .val (.int (own_anc P1 P2 P3 A B))] [(.int (own_anc P1 P2 P3 A B)), (.int (own_anc P1 P2 P3 A B))]))
            refine own_by (fun tz kz => XS.icmpNo X65.here hx rfl (hb hby at_253) rfl (teq rfl).2 kz) ?_
            show own_Go p e below s _ _ (T65.setTop (mkF m 256 #[.val (.int q0), .val (.int q1), .val (.int P1), .val (.int P2), .val (.int P3), .val (.int A), .val (.int B), .val (.ref b1), .val (.ref b3), .val (.ref b6), .val (.ref b10), .val (.ref b15), .val (.ref b26), .val u4, .val (.int (own_anc P1 P2 P3 A B)), .val (.ref b59), .val (.int (own_anc P1 P2 P3 A B))] []))
            refine own_by (fun tz kz => XS.iconst X65.here hx rfl (hb hby at_256) kz) ?_
            show own_Go p e below s _ _ (T65.setTop (mkF m 257 #[.val (.int q0), .val (.int q1), .val (.int P1), .val (.int P2), .val (.int P3), .val (.int A), .val (.int B), .val (.ref b1), .val (.ref b3), .val (.ref b6), .val (.ref b10), .val (.ref b15), .val (.ref b26), .val u4, .val (.int (own_anc P1 P2 P3 A B)), .val (.ref b59), .val (.int (own_anc P1 P2 P3 A B))] [(.int (1 : Int32))]))
            refine own_by (fun tz kz => XS.goto X65.here hx rfl (pc0 := 257) (pc' := 261) rfl (hb hby at_257) (by decide) (by decide) kz) ?_
            show own_Go p e below s _ _ (T65.setTop (mkF m 261 #[.val (.int q0), .val (.int q1), .val (.int P1), .val (.int P2), .val (.int P3), .val (.int A), .val (.int B), .val (.ref b1), .val (.ref b3), .val (.ref b6), .val (.ref b10), .val (.ref b15), .val (.ref b26), .val u4, .val (.int (own_anc P1 P2 P3 A B)), .val (.ref b59), .val (.int (own_anc P1 P2 P3 A B))] [(.int (1 : Int32))]))
            refine own_retI X65 hx hlk (t := .boolean) hret (by simp) rfl (hb hby at_261) ?_ (by decide) (by decide)
            exact ⟨rfl, N65⟩
          · show own_Go p e below s _ _ (T47.setTop (mkF m 204 #[.val (.int q0), .val (.int q1), .val (.int P1), .val (.int P2), .val (.int P3), .val (.int A), .val (.int B), .val (.ref b1), .val (.ref b3), .val (.ref b6), .val (.ref b10), .val (.ref b15), .val (.ref b26), .val u4, .unset, .unset, .unset] []))
            refine own_by (fun tz kz => XS.aload X47.here hx rfl (hb hby at_204) rfl rfl kz) ?_
            show own_Go p e below s _ _ (T47.setTop (mkF m 206 #[.val (.int q0), .val (.int q1), .val (.int P1), .val (.int P2), .val (.int P3), .val (.int A), .val (.int B), .val (.ref b1), .val (.ref b3), .val (.ref b6), .val (.ref b10), .val (.ref b15), .val (.ref b26), .val u4, .unset, .unset, .unset] [(.ref b26)]))
            refine own_by (fun tz kz => XS.iload X47.here hx rfl (hb hby at_206) rfl  kz) ?_
            show own_Go p e below s _ _ (T47.setTop (mkF m 208 #[.val (.int q0), .val (.int q1), .val (.int P1), .val (.int P2), .val (.int P3), .val (.int A), .val (.int B), .val (.ref b1), .val (.ref b3), .val (.ref b6), .val (.ref b10), .val (.ref b15), .val (.ref b26), .val u4, .unset, .unset, .unset] [(.int A), (.ref b26)]))
            have f67 := (((V37.other W41 (Ne.symm ne_b3_b26)).other W44 (Ne.symm ne_b6_b26)).other W47 (Ne.symm ne_b10_b26))
            obtain ⟨c66, Ar66, q66, S66, M66, Hh66, G66⟩ := id f67
            have hin66 : ¬ (A < 0 ∨ c66.slots.size ≤ (A).toNatClampNeg) := inb_of S66 (own_b4 hA)
            have hat66 := Has.at Hh66 hin66 (v := (.ref (own_ad b1 b3 b6 b10 A))) (own_at4 b1 b3 b6 b10 _ hA)
            refine own_by (fun tz kz => X47.aaload hx (j := A) (v := (.ref (own_ad b1 b3 b6 b10 A))) (by rw [e47]; exact Ar66.1) (State.isArrayOf_alike hZ.alike Ar66.2.1) rfl Ar66.2.2 hin66 hat66 (g := (mkF m 208 #[.val (.int q0), .val (.int q1), .val (.int P1), .val (.int P2), .val (.int P3), .val (.int A), .val (.int B), .val (.ref b1), .val (.ref b3), .val (.ref b6), .val (.ref b10), .val (.ref b15), .val (.ref b26), .val u4, .unset, .unset, .unset] [(.int A), (.ref b26)])) rfl rfl (hb hby at_208) _ kz) ?_
            show own_Go p e below s _ _ (T47.setTop (mkF m 209 #[.val (.int q0), .val (.int q1), .val (.int P1), .val (.int P2), .val (.int P3), .val (.int A), .val (.int B), .val (.ref b1), .val (.ref b3), .val (.ref b6), .val (.ref b10), .val (.ref b15), .val (.ref b26), .val u4, .unset, .unset, .unset] [(.ref (own_ad b1 b3 b6 b10 A))]))
            refine own_by (fun tz kz => XS.aload X47.here hx rfl (hb hby at_209) rfl hu4' kz) ?_
            show own_Go p e below s _ _ (T47.setTop (mkF m 211 #[.val (.int q0), .val (.int q1), .val (.int P1), .val (.int P2), .val (.int P3), .val (.int A), .val (.int B), .val (.ref b1), .val (.ref b3), .val (.ref b6), .val (.ref b10), .val (.ref b15), .val (.ref b26), .val u4, .unset, .unset, .unset] [u4, (.ref (own_ad b1 b3 b6 b10 A))]))
            have f68 := ((((((((((((((((((Fp2.ext E3).keep Kq5 (ninS ne_b1_b3 nin0)).ext E6).keep Kq9 (ninS ne_b1_b6 nin0)).ext E10).keep Kq14 (ninS ne_b1_b10 nin0)).ext E15).other W20 (Or.inl ne_b1_b15)).other W22 (Or.inl ne_b1_b15)).other W24 (Or.inl ne_b1_b15)).ext E26).other W31 (Or.inl ne_b1_b26)).other W33 (Or.inl ne_b1_b26)).other W35 (Or.inl ne_b1_b26)).other W37 (Or.inl ne_b1_b26)).other W41 (Or.inl ne_b1_b3)).other W44 (Or.inl ne_b1_b6)).other W47 (Or.inl ne_b1_b10))
            have f69 := ((Fw41.other W44 (Or.inl ne_b3_b6)).other W47 (Or.inl ne_b3_b10))
            have f70 := (Fw44.other W47 (Or.inl ne_b6_b10))
            have f71 := (((((((f32.wr W31).wr W33).wr W35).wr W37).wr W41).wr W44).wr W47)
            have f72 := (((f40.wr W41).wr W44).wr W47)
            have f73 := ((f43.wr W44).wr W47)
            have f74 := (f46.wr W47)
            obtain ⟨cq75, kq75, q75a, q75b, q75c⟩ := isOf hZ e47 (own_adE f71 f72 f73 (own_a3 hA hc204_48))
            obtain ⟨_, _, ⟨T75, L75, k75, n75⟩, -, X75, ⟨Lc75, hQ75, l75, y75, z75⟩, st75⟩ := X47.virtualBack hx (y := (⟨"com/example/postweave/postweave/view/View", "holds", "(Lcom/example/postweave/postweave/view/View;)Z"⟩ : MethodName)) (z := (⟨"com/example/postweave/postweave/view/View", "holds", "(Lcom/example/postweave/postweave/view/View;)Z"⟩ : MethodName)) hown (mvT hZ (hw _ (List.mem_of_getElem? (i := 151) rfl))) (mvT hZ (hw _ (List.mem_of_getElem? (i := 152) rfl))) (notFace_of_selects (args := #[]) (mvT hZ (hw _ (List.mem_of_getElem? (i := 154) rfl)))) (mvT hZ (hw _ (List.mem_of_getElem? (i := 162) rfl))) (mvT hZ (hw _ (List.mem_of_getElem? (i := 153) rfl))) (by decide) (backOf (W := 0) (rm_holds l Z a0 hw [] (own_ad b1 b3 b6 b10 A) u4 (own_cb b1 b3 b6 b10 P1 P2 P3 B) (own_anc P1 P2 P3 A B) h47 n0 hu4' (hu4 ▸ own_chs hp1 hp2 hp3 f68 (hu1 ▸ f69) (hu2 ▸ f70) (hu3 ▸ Fw47) B hB) (own_fin ne_b1_b3 ne_b1_b6 ne_b1_b10 ne_b3_b6 ne_b3_b10 ne_b6_b10 hp1 hp2 hp3 hB hA).symm) hZ (hw _ (List.mem_of_getElem? (i := 155) rfl)) (hw _ (List.mem_of_getElem? (i := 9) rfl)) (by decide) (by decide)) q75a q75c (g := (mkF m 211 #[.val (.int q0), .val (.int q1), .val (.int P1), .val (.int P2), .val (.int P3), .val (.int A), .val (.int B), .val (.ref b1), .val (.ref b3), .val (.ref b6), .val (.ref b10), .val (.ref b15), .val (.ref b26), .val u4, .unset, .unset, .unset] [u4, (.ref (own_ad b1 b3 b6 b10 A))])) rfl (by rw [hml]; rfl) (Steps.refl _) (argsL := [u4]) (rest := []) (lenOf pd_7 rfl) rfl (by show 2 * 0 + _ ≤ _; exact Nat.le_of_eq rfl) (hb hby at_211) (fun _ _ => ⟨rfl, e47, (by decide : (((((((((1 + 7) + 1) + 7) + 1) + 7) + 1) + 5) + 1) + 1) + 0 ≤ _), (by decide : (((((((((10 + 19) + 10) + 19) + 10) + 19) + 7) + 14) + 3) + 4) + 0 ≤ _)⟩)
            dsimp only [Pt.U, Pt.locs, Pt.cells, Pt.slots] at X75 l75 y75 z75 st75 hQ75
            rw [l75, y75, z75] at X75
            obtain ⟨rfl, Nq75, e75⟩ := hQ75
            have N75 := Fr.app N47 Nq75
            refine own_via st75 ?_
            show own_Go p e below s _ _ (T75.setTop (mkF m 214 #[.val (.int q0), .val (.int q1), .val (.int P1), .val (.int P2), .val (.int P3), .val (.int A), .val (.int B), .val (.ref b1), .val (.ref b3), .val (.ref b6), .val (.ref b10), .val (.ref b15), .val (.ref b26), .val u4, .unset, .unset, .unset] [(.int (own_anc P1 P2 P3 A B))]))
            refine own_by (fun tz kz => XS.istore X75.here hx rfl (hb hby at_214) rfl (l' := #[.val (.int q0), .val (.int q1), .val (.int P1), .val (.int P2), .val (.int P3), .val (.int A), .val (.int B), .val (.ref b1), .val (.ref b3), .val (.ref b6), .val (.ref b10), .val (.ref b15), .val (.ref b26), .val u4, .val (.int (own_anc P1 P2 P3 A B)), .unset, .unset]) rfl kz) ?_
            show own_Go p e below s _ _ (T75.setTop (mkF m 216 #[.val (.int q0), .val (.int q1), .val (.int P1), .val (.int P2), .val (.int P3), .val (.int A), .val (.int B), .val (.ref b1), .val (.ref b3), .val (.ref b6), .val (.ref b10), .val (.ref b15), .val (.ref b26), .val u4, .val (.int (own_anc P1 P2 P3 A B)), .unset, .unset] []))
            refine own_by (fun tz kz => XS.iconst X75.here hx rfl (hb hby at_216) kz) ?_
            show own_Go p e below s _ _ (T75.setTop (mkF m 217 #[.val (.int q0), .val (.int q1), .val (.int P1), .val (.int P2), .val (.int P3), .val (.int A), .val (.int B), .val (.ref b1), .val (.ref b3), .val (.ref b6), .val (.ref b10), .val (.ref b15), .val (.ref b26), .val u4, .val (.int (own_anc P1 P2 P3 A B)), .unset, .unset] [(.int (4 : Int32))]))
            obtain ⟨T76, h76, k76, X76, e76, E76, A76, st76⟩ := newP X75 hx hZ (hw _ (List.mem_of_getElem? (i := 157) rfl)) e75 (g := (mkF m 217 #[.val (.int q0), .val (.int q1), .val (.int P1), .val (.int P2), .val (.int P3), .val (.int A), .val (.int B), .val (.ref b1), .val (.ref b3), .val (.ref b6), .val (.ref b10), .val (.ref b15), .val (.ref b26), .val u4, .val (.int (own_anc P1 P2 P3 A B)), .unset, .unset] [(.int (4 : Int32))])) rfl (hb hby at_217) rfl (by decide) (cap := 4) (by decide) (by decide) (by decide) (by decide)
            obtain ⟨b76, g76⟩ : ∃ z, z = h47.size := ⟨_, rfl⟩
            have ne_b1_b76 : b1 ≠ b76 := by rw [g76]; exact Nat.ne_of_lt f71.lt
            have ne_b3_b76 : b3 ≠ b76 := by rw [g76]; exact Nat.ne_of_lt f72.lt
            have ne_b6_b76 : b6 ≠ b76 := by rw [g76]; exact Nat.ne_of_lt f73.lt
            have ne_b10_b76 : b10 ≠ b76 := by rw [g76]; exact Nat.ne_of_lt f74.lt
            have f77 := ((((((((Arv.ext V24 E26).other W31 ne_b15_b26).other W33 ne_b15_b26).other W35 ne_b15_b26).other W37 ne_b15_b26).other W41 (Ne.symm ne_b3_b15)).other W44 (Ne.symm ne_b6_b15)).other W47 (Ne.symm ne_b10_b15))
            have ne_b15_b76 : b15 ≠ b76 := by rw [g76]; exact Nat.ne_of_lt (Arv.lt f77)
            have ne_b26_b76 : b26 ≠ b76 := by rw [g76]; exact Nat.ne_of_lt (Arv.lt f67)
            rw [← g76] at A76 st76
            have g_b76 : n0 ≤ b76 := by rw [g76]; exact O47.1 ▸ O47.2.1
            have sz_b76 : h0.size ≤ b76 := by rw [g76]; exact K47.1
            have O76 := O47.ext E76
            have K76 := K47.ext E76
            refine own_by st76 ?_
            have V76 : Arv Z h76 b76 k76 .int (4 : Int32) [(.int (0 : Int32)), (.int (0 : Int32)), (.int (0 : Int32)), (.int (0 : Int32))] (.int (0 : Int32)) := (Arv.new A76 (by decide)).pad (pad_rep [] (.int (0 : Int32)) 4)
            show own_Go p e below s _ _ (T76.setTop (mkF m 219 #[.val (.int q0), .val (.int q1), .val (.int P1), .val (.int P2), .val (.int P3), .val (.int A), .val (.int B), .val (.ref b1), .val (.ref b3), .val (.ref b6), .val (.ref b10), .val (.ref b15), .val (.ref b26), .val u4, .val (.int (own_anc P1 P2 P3 A B)), .unset, .unset] [(.ref b76)]))
            refine own_by (fun tz kz => XS.dup X76.here hx rfl (hb hby at_219) rfl rfl kz) ?_
            show own_Go p e below s _ _ (T76.setTop (mkF m 220 #[.val (.int q0), .val (.int q1), .val (.int P1), .val (.int P2), .val (.int P3), .val (.int A), .val (.int B), .val (.ref b1), .val (.ref b3), .val (.ref b6), .val (.ref b10), .val (.ref b15), .val (.ref b26), .val u4, .val (.int (own_anc P1 P2 P3 A B)), .unset, .unset] [(.ref b76), (.ref b76)]))
            refine own_by (fun tz kz => XS.iconst X76.here hx rfl (hb hby at_220) kz) ?_
            show own_Go p e below s _ _ (T76.setTop (mkF m 221 #[.val (.int q0), .val (.int q1), .val (.int P1), .val (.int P2), .val (.int P3), .val (.int A), .val (.int B), .val (.ref b1), .val (.ref b3), .val (.ref b6), .val (.ref b10), .val (.ref b15), .val (.ref b26), .val u4, .val (.int (own_anc P1 P2 P3 A B)), .unset, .unset] [(.int (0 : Int32)), (.ref b76), (.ref b76)]))
            refine own_by (fun tz kz => XS.iconst X76.here hx rfl (hb hby at_221) kz) ?_
            show own_Go p e below s _ _ (T76.setTop (mkF m 222 #[.val (.int q0), .val (.int q1), .val (.int P1), .val (.int P2), .val (.int P3), .val (.int A), .val (.int B), .val (.ref b1), .val (.ref b3), .val (.ref b6), .val (.ref b10), .val (.ref b15), .val (.ref b26), .val u4, .val (.int (own_anc P1 P2 P3 A B)), .unset, .unset] [(.int (-1 : Int32)), (.int (0 : Int32)), (.ref b76), (.ref b76)]))
            obtain ⟨c78, Ar78, q78, S78, M78, Hh78, G78⟩ := id V76
            have hin78 : ¬ ((0 : Int32) < 0 ∨ c78.slots.size ≤ ((0 : Int32)).toNatClampNeg) := inb_of S78 ⟨by decide, by decide⟩
            obtain ⟨T78, h78, X78, e78, W78, st78⟩ := stI X76 hx hZ e76 Ar78 (j := (0 : Int32)) hin78 (g := (mkF m 222 #[.val (.int q0), .val (.int q1), .val (.int P1), .val (.int P2), .val (.int P3), .val (.int A), .val (.int B), .val (.ref b1), .val (.ref b3), .val (.ref b6), .val (.ref b10), .val (.ref b15), .val (.ref b26), .val u4, .val (.int (own_anc P1 P2 P3 A B)), .unset, .unset] [(.int (-1 : Int32)), (.int (0 : Int32)), (.ref b76), (.ref b76)])) rfl rfl (hb hby at_222)
            have V78 : Arv Z h78 b76 k76 .int (4 : Int32) [(.int (-1 : Int32)), (.int (0 : Int32)), (.int (0 : Int32)), (.int (0 : Int32))] (.int (0 : Int32)) := Arv.set Ar78 q78 S78 M78 Hh78 G78 rfl W78 0 (by decide) (Nat.le_of_ble_eq_true rfl)
            have O78 := O76.wr W78 g_b76
            have N78 := Fr.snoc X78 N75 g_b76
            have K78 := K76.wr W78 (Or.inr sz_b76)
            refine own_by st78 ?_
            show own_Go p e below s _ _ (T78.setTop (mkF m 223 #[.val (.int q0), .val (.int q1), .val (.int P1), .val (.int P2), .val (.int P3), .val (.int A), .val (.int B), .val (.ref b1), .val (.ref b3), .val (.ref b6), .val (.ref b10), .val (.ref b15), .val (.ref b26), .val u4, .val (.int (own_anc P1 P2 P3 A B)), .unset, .unset] [(.ref b76)]))
            refine own_by (fun tz kz => XS.dup X78.here hx rfl (hb hby at_223) rfl rfl kz) ?_
            show own_Go p e below s _ _ (T78.setTop (mkF m 224 #[.val (.int q0), .val (.int q1), .val (.int P1), .val (.int P2), .val (.int P3), .val (.int A), .val (.int B), .val (.ref b1), .val (.ref b3), .val (.ref b6), .val (.ref b10), .val (.ref b15), .val (.ref b26), .val u4, .val (.int (own_anc P1 P2 P3 A B)), .unset, .unset] [(.ref b76), (.ref b76)]))
            refine own_by (fun tz kz => XS.iconst X78.here hx rfl (hb hby at_224) kz) ?_
            show own_Go p e below s _ _ (T78.setTop (mkF m 225 #[.val (.int q0), .val (.int q1), .val (.int P1), .val (.int P2), .val (.int P3), .val (.int A), .val (.int B), .val (.ref b1), .val (.ref b3), .val (.ref b6), .val (.ref b10), .val (.ref b15), .val (.ref b26), .val u4, .val (.int (own_anc P1 P2 P3 A B)), .unset, .unset] [(.int (1 : Int32)), (.ref b76), (.ref b76)]))
            refine own_by (fun tz kz => XS.iloadN X78.here hx rfl (hb hby at_225) rfl  kz) ?_
            show own_Go p e below s _ _ (T78.setTop (mkF m 226 #[.val (.int q0), .val (.int q1), .val (.int P1), .val (.int P2), .val (.int P3), .val (.int A), .val (.int B), .val (.ref b1), .val (.ref b3), .val (.ref b6), .val (.ref b10), .val (.ref b15), .val (.ref b26), .val u4, .val (.int (own_anc P1 P2 P3 A B)), .unset, .unset] [(.int P1), (.int (1 : Int32)), (.ref b76), (.ref b76)]))
            obtain ⟨c79, Ar79, q79, S79, M79, Hh79, G79⟩ := id V78
            have hin79 : ¬ ((1 : Int32) < 0 ∨ c79.slots.size ≤ ((1 : Int32)).toNatClampNeg) := inb_of S79 ⟨by decide, by decide⟩
            obtain ⟨T79, h79, X79, e79, W79, st79⟩ := stI X78 hx hZ e78 Ar79 (j := (1 : Int32)) hin79 (g := (mkF m 226 #[.val (.int q0), .val (.int q1), .val (.int P1), .val (.int P2), .val (.int P3), .val (.int A), .val (.int B), .val (.ref b1), .val (.ref b3), .val (.ref b6), .val (.ref b10), .val (.ref b15), .val (.ref b26), .val u4, .val (.int (own_anc P1 P2 P3 A B)), .unset, .unset] [(.int P1), (.int (1 : Int32)), (.ref b76), (.ref b76)])) rfl rfl (hb hby at_226)
            have V79 : Arv Z h79 b76 k76 .int (4 : Int32) [(.int (-1 : Int32)), (.int P1), (.int (0 : Int32)), (.int (0 : Int32))] (.int (0 : Int32)) := Arv.set Ar79 q79 S79 M79 Hh79 G79 rfl W79 1 (by decide) (Nat.le_of_ble_eq_true rfl)
            have O79 := O78.wr W79 g_b76
            have N79 := Fr.snoc X79 N78 g_b76
            have K79 := K78.wr W79 (Or.inr sz_b76)
            refine own_by st79 ?_
            show own_Go p e below s _ _ (T79.setTop (mkF m 227 #[.val (.int q0), .val (.int q1), .val (.int P1), .val (.int P2), .val (.int P3), .val (.int A), .val (.int B), .val (.ref b1), .val (.ref b3), .val (.ref b6), .val (.ref b10), .val (.ref b15), .val (.ref b26), .val u4, .val (.int (own_anc P1 P2 P3 A B)), .unset, .unset] [(.ref b76)]))
            refine own_by (fun tz kz => XS.dup X79.here hx rfl (hb hby at_227) rfl rfl kz) ?_
            show own_Go p e below s _ _ (T79.setTop (mkF m 228 #[.val (.int q0), .val (.int q1), .val (.int P1), .val (.int P2), .val (.int P3), .val (.int A), .val (.int B), .val (.ref b1), .val (.ref b3), .val (.ref b6), .val (.ref b10), .val (.ref b15), .val (.ref b26), .val u4, .val (.int (own_anc P1 P2 P3 A B)), .unset, .unset] [(.ref b76), (.ref b76)]))
            refine own_by (fun tz kz => XS.iconst X79.here hx rfl (hb hby at_228) kz) ?_
            show own_Go p e below s _ _ (T79.setTop (mkF m 229 #[.val (.int q0), .val (.int q1), .val (.int P1), .val (.int P2), .val (.int P3), .val (.int A), .val (.int B), .val (.ref b1), .val (.ref b3), .val (.ref b6), .val (.ref b10), .val (.ref b15), .val (.ref b26), .val u4, .val (.int (own_anc P1 P2 P3 A B)), .unset, .unset] [(.int (2 : Int32)), (.ref b76), (.ref b76)]))
            refine own_by (fun tz kz => XS.iloadN X79.here hx rfl (hb hby at_229) rfl  kz) ?_
            show own_Go p e below s _ _ (T79.setTop (mkF m 230 #[.val (.int q0), .val (.int q1), .val (.int P1), .val (.int P2), .val (.int P3), .val (.int A), .val (.int B), .val (.ref b1), .val (.ref b3), .val (.ref b6), .val (.ref b10), .val (.ref b15), .val (.ref b26), .val u4, .val (.int (own_anc P1 P2 P3 A B)), .unset, .unset] [(.int P2), (.int (2 : Int32)), (.ref b76), (.ref b76)]))
            obtain ⟨c80, Ar80, q80, S80, M80, Hh80, G80⟩ := id V79
            have hin80 : ¬ ((2 : Int32) < 0 ∨ c80.slots.size ≤ ((2 : Int32)).toNatClampNeg) := inb_of S80 ⟨by decide, by decide⟩
            obtain ⟨T80, h80, X80, e80, W80, st80⟩ := stI X79 hx hZ e79 Ar80 (j := (2 : Int32)) hin80 (g := (mkF m 230 #[.val (.int q0), .val (.int q1), .val (.int P1), .val (.int P2), .val (.int P3), .val (.int A), .val (.int B), .val (.ref b1), .val (.ref b3), .val (.ref b6), .val (.ref b10), .val (.ref b15), .val (.ref b26), .val u4, .val (.int (own_anc P1 P2 P3 A B)), .unset, .unset] [(.int P2), (.int (2 : Int32)), (.ref b76), (.ref b76)])) rfl rfl (hb hby at_230)
            have V80 : Arv Z h80 b76 k76 .int (4 : Int32) [(.int (-1 : Int32)), (.int P1), (.int P2), (.int (0 : Int32))] (.int (0 : Int32)) := Arv.set Ar80 q80 S80 M80 Hh80 G80 rfl W80 2 (by decide) (Nat.le_of_ble_eq_true rfl)
            have O80 := O79.wr W80 g_b76
            have N80 := Fr.snoc X80 N79 g_b76
            have K80 := K79.wr W80 (Or.inr sz_b76)
            refine own_by st80 ?_
            show own_Go p e below s _ _ (T80.setTop (mkF m 231 #[.val (.int q0), .val (.int q1), .val (.int P1), .val (.int P2), .val (.int P3), .val (.int A), .val (.int B), .val (.ref b1), .val (.ref b3), .val (.ref b6), .val (.ref b10), .val (.ref b15), .val (.ref b26), .val u4, .val (.int (own_anc P1 P2 P3 A B)), .unset, .unset] [(.ref b76)]))
            refine own_by (fun tz kz => XS.dup X80.here hx rfl (hb hby at_231) rfl rfl kz) ?_
            show own_Go p e below s _ _ (T80.setTop (mkF m 232 #[.val (.int q0), .val (.int q1), .val (.int P1), .val (.int P2), .val (.int P3), .val (.int A), .val (.int B), .val (.ref b1), .val (.ref b3), .val (.ref b6), .val (.ref b10), .val (.ref b15), .val (.ref b26), .val u4, .val (.int (own_anc P1 P2 P3 A B)), .unset, .unset] [(.ref b76), (.ref b76)]))
            refine own_by (fun tz kz => XS.iconst X80.here hx rfl (hb hby at_232) kz) ?_
            show own_Go p e below s _ _ (T80.setTop (mkF m 233 #[.val (.int q0), .val (.int q1), .val (.int P1), .val (.int P2), .val (.int P3), .val (.int A), .val (.int B), .val (.ref b1), .val (.ref b3), .val (.ref b6), .val (.ref b10), .val (.ref b15), .val (.ref b26), .val u4, .val (.int (own_anc P1 P2 P3 A B)), .unset, .unset] [(.int (3 : Int32)), (.ref b76), (.ref b76)]))
            refine own_by (fun tz kz => XS.iload X80.here hx rfl (hb hby at_233) rfl  kz) ?_
            show own_Go p e below s _ _ (T80.setTop (mkF m 235 #[.val (.int q0), .val (.int q1), .val (.int P1), .val (.int P2), .val (.int P3), .val (.int A), .val (.int B), .val (.ref b1), .val (.ref b3), .val (.ref b6), .val (.ref b10), .val (.ref b15), .val (.ref b26), .val u4, .val (.int (own_anc P1 P2 P3 A B)), .unset, .unset] [(.int P3), (.int (3 : Int32)), (.ref b76), (.ref b76)]))
            obtain ⟨c81, Ar81, q81, S81, M81, Hh81, G81⟩ := id V80
            have hin81 : ¬ ((3 : Int32) < 0 ∨ c81.slots.size ≤ ((3 : Int32)).toNatClampNeg) := inb_of S81 ⟨by decide, by decide⟩
            obtain ⟨T81, h81, X81, e81, W81, st81⟩ := stI X80 hx hZ e80 Ar81 (j := (3 : Int32)) hin81 (g := (mkF m 235 #[.val (.int q0), .val (.int q1), .val (.int P1), .val (.int P2), .val (.int P3), .val (.int A), .val (.int B), .val (.ref b1), .val (.ref b3), .val (.ref b6), .val (.ref b10), .val (.ref b15), .val (.ref b26), .val u4, .val (.int (own_anc P1 P2 P3 A B)), .unset, .unset] [(.int P3), (.int (3 : Int32)), (.ref b76), (.ref b76)])) rfl rfl (hb hby at_235)
            have V81 : Arv Z h81 b76 k76 .int (4 : Int32) [(.int (-1 : Int32)), (.int P1), (.int P2), (.int P3)] (.int (0 : Int32)) := Arv.set Ar81 q81 S81 M81 Hh81 G81 rfl W81 3 (by decide) (Nat.le_of_ble_eq_true rfl)
            have O81 := O80.wr W81 g_b76
            have N81 := Fr.snoc X81 N80 g_b76
            have K81 := K80.wr W81 (Or.inr sz_b76)
            refine own_by st81 ?_
            show own_Go p e below s _ _ (T81.setTop (mkF m 236 #[.val (.int q0), .val (.int q1), .val (.int P1), .val (.int P2), .val (.int P3), .val (.int A), .val (.int B), .val (.ref b1), .val (.ref b3), .val (.ref b6), .val (.ref b10), .val (.ref b15), .val (.ref b26), .val u4, .val (.int (own_anc P1 P2 P3 A B)), .unset, .unset] [(.ref b76)]))
            refine own_by (fun tz kz => XS.astore X81.here hx rfl (hb hby at_236) rfl rfl (l' := #[.val (.int q0), .val (.int q1), .val (.int P1), .val (.int P2), .val (.int P3), .val (.int A), .val (.int B), .val (.ref b1), .val (.ref b3), .val (.ref b6), .val (.ref b10), .val (.ref b15), .val (.ref b26), .val u4, .val (.int (own_anc P1 P2 P3 A B)), .val (.ref b76), .unset]) rfl kz) ?_
            show own_Go p e below s _ _ (T81.setTop (mkF m 238 #[.val (.int q0), .val (.int q1), .val (.int P1), .val (.int P2), .val (.int P3), .val (.int A), .val (.int B), .val (.ref b1), .val (.ref b3), .val (.ref b6), .val (.ref b10), .val (.ref b15), .val (.ref b26), .val u4, .val (.int (own_anc P1 P2 P3 A B)), .val (.ref b76), .unset] []))
            refine own_by (fun tz kz => XS.aload X81.here hx rfl (hb hby at_238) rfl rfl kz) ?_
            show own_Go p e below s _ _ (T81.setTop (mkF m 240 #[.val (.int q0), .val (.int q1), .val (.int P1), .val (.int P2), .val (.int P3), .val (.int A), .val (.int B), .val (.ref b1), .val (.ref b3), .val (.ref b6), .val (.ref b10), .val (.ref b15), .val (.ref b26), .val u4, .val (.int (own_anc P1 P2 P3 A B)), .val (.ref b76), .unset] [(.ref b76)]))
            refine own_by (fun tz kz => XS.iload X81.here hx rfl (hb hby at_240) rfl  kz) ?_
            show own_Go p e below s _ _ (T81.setTop (mkF m 242 #[.val (.int q0), .val (.int q1), .val (.int P1), .val (.int P2), .val (.int P3), .val (.int A), .val (.int B), .val (.ref b1), .val (.ref b3), .val (.ref b6), .val (.ref b10), .val (.ref b15), .val (.ref b26), .val u4, .val (.int (own_anc P1 P2 P3 A B)), .val (.ref b76), .unset] [(.int A), (.ref b76)]))
            refine own_by (fun tz kz => XS.iload X81.here hx rfl (hb hby at_242) rfl  kz) ?_
            show own_Go p e below s _ _ (T81.setTop (mkF m 244 #[.val (.int q0), .val (.int q1), .val (.int P1), .val (.int P2), .val (.int P3), .val (.int A), .val (.int B), .val (.ref b1), .val (.ref b3), .val (.ref b6), .val (.ref b10), .val (.ref b15), .val (.ref b26), .val u4, .val (.int (own_anc P1 P2 P3 A B)), .val (.ref b76), .unset] [(.int B), (.int A), (.ref b76)]))
            obtain ⟨_, _, ⟨T82, L82, k82, n82⟩, -, X82, ⟨Lc82, hQ82, l82, y82, z82⟩, st82⟩ := Jvm.LawKit.callS X81 hx (y := (⟨"com/example/postweave/postweave/view/ViewHoldsPinLaw", "ancestorOrSelf", "([III)Z"⟩ : MethodName)) hown (mvT hZ (hw _ (List.mem_of_getElem? (i := 158) rfl))) (mvT hZ (hw _ (List.mem_of_getElem? (i := 159) rfl))) (mvT hZ (hw _ (List.mem_of_getElem? (i := 160) rfl))) (mvT hZ (hw _ (List.mem_of_getElem? (i := 161) rfl))) (by decide) (backOf (W := 0) (rm_anc l Z a0 hw [] b76 k76 P1 P2 P3 A B (own_anc P1 P2 P3 A B) h81 n0 V81 (own_lt4 (own_h13 hp1)) (own_lt4 (own_h23 hp2)) (own_lt4 hp3) (own_b4j hB) rfl) hZ (hw _ (List.mem_of_getElem? (i := 161) rfl)) (hw _ (List.mem_of_getElem? (i := 160) rfl)) (by decide) (by decide)) (g := (mkF m 244 #[.val (.int q0), .val (.int q1), .val (.int P1), .val (.int P2), .val (.int P3), .val (.int A), .val (.int B), .val (.ref b1), .val (.ref b3), .val (.ref b6), .val (.ref b10), .val (.ref b15), .val (.ref b26), .val u4, .val (.int (own_anc P1 P2 P3 A B)), .val (.ref b76), .unset] [(.int B), (.int A), (.ref b76)])) rfl (by rw [hml]; rfl) (argsL := [(.ref b76), (.int A), (.int B)]) (rest := []) (lenOf pd_8 rfl) rfl (by show 2 * 0 + _ ≤ _; exact Nat.le_of_eq rfl) (hb hby at_244) (fun _ _ => ⟨rfl, e81, (by decide : ((((((((((1 + 7) + 1) + 7) + 1) + 7) + 1) + 5) + 1) + 1) + 1) + 0 ≤ _), (by decide : ((((((((((10 + 19) + 10) + 19) + 10) + 19) + 7) + 14) + 3) + 4) + 4) + 0 ≤ _)⟩)
            dsimp only [Pt.U, Pt.locs, Pt.cells, Pt.slots] at X82 l82 y82 z82 st82 hQ82
            rw [l82, y82, z82] at X82
            obtain ⟨rfl, Nq82, e82⟩ := hQ82
            have N82 := Fr.app N81 Nq82
            refine own_by st82 ?_
            show own_Go p e below s _ _ (T82.setTop (mkF m 247 #[.val (.int q0), .val (.int q1), .val (.int P1), .val (.int P2), .val (.int P3), .val (.int A), .val (.int B), .val (.ref b1), .val (.ref b3), .val (.ref b6), .val (.ref b10), .val (.ref b15), .val (.ref b26), .val u4, .val (.int (own_anc P1 P2 P3 A B)), .val (.ref b76), .unset] [(.int (own_anc P1 P2 P3 A B))]))
            refine own_by (fun tz kz => XS.istore X82.here hx rfl (hb hby at_247) rfl (l' := #[.val (.int q0), .val (.int q1), .val (.int P1), .val (.int P2), .val (.int P3), .val (.int A), .val (.int B), .val (.ref b1), .val (.ref b3), .val (.ref b6), .val (.ref b10), .val (.ref b15), .val (.ref b26), .val u4, .val (.int (own_anc P1 P2 P3 A B)), .val (.ref b76), .val (.int (own_anc P1 P2 P3 A B))]) rfl kz) ?_
            show own_Go p e below s _ _ (T82.setTop (mkF m 249 #[.val (.int q0), .val (.int q1), .val (.int P1), .val (.int P2), .val (.int P3), .val (.int A), .val (.int B), .val (.ref b1), .val (.ref b3), .val (.ref b6), .val (.ref b10), .val (.ref b15), .val (.ref b26), .val u4, .val (.int (own_anc P1 P2 P3 A B)), .val (.ref b76), .val (.int (own_anc P1 P2 P3 A B))] []))
            refine own_by (fun tz kz => XS.iload X82.here hx rfl (hb hby at_249) rfl  kz) ?_
            show own_Go p e below s _ _ (T82.setTop (mkF m 251 #[.val (.int q0), .val (.int q1), .val (.int P1), .val (.int P2), .val (.int P3), .val (.int A), .val (.int B), .val (.ref b1), .val (.ref b3), .val (.ref b6), .val (.ref b10), .val (.ref b15), .val (.ref b26), .val u4, .val (.int (own_anc P1 P2 P3 A B)), .val (.ref b76), .val (.int (own_anc P1 P2 P3 A B))] [(.int (own_anc P1 P2 P3 A B))]))
            refine own_by (fun tz kz => XS.iload X82.here hx rfl (hb hby at_251) rfl  kz) ?_
            show own_Go p e below s _ _ (T82.setTop (mkF m 253 #[.val (.int q0), .val (.int q1), .val (.int P1), .val (.int P2), .val (.int P3), .val (.int A), .val (.int B), .val (.ref b1), .val (.ref b3), .val (.ref b6), .val (.ref b10), .val (.ref b15), .val (.ref b26), .val u4, .val (.int (own_anc P1 P2 P3 A B)), .val (.ref b76), .val (.int (own_anc P1 P2 P3 A B))] [(.int (own_anc P1 P2 P3 A B)), (.int (own_anc P1 P2 P3 A B))]))
            refine own_by (fun tz kz => XS.icmpNo X82.here hx rfl (hb hby at_253) rfl (teq rfl).2 kz) ?_
            show own_Go p e below s _ _ (T82.setTop (mkF m 256 #[.val (.int q0), .val (.int q1), .val (.int P1), .val (.int P2), .val (.int P3), .val (.int A), .val (.int B), .val (.ref b1), .val (.ref b3), .val (.ref b6), .val (.ref b10), .val (.ref b15), .val (.ref b26), .val u4, .val (.int (own_anc P1 P2 P3 A B)), .val (.ref b76), .val (.int (own_anc P1 P2 P3 A B))] []))
            refine own_by (fun tz kz => XS.iconst X82.here hx rfl (hb hby at_256) kz) ?_
            show own_Go p e below s _ _ (T82.setTop (mkF m 257 #[.val (.int q0), .val (.int q1), .val (.int P1), .val (.int P2), .val (.int P3), .val (.int A), .val (.int B), .val (.ref b1), .val (.ref b3), .val (.ref b6), .val (.ref b10), .val (.ref b15), .val (.ref b26), .val u4, .val (.int (own_anc P1 P2 P3 A B)), .val (.ref b76), .val (.int (own_anc P1 P2 P3 A B))] [(.int (1 : Int32))]))
            refine own_by (fun tz kz => XS.goto X82.here hx rfl (pc0 := 257) (pc' := 261) rfl (hb hby at_257) (by decide) (by decide) kz) ?_
            show own_Go p e below s _ _ (T82.setTop (mkF m 261 #[.val (.int q0), .val (.int q1), .val (.int P1), .val (.int P2), .val (.int P3), .val (.int A), .val (.int B), .val (.ref b1), .val (.ref b3), .val (.ref b6), .val (.ref b10), .val (.ref b15), .val (.ref b26), .val u4, .val (.int (own_anc P1 P2 P3 A B)), .val (.ref b76), .val (.int (own_anc P1 P2 P3 A B))] [(.int (1 : Int32))]))
            refine own_retI X82 hx hlk (t := .boolean) hret (by simp) rfl (hb hby at_261) ?_ (by decide) (by decide)
            exact ⟨rfl, N82⟩
        show own_Go p e below s _ _ (T47.setTop (mkF m 187 #[.val (.int q0), .val (.int q1), .val (.int P1), .val (.int P2), .val (.int P3), .val (.int A), .val (.int B), .val (.ref b1), .val (.ref b3), .val (.ref b6), .val (.ref b10), .val (.ref b15), .val (.ref b26), .unset, .unset, .unset, .unset] []))
        refine own_by (fun tz kz => XS.iload X47.here hx rfl (hb hby at_187) rfl  kz) ?_
        show own_Go p e below s _ _ (T47.setTop (mkF m 189 #[.val (.int q0), .val (.int q1), .val (.int P1), .val (.int P2), .val (.int P3), .val (.int A), .val (.int B), .val (.ref b1), .val (.ref b3), .val (.ref b6), .val (.ref b10), .val (.ref b15), .val (.ref b26), .unset, .unset, .unset, .unset] [(.int B)]))
        refine own_by (fun tz kz => XS.iconst X47.here hx rfl (hb hby at_189) kz) ?_
        show own_Go p e below s _ _ (T47.setTop (mkF m 190 #[.val (.int q0), .val (.int q1), .val (.int P1), .val (.int P2), .val (.int P3), .val (.int A), .val (.int B), .val (.ref b1), .val (.ref b3), .val (.ref b6), .val (.ref b10), .val (.ref b15), .val (.ref b26), .unset, .unset, .unset, .unset] [(.int (4 : Int32)), (.int B)]))
        by_cases hc190_83 : B < (4 : Int32)
        · refine own_by (fun tz kz => XS.icmpNo X47.here hx rfl (hb hby at_190) rfl (tlt hc190_83).2.1 kz) ?_
          show own_Go p e below s _ _ (T47.setTop (mkF m 193 #[.val (.int q0), .val (.int q1), .val (.int P1), .val (.int P2), .val (.int P3), .val (.int A), .val (.int B), .val (.ref b1), .val (.ref b3), .val (.ref b6), .val (.ref b10), .val (.ref b15), .val (.ref b26), .unset, .unset, .unset, .unset] []))
          refine own_by (fun tz kz => XS.aload X47.here hx rfl (hb hby at_193) rfl rfl kz) ?_
          show own_Go p e below s _ _ (T47.setTop (mkF m 195 #[.val (.int q0), .val (.int q1), .val (.int P1), .val (.int P2), .val (.int P3), .val (.int A), .val (.int B), .val (.ref b1), .val (.ref b3), .val (.ref b6), .val (.ref b10), .val (.ref b15), .val (.ref b26), .unset, .unset, .unset, .unset] [(.ref b26)]))
          refine own_by (fun tz kz => XS.iload X47.here hx rfl (hb hby at_195) rfl  kz) ?_
          show own_Go p e below s _ _ (T47.setTop (mkF m 197 #[.val (.int q0), .val (.int q1), .val (.int P1), .val (.int P2), .val (.int P3), .val (.int A), .val (.int B), .val (.ref b1), .val (.ref b3), .val (.ref b6), .val (.ref b10), .val (.ref b15), .val (.ref b26), .unset, .unset, .unset, .unset] [(.int B), (.ref b26)]))
          have f85 := (((V37.other W41 (Ne.symm ne_b3_b26)).other W44 (Ne.symm ne_b6_b26)).other W47 (Ne.symm ne_b10_b26))
          obtain ⟨c84, Ar84, q84, S84, M84, Hh84, G84⟩ := id f85
          have hin84 : ¬ (B < 0 ∨ c84.slots.size ≤ (B).toNatClampNeg) := inb_of S84 (own_b4 (own_bj hB hc190_83))
          have hat84 := Has.at Hh84 hin84 (v := (.ref (own_ad b1 b3 b6 b10 B))) (own_at4 b1 b3 b6 b10 _ (own_bj hB hc190_83))
          refine own_by (fun tz kz => X47.aaload hx (j := B) (v := (.ref (own_ad b1 b3 b6 b10 B))) (by rw [e47]; exact Ar84.1) (State.isArrayOf_alike hZ.alike Ar84.2.1) rfl Ar84.2.2 hin84 hat84 (g := (mkF m 197 #[.val (.int q0), .val (.int q1), .val (.int P1), .val (.int P2), .val (.int P3), .val (.int A), .val (.int B), .val (.ref b1), .val (.ref b3), .val (.ref b6), .val (.ref b10), .val (.ref b15), .val (.ref b26), .unset, .unset, .unset, .unset] [(.int B), (.ref b26)])) rfl rfl (hb hby at_197) _ kz) ?_
          show own_Go p e below s _ _ (T47.setTop (mkF m 198 #[.val (.int q0), .val (.int q1), .val (.int P1), .val (.int P2), .val (.int P3), .val (.int A), .val (.int B), .val (.ref b1), .val (.ref b3), .val (.ref b6), .val (.ref b10), .val (.ref b15), .val (.ref b26), .unset, .unset, .unset, .unset] [(.ref (own_ad b1 b3 b6 b10 B))]))
          refine own_by (fun tz kz => XS.goto X47.here hx rfl (pc0 := 198) (pc' := 202) rfl (hb hby at_198) (by decide) (by decide) kz) ?_
          show own_Go p e below s _ _ (T47.setTop (mkF m 202 #[.val (.int q0), .val (.int q1), .val (.int P1), .val (.int P2), .val (.int P3), .val (.int A), .val (.int B), .val (.ref b1), .val (.ref b3), .val (.ref b6), .val (.ref b10), .val (.ref b15), .val (.ref b26), .unset, .unset, .unset, .unset] [(.ref (own_ad b1 b3 b6 b10 B))]))
          refine own_by (fun tz kz => XS.astore X47.here hx rfl (hb hby at_202) rfl rfl (l' := #[.val (.int q0), .val (.int q1), .val (.int P1), .val (.int P2), .val (.int P3), .val (.int A), .val (.int B), .val (.ref b1), .val (.ref b3), .val (.ref b6), .val (.ref b10), .val (.ref b15), .val (.ref b26), .val (.ref (own_ad b1 b3 b6 b10 B)), .unset, .unset, .unset]) rfl kz) ?_
          exact J204 _ (if_pos hc190_83).symm
        · refine own_by (fun tz kz => XS.icmpYes X47.here hx rfl (pc0 := 190) (pc' := 201) rfl (hb hby at_190) rfl (flt hc190_83).2.1 (by decide) (by decide) kz) ?_
          show own_Go p e below s _ _ (T47.setTop (mkF m 201 #[.val (.int q0), .val (.int q1), .val (.int P1), .val (.int P2), .val (.int P3), .val (.int A), .val (.int B), .val (.ref b1), .val (.ref b3), .val (.ref b6), .val (.ref b10), .val (.ref b15), .val (.ref b26), .unset, .unset, .unset, .unset] []))
          refine own_by (fun tz kz => XS.aconstNull X47.here hx rfl (hb hby at_201) kz) ?_
          show own_Go p e below s _ _ (T47.setTop (mkF m 202 #[.val (.int q0), .val (.int q1), .val (.int P1), .val (.int P2), .val (.int P3), .val (.int A), .val (.int B), .val (.ref b1), .val (.ref b3), .val (.ref b6), .val (.ref b10), .val (.ref b15), .val (.ref b26), .unset, .unset, .unset, .unset] [.null]))
          refine own_by (fun tz kz => XS.astore X47.here hx rfl (hb hby at_202) rfl rfl (l' := #[.val (.int q0), .val (.int q1), .val (.int P1), .val (.int P2), .val (.int P3), .val (.int A), .val (.int B), .val (.ref b1), .val (.ref b3), .val (.ref b6), .val (.ref b10), .val (.ref b15), .val (.ref b26), .val .null, .unset, .unset, .unset]) rfl kz) ?_
          exact J204 _ (if_neg hc190_83).symm
      show own_Go p e below s _ _ (T44.setTop (mkF m 168 #[.val (.int q0), .val (.int q1), .val (.int P1), .val (.int P2), .val (.int P3), .val (.int A), .val (.int B), .val (.ref b1), .val (.ref b3), .val (.ref b6), .val (.ref b10), .val (.ref b15), .val (.ref b26), .unset, .unset, .unset, .unset] []))
      refine own_by (fun tz kz => XS.aload X44.here hx rfl (hb hby at_168) rfl rfl kz) ?_
      show own_Go p e below s _ _ (T44.setTop (mkF m 170 #[.val (.int q0), .val (.int q1), .val (.int P1), .val (.int P2), .val (.int P3), .val (.int A), .val (.int B), .val (.ref b1), .val (.ref b3), .val (.ref b6), .val (.ref b10), .val (.ref b15), .val (.ref b26), .unset, .unset, .unset, .unset] [(.ref b10)]))
      refine own_by (fun tz kz => XS.iload X44.here hx rfl (hb hby at_170) rfl  kz) ?_
      show own_Go p e below s _ _ (T44.setTop (mkF m 172 #[.val (.int q0), .val (.int q1), .val (.int P1), .val (.int P2), .val (.int P3), .val (.int A), .val (.int B), .val (.ref b1), .val (.ref b3), .val (.ref b6), .val (.ref b10), .val (.ref b15), .val (.ref b26), .unset, .unset, .unset, .unset] [(.int P3), (.ref b10)]))
      by_cases hc172_86 : P3 < (0 : Int32)
      · refine own_by (fun tz kz => XS.ifNo X44.here hx rfl (hb hby at_172) rfl ((if0 _ _).trans (tlt hc172_86).2.1) kz) ?_
        show own_Go p e below s _ _ (T44.setTop (mkF m 175 #[.val (.int q0), .val (.int q1), .val (.int P1), .val (.int P2), .val (.int P3), .val (.int A), .val (.int B), .val (.ref b1), .val (.ref b3), .val (.ref b6), .val (.ref b10), .val (.ref b15), .val (.ref b26), .unset, .unset, .unset, .unset] [(.ref b10)]))
        refine own_by (fun tz kz => XS.aconstNull X44.here hx rfl (hb hby at_175) kz) ?_
        show own_Go p e below s _ _ (T44.setTop (mkF m 176 #[.val (.int q0), .val (.int q1), .val (.int P1), .val (.int P2), .val (.int P3), .val (.int A), .val (.int B), .val (.ref b1), .val (.ref b3), .val (.ref b6), .val (.ref b10), .val (.ref b15), .val (.ref b26), .unset, .unset, .unset, .unset] [.null, (.ref b10)]))
        refine own_by (fun tz kz => XS.goto X44.here hx rfl (pc0 := 176) (pc' := 184) rfl (hb hby at_176) (by decide) (by decide) kz) ?_
        exact J184 _ (if_pos hc172_86).symm
      · refine own_by (fun tz kz => XS.ifYes X44.here hx rfl (pc0 := 172) (pc' := 179) rfl (hb hby at_172) rfl ((if0 _ _).trans (flt hc172_86).2.1) (by decide) (by decide) kz) ?_
        show own_Go p e below s _ _ (T44.setTop (mkF m 179 #[.val (.int q0), .val (.int q1), .val (.int P1), .val (.int P2), .val (.int P3), .val (.int A), .val (.int B), .val (.ref b1), .val (.ref b3), .val (.ref b6), .val (.ref b10), .val (.ref b15), .val (.ref b26), .unset, .unset, .unset, .unset] [(.ref b10)]))
        refine own_by (fun tz kz => XS.aload X44.here hx rfl (hb hby at_179) rfl rfl kz) ?_
        show own_Go p e below s _ _ (T44.setTop (mkF m 181 #[.val (.int q0), .val (.int q1), .val (.int P1), .val (.int P2), .val (.int P3), .val (.int A), .val (.int B), .val (.ref b1), .val (.ref b3), .val (.ref b6), .val (.ref b10), .val (.ref b15), .val (.ref b26), .unset, .unset, .unset, .unset] [(.ref b15), (.ref b10)]))
        refine own_by (fun tz kz => XS.iload X44.here hx rfl (hb hby at_181) rfl  kz) ?_
        show own_Go p e below s _ _ (T44.setTop (mkF m 183 #[.val (.int q0), .val (.int q1), .val (.int P1), .val (.int P2), .val (.int P3), .val (.int A), .val (.int B), .val (.ref b1), .val (.ref b3), .val (.ref b6), .val (.ref b10), .val (.ref b15), .val (.ref b26), .unset, .unset, .unset, .unset] [(.int P3), (.ref b15), (.ref b10)]))
        have f88 := (((((((Arv.ext V24 E26).other W31 ne_b15_b26).other W33 ne_b15_b26).other W35 ne_b15_b26).other W37 ne_b15_b26).other W41 (Ne.symm ne_b3_b15)).other W44 (Ne.symm ne_b6_b15))
        obtain ⟨c87, Ar87, q87, S87, M87, Hh87, G87⟩ := id f88
        have hin87 : ¬ (P3 < 0 ∨ c87.slots.size ≤ (P3).toNatClampNeg) := inb_of S87 (own_b3 (own_pos4 hp3 hc172_86))
        have hat87 := Has.at Hh87 hin87 (v := (.ref (own_ad b1 b3 b6 b10 P3))) (own_at3 b1 b3 b6 b10 _ (own_pos4 hp3 hc172_86))
        refine own_by (fun tz kz => X44.aaload hx (j := P3) (v := (.ref (own_ad b1 b3 b6 b10 P3))) (by rw [e44]; exact Ar87.1) (State.isArrayOf_alike hZ.alike Ar87.2.1) rfl Ar87.2.2 hin87 hat87 (g := (mkF m 183 #[.val (.int q0), .val (.int q1), .val (.int P1), .val (.int P2), .val (.int P3), .val (.int A), .val (.int B), .val (.ref b1), .val (.ref b3), .val (.ref b6), .val (.ref b10), .val (.ref b15), .val (.ref b26), .unset, .unset, .unset, .unset] [(.int P3), (.ref b15), (.ref b10)])) rfl rfl (hb hby at_183) _ kz) ?_
        exact J184 _ (if_neg hc172_86).symm
    show own_Go p e below s _ _ (T41.setTop (mkF m 151 #[.val (.int q0), .val (.int q1), .val (.int P1), .val (.int P2), .val (.int P3), .val (.int A), .val (.int B), .val (.ref b1), .val (.ref b3), .val (.ref b6), .val (.ref b10), .val (.ref b15), .val (.ref b26), .unset, .unset, .unset, .unset] []))
    refine own_by (fun tz kz => XS.aload X41.here hx rfl (hb hby at_151) rfl rfl kz) ?_
    show own_Go p e below s _ _ (T41.setTop (mkF m 153 #[.val (.int q0), .val (.int q1), .val (.int P1), .val (.int P2), .val (.int P3), .val (.int A), .val (.int B), .val (.ref b1), .val (.ref b3), .val (.ref b6), .val (.ref b10), .val (.ref b15), .val (.ref b26), .unset, .unset, .unset, .unset] [(.ref b6)]))
    refine own_by (fun tz kz => XS.iloadN X41.here hx rfl (hb hby at_153) rfl  kz) ?_
    show own_Go p e below s _ _ (T41.setTop (mkF m 154 #[.val (.int q0), .val (.int q1), .val (.int P1), .val (.int P2), .val (.int P3), .val (.int A), .val (.int B), .val (.ref b1), .val (.ref b3), .val (.ref b6), .val (.ref b10), .val (.ref b15), .val (.ref b26), .unset, .unset, .unset, .unset] [(.int P2), (.ref b6)]))
    by_cases hc154_89 : P2 < (0 : Int32)
    · refine own_by (fun tz kz => XS.ifNo X41.here hx rfl (hb hby at_154) rfl ((if0 _ _).trans (tlt hc154_89).2.1) kz) ?_
      show own_Go p e below s _ _ (T41.setTop (mkF m 157 #[.val (.int q0), .val (.int q1), .val (.int P1), .val (.int P2), .val (.int P3), .val (.int A), .val (.int B), .val (.ref b1), .val (.ref b3), .val (.ref b6), .val (.ref b10), .val (.ref b15), .val (.ref b26), .unset, .unset, .unset, .unset] [(.ref b6)]))
      refine own_by (fun tz kz => XS.aconstNull X41.here hx rfl (hb hby at_157) kz) ?_
      show own_Go p e below s _ _ (T41.setTop (mkF m 158 #[.val (.int q0), .val (.int q1), .val (.int P1), .val (.int P2), .val (.int P3), .val (.int A), .val (.int B), .val (.ref b1), .val (.ref b3), .val (.ref b6), .val (.ref b10), .val (.ref b15), .val (.ref b26), .unset, .unset, .unset, .unset] [.null, (.ref b6)]))
      refine own_by (fun tz kz => XS.goto X41.here hx rfl (pc0 := 158) (pc' := 165) rfl (hb hby at_158) (by decide) (by decide) kz) ?_
      exact J165 _ (if_pos hc154_89).symm
    · refine own_by (fun tz kz => XS.ifYes X41.here hx rfl (pc0 := 154) (pc' := 161) rfl (hb hby at_154) rfl ((if0 _ _).trans (flt hc154_89).2.1) (by decide) (by decide) kz) ?_
      show own_Go p e below s _ _ (T41.setTop (mkF m 161 #[.val (.int q0), .val (.int q1), .val (.int P1), .val (.int P2), .val (.int P3), .val (.int A), .val (.int B), .val (.ref b1), .val (.ref b3), .val (.ref b6), .val (.ref b10), .val (.ref b15), .val (.ref b26), .unset, .unset, .unset, .unset] [(.ref b6)]))
      refine own_by (fun tz kz => XS.aload X41.here hx rfl (hb hby at_161) rfl rfl kz) ?_
      show own_Go p e below s _ _ (T41.setTop (mkF m 163 #[.val (.int q0), .val (.int q1), .val (.int P1), .val (.int P2), .val (.int P3), .val (.int A), .val (.int B), .val (.ref b1), .val (.ref b3), .val (.ref b6), .val (.ref b10), .val (.ref b15), .val (.ref b26), .unset, .unset, .unset, .unset] [(.ref b15), (.ref b6)]))
      refine own_by (fun tz kz => XS.iloadN X41.here hx rfl (hb hby at_163) rfl  kz) ?_
      show own_Go p e below s _ _ (T41.setTop (mkF m 164 #[.val (.int q0), .val (.int q1), .val (.int P1), .val (.int P2), .val (.int P3), .val (.int A), .val (.int B), .val (.ref b1), .val (.ref b3), .val (.ref b6), .val (.ref b10), .val (.ref b15), .val (.ref b26), .unset, .unset, .unset, .unset] [(.int P2), (.ref b15), (.ref b6)]))
      have f91 := ((((((Arv.ext V24 E26).other W31 ne_b15_b26).other W33 ne_b15_b26).other W35 ne_b15_b26).other W37 ne_b15_b26).other W41 (Ne.symm ne_b3_b15))
      obtain ⟨c90, Ar90, q90, S90, M90, Hh90, G90⟩ := id f91
      have hin90 : ¬ (P2 < 0 ∨ c90.slots.size ≤ (P2).toNatClampNeg) := inb_of S90 (own_b3 (own_pos3 hp2 hc154_89))
      have hat90 := Has.at Hh90 hin90 (v := (.ref (own_ad b1 b3 b6 b10 P2))) (own_at3 b1 b3 b6 b10 _ (own_pos3 hp2 hc154_89))
      refine own_by (fun tz kz => X41.aaload hx (j := P2) (v := (.ref (own_ad b1 b3 b6 b10 P2))) (by rw [e41]; exact Ar90.1) (State.isArrayOf_alike hZ.alike Ar90.2.1) rfl Ar90.2.2 hin90 hat90 (g := (mkF m 164 #[.val (.int q0), .val (.int q1), .val (.int P1), .val (.int P2), .val (.int P3), .val (.int A), .val (.int B), .val (.ref b1), .val (.ref b3), .val (.ref b6), .val (.ref b10), .val (.ref b15), .val (.ref b26), .unset, .unset, .unset, .unset] [(.int P2), (.ref b15), (.ref b6)])) rfl rfl (hb hby at_164) _ kz) ?_
      exact J165 _ (if_neg hc154_89).symm
  show own_Go p e below s _ _ (T37.setTop (mkF m 134 #[.val (.int q0), .val (.int q1), .val (.int P1), .val (.int P2), .val (.int P3), .val (.int A), .val (.int B), .val (.ref b1), .val (.ref b3), .val (.ref b6), .val (.ref b10), .val (.ref b15), .val (.ref b26), .unset, .unset, .unset, .unset] []))
  refine own_by (fun tz kz => XS.aload X37.here hx rfl (hb hby at_134) rfl rfl kz) ?_
  show own_Go p e below s _ _ (T37.setTop (mkF m 136 #[.val (.int q0), .val (.int q1), .val (.int P1), .val (.int P2), .val (.int P3), .val (.int A), .val (.int B), .val (.ref b1), .val (.ref b3), .val (.ref b6), .val (.ref b10), .val (.ref b15), .val (.ref b26), .unset, .unset, .unset, .unset] [(.ref b3)]))
  refine own_by (fun tz kz => XS.iloadN X37.here hx rfl (hb hby at_136) rfl  kz) ?_
  show own_Go p e below s _ _ (T37.setTop (mkF m 137 #[.val (.int q0), .val (.int q1), .val (.int P1), .val (.int P2), .val (.int P3), .val (.int A), .val (.int B), .val (.ref b1), .val (.ref b3), .val (.ref b6), .val (.ref b10), .val (.ref b15), .val (.ref b26), .unset, .unset, .unset, .unset] [(.int P1), (.ref b3)]))
  by_cases hc137_92 : P1 < (0 : Int32)
  · refine own_by (fun tz kz => XS.ifNo X37.here hx rfl (hb hby at_137) rfl ((if0 _ _).trans (tlt hc137_92).2.1) kz) ?_
    show own_Go p e below s _ _ (T37.setTop (mkF m 140 #[.val (.int q0), .val (.int q1), .val (.int P1), .val (.int P2), .val (.int P3), .val (.int A), .val (.int B), .val (.ref b1), .val (.ref b3), .val (.ref b6), .val (.ref b10), .val (.ref b15), .val (.ref b26), .unset, .unset, .unset, .unset] [(.ref b3)]))
    refine own_by (fun tz kz => XS.aconstNull X37.here hx rfl (hb hby at_140) kz) ?_
    show own_Go p e below s _ _ (T37.setTop (mkF m 141 #[.val (.int q0), .val (.int q1), .val (.int P1), .val (.int P2), .val (.int P3), .val (.int A), .val (.int B), .val (.ref b1), .val (.ref b3), .val (.ref b6), .val (.ref b10), .val (.ref b15), .val (.ref b26), .unset, .unset, .unset, .unset] [.null, (.ref b3)]))
    refine own_by (fun tz kz => XS.goto X37.here hx rfl (pc0 := 141) (pc' := 148) rfl (hb hby at_141) (by decide) (by decide) kz) ?_
    exact J148 _ (if_pos hc137_92).symm
  · refine own_by (fun tz kz => XS.ifYes X37.here hx rfl (pc0 := 137) (pc' := 144) rfl (hb hby at_137) rfl ((if0 _ _).trans (flt hc137_92).2.1) (by decide) (by decide) kz) ?_
    show own_Go p e below s _ _ (T37.setTop (mkF m 144 #[.val (.int q0), .val (.int q1), .val (.int P1), .val (.int P2), .val (.int P3), .val (.int A), .val (.int B), .val (.ref b1), .val (.ref b3), .val (.ref b6), .val (.ref b10), .val (.ref b15), .val (.ref b26), .unset, .unset, .unset, .unset] [(.ref b3)]))
    refine own_by (fun tz kz => XS.aload X37.here hx rfl (hb hby at_144) rfl rfl kz) ?_
    show own_Go p e below s _ _ (T37.setTop (mkF m 146 #[.val (.int q0), .val (.int q1), .val (.int P1), .val (.int P2), .val (.int P3), .val (.int A), .val (.int B), .val (.ref b1), .val (.ref b3), .val (.ref b6), .val (.ref b10), .val (.ref b15), .val (.ref b26), .unset, .unset, .unset, .unset] [(.ref b15), (.ref b3)]))
    refine own_by (fun tz kz => XS.iloadN X37.here hx rfl (hb hby at_146) rfl  kz) ?_
    show own_Go p e below s _ _ (T37.setTop (mkF m 147 #[.val (.int q0), .val (.int q1), .val (.int P1), .val (.int P2), .val (.int P3), .val (.int A), .val (.int B), .val (.ref b1), .val (.ref b3), .val (.ref b6), .val (.ref b10), .val (.ref b15), .val (.ref b26), .unset, .unset, .unset, .unset] [(.int P1), (.ref b15), (.ref b3)]))
    have f94 := (((((Arv.ext V24 E26).other W31 ne_b15_b26).other W33 ne_b15_b26).other W35 ne_b15_b26).other W37 ne_b15_b26)
    obtain ⟨c93, Ar93, q93, S93, M93, Hh93, G93⟩ := id f94
    have hin93 : ¬ (P1 < 0 ∨ c93.slots.size ≤ (P1).toNatClampNeg) := inb_of S93 (own_b3 (own_pos2 hp1 hc137_92))
    have hat93 := Has.at Hh93 hin93 (v := (.ref (own_ad b1 b3 b6 b10 P1))) (own_at3 b1 b3 b6 b10 _ (own_pos2 hp1 hc137_92))
    refine own_by (fun tz kz => X37.aaload hx (j := P1) (v := (.ref (own_ad b1 b3 b6 b10 P1))) (by rw [e37]; exact Ar93.1) (State.isArrayOf_alike hZ.alike Ar93.2.1) rfl Ar93.2.2 hin93 hat93 (g := (mkF m 147 #[.val (.int q0), .val (.int q1), .val (.int P1), .val (.int P2), .val (.int P3), .val (.int A), .val (.int B), .val (.ref b1), .val (.ref b3), .val (.ref b6), .val (.ref b10), .val (.ref b15), .val (.ref b26), .unset, .unset, .unset, .unset] [(.int P1), (.ref b15), (.ref b3)])) rfl rfl (hb hby at_147) _ kz) ?_
    exact J148 _ (if_neg hc137_92).symm
set_option maxRecDepth 65536 in
set_option maxHeartbeats 40000000 in
theorem comes_1 {Post : Tables → Env → Array Value → State → Outcome → State → Prop} (hpost : ∀ tb e args s v u, (limb_1_1.after args s (.returned v) u = true ∧ limb_1_2.after args s (.returned v) u = true ∧ True) → FrameEnd s (.returned v) u (Jvm.fieldLocs frame_1_writes args s ++ Jvm.arrayLocs frame_1_arrays args s ++ Jvm.staticLocs frame_1_statics s) 80 320 → Post tb e args s (.returned v) u) :
    ArmFor flags0 classFile x code maxLocals ret World_1 tables_1 room_1 Calls_1 rest_1 Pre_1 Post := by
  intro l hfl _ _ p e ha hc hk s m args below hf hA hF happ hP
  obtain ⟨hcalls, hrest, hpre⟩ := hP
  obtain ⟨-, -, -, hnamed, -, -, -, hat⟩ := (Spec.applies_iff hf).mp happ
  obtain ⟨hg, hn⟩ := and_e (Cond.before_iff.mp (show (Jvm.Cond.and given_1 narrow_1).before args s = true from hpre))
  obtain ⟨g1a, g1b⟩ := and_e hg
  obtain ⟨g2a, g2b⟩ := and_e g1b
  obtain ⟨w0, w1, rfl⟩ : ∃ w0 w1 : Value, args = #[w0, w1] := by
    have hs : args.size = 2 := by simpa [Cond.value, given_1] using g1a
    obtain ⟨L⟩ := args
    match L, hs with
    | [w0, w1], _ => exact ⟨w0, w1, rfl⟩
  have hw := fun d (hd : d ∈ tables_1) => atoms_spec (ws := Jvm.Cond.code x code maxLocals ret :: tables_1) hat d (List.mem_cons_of_mem _ hd)
  have hfit : Fit s := fun {y c} hc i hi => by
    obtain ⟨ha, rfl⟩ := Array.getElem?_eq_some_iff.mp hc
    have q := List.all_eq_true.mp ((Array.all_eq_true_iff_forall_mem.mp hF) _ (Array.getElem_mem ha)) i (List.mem_range.mpr hi)
    simpa [Array.getElem?_eq_getElem hi] using q
  obtain ⟨i0, ei0⟩ := is_v g2a
  obtain rfl : w0 = (.int i0) := Option.some.inj ei0
  obtain ⟨i1, ei1⟩ := is_v g2b
  obtain rfl : w1 = (.int i1) := Option.some.inj ei1
  obtain ⟨m3a, m3b⟩ := and_e hn
  obtain ⟨m4a, m4b⟩ := and_e m3b
  obtain ⟨m5a, m5b⟩ := and_e m4b
  obtain ⟨m6a, m6b⟩ := and_e m5b
  obtain ⟨m7a, m7b⟩ := and_e m6b
  obtain ⟨TimedList_NO_ITEMS, ev_TimedList_NO_ITEMS⟩ := arr_v m3a
  have S_TimedList_NO_ITEMS : Sta s s.heap "com/example/postweave/postweave/util/TimedList" "NO_ITEMS" "[Ljava/lang/Object;" (.ref TimedList_NO_ITEMS) := Sta.start ev_TimedList_NO_ITEMS (Or.inr ⟨(hw _ (List.mem_of_getElem? (i := 33) rfl)), (hw _ (List.mem_of_getElem? (i := 39) rfl))⟩)
  obtain ⟨c_TimedList_NO_ITEMS, A_TimedList_NO_ITEMS⟩ := Arr.start ev_TimedList_NO_ITEMS m3a
  obtain ⟨_, _, le1, le2, le3⟩ := Term.length_spec (eqv_i (Term.int_eval (0)) m4a)
  cases ev_TimedList_NO_ITEMS.symm.trans le1
  cases (State.arrayAt?_spec le2).1.symm.trans A_TimedList_NO_ITEMS.1
  have z_TimedList_NO_ITEMS : c_TimedList_NO_ITEMS.slots.size.toInt32 = (0 : Int32) := (Value.int.inj le3).symm
  have l_TimedList_NO_ITEMS := own_len31 (eqv_i (Term.int_eval (0)) m4a) ev_TimedList_NO_ITEMS A_TimedList_NO_ITEMS.1
  have V_TimedList_NO_ITEMS : Arv s s.heap TimedList_NO_ITEMS c_TimedList_NO_ITEMS.cls (.object "java/lang/Object") (0 : Int32) [] .null := Arv.start hfit A_TimedList_NO_ITEMS l_TimedList_NO_ITEMS z_TimedList_NO_ITEMS (by decide) rfl trivial
  obtain ⟨TimedList_NO_MILLIS, ev_TimedList_NO_MILLIS⟩ := arr_v m5a
  have S_TimedList_NO_MILLIS : Sta s s.heap "com/example/postweave/postweave/util/TimedList" "NO_MILLIS" "[J" (.ref TimedList_NO_MILLIS) := Sta.start ev_TimedList_NO_MILLIS (Or.inr ⟨(hw _ (List.mem_of_getElem? (i := 33) rfl)), (hw _ (List.mem_of_getElem? (i := 43) rfl))⟩)
  obtain ⟨c_TimedList_NO_MILLIS, A_TimedList_NO_MILLIS⟩ := Arr.start ev_TimedList_NO_MILLIS m5a
  obtain ⟨_, _, le1, le2, le3⟩ := Term.length_spec (eqv_i (Term.int_eval (0)) m6a)
  cases ev_TimedList_NO_MILLIS.symm.trans le1
  cases (State.arrayAt?_spec le2).1.symm.trans A_TimedList_NO_MILLIS.1
  have z_TimedList_NO_MILLIS : c_TimedList_NO_MILLIS.slots.size.toInt32 = (0 : Int32) := (Value.int.inj le3).symm
  have l_TimedList_NO_MILLIS := own_len31 (eqv_i (Term.int_eval (0)) m6a) ev_TimedList_NO_MILLIS A_TimedList_NO_MILLIS.1
  have V_TimedList_NO_MILLIS : Arv s s.heap TimedList_NO_MILLIS c_TimedList_NO_MILLIS.cls .long (0 : Int32) [] (.int (0 : Int32)) := Arv.start hfit A_TimedList_NO_MILLIS l_TimedList_NO_MILLIS z_TimedList_NO_MILLIS (by decide) rfl trivial
  obtain ⟨ViewGroup_NO_VIEWS, ev_ViewGroup_NO_VIEWS⟩ := arr_v m7a
  have S_ViewGroup_NO_VIEWS : Sta s s.heap "com/example/postweave/postweave/view/ViewGroup" "NO_VIEWS" "[Lcom/example/postweave/postweave/view/View;" (.ref ViewGroup_NO_VIEWS) := Sta.start ev_ViewGroup_NO_VIEWS (Or.inr ⟨(hw _ (List.mem_of_getElem? (i := 2) rfl)), (hw _ (List.mem_of_getElem? (i := 133) rfl))⟩)
  obtain ⟨c_ViewGroup_NO_VIEWS, A_ViewGroup_NO_VIEWS⟩ := Arr.start ev_ViewGroup_NO_VIEWS m7a
  obtain ⟨_, _, le1, le2, le3⟩ := Term.length_spec (eqv_i (Term.int_eval (0)) m7b)
  cases ev_ViewGroup_NO_VIEWS.symm.trans le1
  cases (State.arrayAt?_spec le2).1.symm.trans A_ViewGroup_NO_VIEWS.1
  have z_ViewGroup_NO_VIEWS : c_ViewGroup_NO_VIEWS.slots.size.toInt32 = (0 : Int32) := (Value.int.inj le3).symm
  have l_ViewGroup_NO_VIEWS := own_len31 (eqv_i (Term.int_eval (0)) m7b) ev_ViewGroup_NO_VIEWS A_ViewGroup_NO_VIEWS.1
  have V_ViewGroup_NO_VIEWS : Arv s s.heap ViewGroup_NO_VIEWS c_ViewGroup_NO_VIEWS.cls (.object "com/example/postweave/postweave/view/View") (0 : Int32) [] .null := Arv.start hfit A_ViewGroup_NO_VIEWS l_ViewGroup_NO_VIEWS z_ViewGroup_NO_VIEWS (by decide) rfl trivial
  obtain ⟨hsets, hown0⟩ := atoms_of _ (rest_1_c_eq ▸ (show rest_1_c.before _ s = true from hrest))
  obtain ⟨hc1, hc2, hc3, -⟩ := hcalls
  obtain ⟨de, ede⟩ := arr_v (Cond.before_iff.mp (hsets _ (List.mem_of_getElem? (i := 6) rfl)))
  have S_de : Sta s s.heap "java/util/ArrayList" "DEFAULTCAPACITY_EMPTY_ELEMENTDATA" "[Ljava/lang/Object;" (.ref de) := Sta.start ede (Or.inr ⟨(hw _ (List.mem_of_getElem? (i := 63) rfl)), (hsets _ (List.mem_of_getElem? (i := 2) rfl))⟩)
  obtain ⟨cid1, kk1, mA, mq1⟩ := hc1
  have M_A : Mir s "java/util/ArrayList" mA := ⟨cid1, kk1, mq1⟩
  obtain ⟨cid2, kk2, mL, mq2⟩ := hc2
  have M_L : Mir s "java/util/Collections$UnmodifiableList" mL := ⟨cid2, kk2, mq2⟩
  obtain ⟨cid3, kk3, mR, mq3⟩ := hc3
  have M_R : Mir s "java/util/Collections$UnmodifiableRandomAccessList" mR := ⟨cid3, kk3, mq3⟩
  obtain ⟨n, o, h1, h2, h3, _, L, rfl, ⟨rfl, N⟩, hq⟩ := rm0 l s _ hw tables_1 i0 i1 _ _ _ _ _ TimedList_NO_ITEMS TimedList_NO_MILLIS ViewGroup_NO_VIEWS de mA mL mR s.heap s.heap.size (Old.start s) S_TimedList_NO_ITEMS S_TimedList_NO_MILLIS S_ViewGroup_NO_VIEWS S_de M_A M_L M_R rfl rfl rfl rfl rfl (own_e1 _) (own_e2 _) (own_e3 _) (own_ea _) (own_eb _) p e ha hc hk s m _ below hf ((Spec.applies_iff_loose hf).mp happ).1 ⟨rfl, State.Warmed39.refl s, rfl⟩ trivial
  refine ⟨n, _, h1, h2, h3, hpost _ _ _ _ _ _ ⟨Cond.after_iff.mpr rfl, Cond.after_iff.mpr (eq_i res_at (Term.int_eval (1)) rfl), trivial⟩ ⟨hq.1, hq.2.1, (hq.2.2.sift fun y hy => Or.inr (N y hy)).mono (by decide) (by decide)⟩⟩
theorem main_1_1 : Claimed_1_1 := comes_1 fun _ _ _ _ _ _ h hF => ⟨h.1, wide hF⟩
theorem main_1_2 : Claimed_1_2 := comes_1 fun _ _ _ _ _ _ h hF => ⟨h.2.1, wide hF⟩
end Jvm.Pilot.@@N@@
namespace Jvm.Pilot.@@N@@
open Jvm Jvm.ClassFile Sem Op Lib Jvm.Free Jvm.Stand Jvm.Pilot.@@N@@.Jvm.D
/-! MADE BY PROGRAM (witnessworld.py) out of the Statement's table words and the real class files: 34 classes; the members and pool entries that the words name. The judged class is class 1, her method 1. -/
namespace start1
open Jvm.ClassFile
def u (s : String) : CpInfo := .utf8 (stringToUtf16 s)
/-- a pool by its gaps: so many unusable entries, then the entry; so many at the end -/
def gap : Nat → List CpInfo → List CpInfo
  | 0, r => r
  | n + 1, r => .unusable :: gap n r
def poolList (es : List (Nat × CpInfo)) (last : Nat) : List CpInfo := es.foldr (fun e r => gap e.1 (e.2 :: r)) (gap last [])
def pool (es : List (Nat × CpInfo)) (last : Nat) : Array CpInfo := ⟨poolList es last⟩
def fileOf (pool : Array CpInfo) (this : Nat) (attrs : Array Attribute := #[]) (ms : Array MethodInfo := #[]) (fl : Nat := 33) (sup : Nat := 0) (ifs : Array Nat := #[]) (fds : Array FieldInfo := #[]) : ClassFile where
  minorVersion := 0
  majorVersion := 65
  constantPool := pool
  accessFlags := fl
  thisClass := this
  superClass := sup
  interfaces := ifs
  fields := fds
  methods := ms
  attributes := attrs
def plain (name : String) (sup : Option ClassId) : Class where
  name := name
  kind := .ordinary
  loader := none
  accessFlags := 33
  super := sup
  interfaces := #[]
  cf := none
  fields := #[]
  methods := #[]
  instanceTypes := #[]
  staticTypes := #[]
  resolved := #[]
  callSites := []
  init := .initialized
  statics := none
  mirror := none

def pool0 : Array CpInfo := pool [(5, u "<init>"), (0, u "()V"), (1, .class_ 10), (1, u "java/lang/Object"), (0, u "getClass"), (0, u "()Ljava/lang/Class;")] 111

def k0c0 : Code := { maxStack := 0, maxLocals := 1, code := object_method_1_code, exceptionTable := #[], attributes := #[] }
def k0m0 : Method := { name := "<init>", desc := "()V", sig := { parameters := [], returnType := none }, accessFlags := 1, code := some k0c0 }
def k0m1 : Method := { name := "getClass", desc := "()Ljava/lang/Class;", sig := { parameters := [], returnType := some (.object "java/lang/Class") }, accessFlags := 273, code := none }
/-- java/lang/Object -/
def k0 : Class := { plain "java/lang/Object" none with
  accessFlags := 33
  interfaces := #[]
  cf := some (fileOf pool0 8 #[] #[{ accessFlags := 1, nameIndex := 5, descriptorIndex := 6, attributes := #[] }, { accessFlags := 273, nameIndex := 11, descriptorIndex := 12, attributes := #[] }] 33 0 #[] #[])
  fields := #[]
  methods := #[k0m0, k0m1]
  instanceTypes := #[]
  staticTypes := #[]
  resolved := Array.replicate 124 none
  statics := none }

def pool1 : Array CpInfo := pool [(2, .class_ 4), (1, u "java/lang/Object"), (0, u "<init>"), (0, u "()V"), (0, .class_ 8), (0, u "com/example/postweave/postweave/view/ViewGroup"), (0, .methodref 7 10), (0, .nameAndType 5 11), (0, u "(II)V"), (0, .class_ 13), (0, u "com/example/postweave/postweave/view/View"), (0, .methodref 12 10), (0, .fieldref 7 16), (0, .nameAndType 17 18), (0, u "parent"), (0, u "Lcom/example/postweave/postweave/view/ViewGroup;"), (0, .fieldref 12 16), (0, .methodref 12 21), (0, .nameAndType 22 23), (0, u "holds"), (0, u "(Lcom/example/postweave/postweave/view/View;)Z"), (0, .methodref 25 26), (0, .class_ 27), (0, .nameAndType 28 29), (0, u "com/example/postweave/postweave/view/ViewHoldsPinLaw"), (0, u "ancestorOrSelf"), (0, u "([III)Z"), (2, u "law"), (0, u "(II)Z")] 9

def k1m0 : Method := { name := "<init>", desc := "()V", sig := { parameters := [], returnType := none }, accessFlags := 1, code := none }
def k1c1 : Code := { maxStack := 4, maxLocals := 17, code := code, exceptionTable := #[], attributes := #[] }
def k1m1 : Method := { name := "law", desc := "(II)Z", sig := { parameters := [.int, .int], returnType := some .boolean }, accessFlags := 9, code := some k1c1 }
def k1c2 : Code := { maxStack := 2, maxLocals := 7, code := method_3_code, exceptionTable := #[], attributes := #[] }
def k1m2 : Method := { name := "ancestorOrSelf", desc := "([III)Z", sig := { parameters := [(.array .int), .int, .int], returnType := some .boolean }, accessFlags := 10, code := some k1c2 }
/-- com/example/postweave/postweave/view/ViewHoldsPinLaw -/
def k1 : Class := { plain "com/example/postweave/postweave/view/ViewHoldsPinLaw" (some 0) with
  accessFlags := 49
  interfaces := #[]
  cf := some (fileOf pool1 25 #[] #[{ accessFlags := 1, nameIndex := 5, descriptorIndex := 6, attributes := #[] }, { accessFlags := 9, nameIndex := 32, descriptorIndex := 33, attributes := #[] }, { accessFlags := 10, nameIndex := 28, descriptorIndex := 29, attributes := #[] }] 49 2 #[] #[])
  fields := #[]
  methods := #[k1m0, k1m1, k1m2]
  instanceTypes := #[]
  staticTypes := #[]
  resolved := Array.replicate 43 none
  statics := none }

def pool2 : Array CpInfo := pool [(1, .methodref 2 3), (0, .class_ 4), (0, .nameAndType 5 6), (0, u "java/lang/Object"), (0, u "<init>"), (0, u "()V"), (0, .class_ 8), (0, u "com/example/postweave/postweave/view/ViewPosts"), (0, .invokeDynamic 0 10), (0, .nameAndType 11 12), (0, u "run"), (0, u "(Lcom/example/postweave/postweave/view/View;)Ljava/lang/Runnable;"), (0, .invokeDynamic 1 14), (0, .nameAndType 15 16), (0, u "getAsBoolean"), (0, u "(Lcom/example/postweave/postweave/view/View;)Ljava/util/function/BooleanSupplier;"), (0, .methodref 7 18), (0, .nameAndType 5 19), (0, u "(Ljava/lang/Runnable;Ljava/util/function/BooleanSupplier;)V"), (0, .fieldref 21 22), (0, .class_ 23), (0, .nameAndType 24 25), (0, u "com/example/postweave/postweave/view/View"), (0, u "posts"), (0, u "Lcom/example/postweave/postweave/view/ViewPosts;"), (0, .methodref 21 27), (0, .nameAndType 28 29), (0, u "requireSize"), (0, u "(II)V"), (0, .fieldref 21 31), (0, .nameAndType 32 33), (0, u "fixedWidth"), (0, u "I"), (0, .fieldref 21 35), (0, .nameAndType 36 33), (0, u "fixedHeight"), (2, u "width"), (2, u "height"), (4, .fieldref 21 48), (0, .nameAndType 49 50), (0, u "parent"), (0, u "Lcom/example/postweave/postweave/view/ViewGroup;"), (3, u "()Z"), (47, u "root"), (0, u "Lcom/example/postweave/postweave/view/ViewRoot;"), (84, u "holds"), (0, u "(Lcom/example/postweave/postweave/view/View;)Z"), (0, u "inTreeOfQuitLoop"), (0, u "invalidateOnOwnLoop"), (14, .methodType 6), (0, .methodHandle 5 208), (0, .methodref 21 209), (0, .nameAndType 191 6), (0, .methodType 54), (0, .methodHandle 5 212), (0, .methodref 21 213), (0, .nameAndType 190 54), (15, .methodHandle 6 230), (0, .methodref 231 232), (0, .class_ 233), (0, .nameAndType 234 235), (0, u "java/lang/invoke/LambdaMetafactory"), (0, u "metafactory"), (0, u "(Ljava/lang/invoke/MethodHandles$Lookup;Ljava/lang/String;Ljava/lang/invoke/MethodType;Ljava/lang/invoke/MethodType;Ljava/lang/invoke/MethodHandle;Ljava/lang/invoke/MethodType;)Ljava/lang/invoke/CallSite;")] 12

def k2c0 : Code := { maxStack := 5, maxLocals := 3, code := prog_37_method_1_code, exceptionTable := #[], attributes := #[] }
def k2m0 : Method := { name := "<init>", desc := "(II)V", sig := { parameters := [.int, .int], returnType := none }, accessFlags := 1, code := some k2c0 }
def k2c1 : Code := { maxStack := 2, maxLocals := 3, code := prog_37_method_20_code, exceptionTable := #[], attributes := #[] }
def k2m1 : Method := { name := "holds", desc := "(Lcom/example/postweave/postweave/view/View;)Z", sig := { parameters := [(.object "com/example/postweave/postweave/view/View")], returnType := some .boolean }, accessFlags := 16, code := some k2c1 }
def k2c2 : Code := { maxStack := 1, maxLocals := 2, code := ⟨#[0x2a, 0xb6, 0x00, 0x60, 0xb4, 0x00, 0x64, 0x4c, 0x2b, 0xc6, 0x00, 0x0e, 0x2b, 0xb6, 0x00, 0x6c, 0x99, 0x00, 0x07, 0x04, 0xa7, 0x00, 0x04, 0x03, 0xac]⟩, exceptionTable := #[], attributes := #[] }
def k2m2 : Method := { name := "inTreeOfQuitLoop", desc := "()Z", sig := { parameters := [], returnType := some .boolean }, accessFlags := 2, code := some k2c2 }
def k2c3 : Code := { maxStack := 1, maxLocals := 1, code := ⟨#[0x2a, 0xb4, 0x00, 0x14, 0xb6, 0x00, 0x6f, 0x99, 0x00, 0x07, 0x2a, 0xb6, 0x00, 0x72, 0xb1]⟩, exceptionTable := #[], attributes := #[] }
def k2m3 : Method := { name := "invalidateOnOwnLoop", desc := "()V", sig := { parameters := [], returnType := none }, accessFlags := 2, code := some k2c3 }
def k2c4 : Code := { maxStack := 4, maxLocals := 2, code := prog_37_method_32_code, exceptionTable := #[], attributes := #[] }
def k2m4 : Method := { name := "requireSize", desc := "(II)V", sig := { parameters := [.int, .int], returnType := none }, accessFlags := 8, code := some k2c4 }
/-- com/example/postweave/postweave/view/View -/
def k2 : Class := { plain "com/example/postweave/postweave/view/View" (some 0) with
  accessFlags := 33
  interfaces := #[]
  cf := some (fileOf pool2 21 #[.bootstrapMethods #[⟨229, #[206, 207, 206]⟩, ⟨229, #[210, 211, 210]⟩, ⟨0, #[]⟩, ⟨0, #[]⟩, ⟨0, #[]⟩, ⟨0, #[]⟩, ⟨0, #[]⟩]] #[{ accessFlags := 1, nameIndex := 5, descriptorIndex := 29, attributes := #[] }, { accessFlags := 16, nameIndex := 188, descriptorIndex := 189, attributes := #[] }, { accessFlags := 2, nameIndex := 190, descriptorIndex := 54, attributes := #[] }, { accessFlags := 2, nameIndex := 191, descriptorIndex := 6, attributes := #[] }, { accessFlags := 8, nameIndex := 28, descriptorIndex := 29, attributes := #[] }] 33 2 #[] #[{ accessFlags := 2, nameIndex := 32, descriptorIndex := 33, attributes := #[] }, { accessFlags := 2, nameIndex := 36, descriptorIndex := 33, attributes := #[] }, { accessFlags := 2, nameIndex := 39, descriptorIndex := 33, attributes := #[] }, { accessFlags := 2, nameIndex := 42, descriptorIndex := 33, attributes := #[] }, { accessFlags := 64, nameIndex := 49, descriptorIndex := 50, attributes := #[] }, { accessFlags := 64, nameIndex := 102, descriptorIndex := 103, attributes := #[] }, { accessFlags := 18, nameIndex := 24, descriptorIndex := 25, attributes := #[] }])
  fields := #[{ name := "fixedWidth", type := .int, accessFlags := 2, slot := 0, constantValue := 0 }, { name := "fixedHeight", type := .int, accessFlags := 2, slot := 1, constantValue := 0 }, { name := "width", type := .int, accessFlags := 2, slot := 2, constantValue := 0 }, { name := "height", type := .int, accessFlags := 2, slot := 3, constantValue := 0 }, { name := "parent", type := (.object "com/example/postweave/postweave/view/ViewGroup"), accessFlags := 64, slot := 4, constantValue := 0 }, { name := "root", type := (.object "com/example/postweave/postweave/view/ViewRoot"), accessFlags := 64, slot := 5, constantValue := 0 }, { name := "posts", type := (.object "com/example/postweave/postweave/view/ViewPosts"), accessFlags := 18, slot := 6, constantValue := 0 }]
  methods := #[k2m0, k2m1, k2m2, k2m3, k2m4]
  instanceTypes := #[.int, .int, .int, .int, (.object "com/example/postweave/postweave/view/ViewGroup"), (.object "com/example/postweave/postweave/view/ViewRoot"), (.object "com/example/postweave/postweave/view/ViewPosts")]
  staticTypes := #[]
  resolved := Array.replicate 248 none
  callSites := [(0, 10, .makes 32), (0, 16, .makes 33)]
  statics := none }

def pool3 : Array CpInfo := pool [(1, .methodref 2 3), (0, .class_ 4), (0, .nameAndType 5 6), (0, u "com/example/postweave/postweave/view/View"), (0, u "<init>"), (0, u "(II)V"), (0, .class_ 8), (0, u "java/util/ArrayList"), (0, .methodref 7 10), (0, .nameAndType 5 11), (0, u "()V"), (0, .fieldref 13 14), (0, .class_ 15), (0, .nameAndType 16 17), (0, u "com/example/postweave/postweave/view/ViewGroup"), (0, u "children"), (0, u "Ljava/util/List;"), (0, .methodref 19 20), (0, .class_ 21), (0, .nameAndType 22 23), (0, u "java/util/Collections"), (0, u "unmodifiableList"), (0, u "(Ljava/util/List;)Ljava/util/List;"), (0, .fieldref 13 25), (0, .nameAndType 26 17), (0, u "readOnlyChildren"), (0, .fieldref 13 28), (0, .nameAndType 29 30), (0, u "NO_VIEWS"), (0, u "[Lcom/example/postweave/postweave/view/View;"), (0, .fieldref 13 32), (0, .nameAndType 33 30), (0, u "walkedChildren")] 160

def k3c0 : Code := { maxStack := 3, maxLocals := 3, code := prog_38_method_1_code, exceptionTable := #[], attributes := #[] }
def k3m0 : Method := { name := "<init>", desc := "(II)V", sig := { parameters := [.int, .int], returnType := none }, accessFlags := 1, code := some k3c0 }
/-- com/example/postweave/postweave/view/ViewGroup -/
def k3 : Class := { plain "com/example/postweave/postweave/view/ViewGroup" (some 2) with
  accessFlags := 33
  interfaces := #[]
  cf := some (fileOf pool3 13 #[] #[{ accessFlags := 1, nameIndex := 5, descriptorIndex := 6, attributes := #[] }] 33 2 #[] #[{ accessFlags := 26, nameIndex := 29, descriptorIndex := 30, attributes := #[] }, { accessFlags := 18, nameIndex := 16, descriptorIndex := 17, attributes := #[] }, { accessFlags := 18, nameIndex := 26, descriptorIndex := 17, attributes := #[] }, { accessFlags := 2, nameIndex := 33, descriptorIndex := 30, attributes := #[] }])
  fields := #[{ name := "NO_VIEWS", type := (.array (.object "com/example/postweave/postweave/view/View")), accessFlags := 26, slot := 0, constantValue := 0 }, { name := "children", type := (.object "java/util/List"), accessFlags := 18, slot := 7, constantValue := 0 }, { name := "readOnlyChildren", type := (.object "java/util/List"), accessFlags := 18, slot := 8, constantValue := 0 }, { name := "walkedChildren", type := (.array (.object "com/example/postweave/postweave/view/View")), accessFlags := 2, slot := 9, constantValue := 0 }]
  methods := #[k3m0]
  instanceTypes := #[.int, .int, .int, .int, (.object "com/example/postweave/postweave/view/ViewGroup"), (.object "com/example/postweave/postweave/view/ViewRoot"), (.object "com/example/postweave/postweave/view/ViewPosts"), (.object "java/util/List"), (.object "java/util/List"), (.array (.object "com/example/postweave/postweave/view/View"))]
  staticTypes := #[(.array (.object "com/example/postweave/postweave/view/View"))]
  resolved := Array.replicate 194 none
  statics := some 0 }

def pool4 : Array CpInfo := pool [(1, .methodref 2 3), (0, .class_ 4), (0, .nameAndType 5 6), (0, u "java/lang/Object"), (0, u "<init>"), (0, u "()V"), (0, .fieldref 8 9), (0, .class_ 10), (0, .nameAndType 11 12), (0, u "com/example/postweave/postweave/view/ViewPosts"), (0, u "lock"), (0, u "Ljava/lang/Object;"), (0, .class_ 14), (0, u "com/example/postweave/postweave/util/TimedList"), (0, .methodref 13 3), (0, .fieldref 8 17), (0, .nameAndType 18 19), (0, u "waiting"), (0, u "Lcom/example/postweave/postweave/util/TimedList;"), (0, .fieldref 8 21), (0, .nameAndType 22 23), (0, u "redraw"), (0, u "Ljava/lang/Runnable;"), (0, .fieldref 8 25), (0, .nameAndType 26 27), (0, u "treeLoopHasQuit"), (0, u "Ljava/util/function/BooleanSupplier;"), (2, u "attached"), (0, u "Z"), (2, u "loopWaiting"), (7, u "handler"), (0, u "Lcom/example/postweave/postweave/loop/Handler;"), (26, u "loop"), (0, u "Lcom/example/postweave/postweave/loop/MessageLoop;"), (52, u "(Ljava/lang/Runnable;Ljava/util/function/BooleanSupplier;)V")] 33

def k4c0 : Code := { maxStack := 3, maxLocals := 3, code := prog_40_method_1_code, exceptionTable := #[], attributes := #[] }
def k4m0 : Method := { name := "<init>", desc := "(Ljava/lang/Runnable;Ljava/util/function/BooleanSupplier;)V", sig := { parameters := [(.object "java/lang/Runnable"), (.object "java/util/function/BooleanSupplier")], returnType := none }, accessFlags := 0, code := some k4c0 }
/-- com/example/postweave/postweave/view/ViewPosts -/
def k4 : Class := { plain "com/example/postweave/postweave/view/ViewPosts" (some 0) with
  accessFlags := 48
  interfaces := #[]
  cf := some (fileOf pool4 8 #[] #[{ accessFlags := 0, nameIndex := 5, descriptorIndex := 124, attributes := #[] }] 48 2 #[] #[{ accessFlags := 18, nameIndex := 11, descriptorIndex := 12, attributes := #[] }, { accessFlags := 66, nameIndex := 30, descriptorIndex := 31, attributes := #[] }, { accessFlags := 66, nameIndex := 34, descriptorIndex := 31, attributes := #[] }, { accessFlags := 66, nameIndex := 70, descriptorIndex := 71, attributes := #[] }, { accessFlags := 2, nameIndex := 42, descriptorIndex := 43, attributes := #[] }, { accessFlags := 18, nameIndex := 18, descriptorIndex := 19, attributes := #[] }, { accessFlags := 18, nameIndex := 22, descriptorIndex := 23, attributes := #[] }, { accessFlags := 18, nameIndex := 26, descriptorIndex := 27, attributes := #[] }])
  fields := #[{ name := "lock", type := (.object "java/lang/Object"), accessFlags := 18, slot := 0, constantValue := 0 }, { name := "attached", type := .boolean, accessFlags := 66, slot := 1, constantValue := 0 }, { name := "loopWaiting", type := .boolean, accessFlags := 66, slot := 2, constantValue := 0 }, { name := "loop", type := (.object "com/example/postweave/postweave/loop/MessageLoop"), accessFlags := 66, slot := 3, constantValue := 0 }, { name := "handler", type := (.object "com/example/postweave/postweave/loop/Handler"), accessFlags := 2, slot := 4, constantValue := 0 }, { name := "waiting", type := (.object "com/example/postweave/postweave/util/TimedList"), accessFlags := 18, slot := 5, constantValue := 0 }, { name := "redraw", type := (.object "java/lang/Runnable"), accessFlags := 18, slot := 6, constantValue := 0 }, { name := "treeLoopHasQuit", type := (.object "java/util/function/BooleanSupplier"), accessFlags := 18, slot := 7, constantValue := 0 }]
  methods := #[k4m0]
  instanceTypes := #[(.object "java/lang/Object"), .boolean, .boolean, (.object "com/example/postweave/postweave/loop/MessageLoop"), (.object "com/example/postweave/postweave/loop/Handler"), (.object "com/example/postweave/postweave/util/TimedList"), (.object "java/lang/Runnable"), (.object "java/util/function/BooleanSupplier")]
  staticTypes := #[]
  resolved := Array.replicate 158 none
  statics := none }

def pool5 : Array CpInfo := pool [(1, .class_ 2), (0, u "java/lang/Runnable"), (0, .class_ 4), (0, u "java/lang/Object"), (0, u "run"), (0, u "()V")] 4

def k5m0 : Method := { name := "run", desc := "()V", sig := { parameters := [], returnType := none }, accessFlags := 1025, code := none }
/-- java/lang/Runnable -/
def k5 : Class := { plain "java/lang/Runnable" (some 0) with
  accessFlags := 1537
  interfaces := #[]
  cf := some (fileOf pool5 1 #[] #[{ accessFlags := 1025, nameIndex := 5, descriptorIndex := 6, attributes := #[] }] 1537 3 #[] #[])
  fields := #[]
  methods := #[k5m0]
  instanceTypes := #[]
  staticTypes := #[]
  resolved := Array.replicate 11 none
  statics := none }

def pool6 : Array CpInfo := pool [(1, .class_ 2), (0, u "java/util/function/BooleanSupplier"), (0, .class_ 4), (0, u "java/lang/Object"), (0, u "getAsBoolean"), (0, u "()Z")] 4

def k6m0 : Method := { name := "getAsBoolean", desc := "()Z", sig := { parameters := [], returnType := some .boolean }, accessFlags := 1025, code := none }
/-- java/util/function/BooleanSupplier -/
def k6 : Class := { plain "java/util/function/BooleanSupplier" (some 0) with
  accessFlags := 1537
  interfaces := #[]
  cf := some (fileOf pool6 1 #[] #[{ accessFlags := 1025, nameIndex := 5, descriptorIndex := 6, attributes := #[] }] 1537 3 #[] #[])
  fields := #[]
  methods := #[k6m0]
  instanceTypes := #[]
  staticTypes := #[]
  resolved := Array.replicate 11 none
  statics := none }

def pool7 : Array CpInfo := pool [(1, .methodref 2 3), (0, .class_ 4), (0, .nameAndType 5 6), (0, u "java/lang/Object"), (0, u "<init>"), (0, u "()V"), (0, .fieldref 8 9), (0, .class_ 10), (0, .nameAndType 11 12), (0, u "com/example/postweave/postweave/util/TimedList"), (0, u "NO_ITEMS"), (0, u "[Ljava/lang/Object;"), (0, .fieldref 8 14), (0, .nameAndType 15 12), (0, u "items"), (0, .fieldref 8 17), (0, .nameAndType 18 19), (0, u "NO_MILLIS"), (0, u "[J"), (0, .fieldref 8 21), (0, .nameAndType 22 19), (0, u "millis"), (2, u "size"), (0, u "I"), (10, u "first"), (59, u "INITIAL_CAPACITY")] 25

def k7c0 : Code := { maxStack := 2, maxLocals := 1, code := prog_36_method_1_code, exceptionTable := #[], attributes := #[] }
def k7m0 : Method := { name := "<init>", desc := "()V", sig := { parameters := [], returnType := none }, accessFlags := 1, code := some k7c0 }
/-- com/example/postweave/postweave/util/TimedList -/
def k7 : Class := { plain "com/example/postweave/postweave/util/TimedList" (some 0) with
  accessFlags := 49
  interfaces := #[]
  cf := some (fileOf pool7 8 #[] #[{ accessFlags := 1, nameIndex := 5, descriptorIndex := 6, attributes := #[] }] 49 2 #[] #[{ accessFlags := 26, nameIndex := 11, descriptorIndex := 12, attributes := #[] }, { accessFlags := 26, nameIndex := 18, descriptorIndex := 19, attributes := #[] }, { accessFlags := 26, nameIndex := 97, descriptorIndex := 26, attributes := #[] }, { accessFlags := 2, nameIndex := 15, descriptorIndex := 12, attributes := #[] }, { accessFlags := 2, nameIndex := 22, descriptorIndex := 19, attributes := #[] }, { accessFlags := 2, nameIndex := 37, descriptorIndex := 26, attributes := #[] }, { accessFlags := 2, nameIndex := 25, descriptorIndex := 26, attributes := #[] }])
  fields := #[{ name := "NO_ITEMS", type := (.array (.object "java/lang/Object")), accessFlags := 26, slot := 0, constantValue := 0 }, { name := "NO_MILLIS", type := (.array .long), accessFlags := 26, slot := 1, constantValue := 0 }, { name := "INITIAL_CAPACITY", type := .int, accessFlags := 26, slot := 2, constantValue := 0 }, { name := "items", type := (.array (.object "java/lang/Object")), accessFlags := 2, slot := 0, constantValue := 0 }, { name := "millis", type := (.array .long), accessFlags := 2, slot := 1, constantValue := 0 }, { name := "first", type := .int, accessFlags := 2, slot := 2, constantValue := 0 }, { name := "size", type := .int, accessFlags := 2, slot := 3, constantValue := 0 }]
  methods := #[k7m0]
  instanceTypes := #[(.array (.object "java/lang/Object")), (.array .long), .int, .int]
  staticTypes := #[(.array (.object "java/lang/Object")), (.array .long), .int]
  resolved := Array.replicate 123 none
  statics := some 1 }

def pool8 : Array CpInfo := pool [(8, .class_ 10), (1, u "java/lang/Iterable"), (24, .class_ 36), (0, u "java/lang/Object")] 25

/-- java/lang/Iterable -/
def k8 : Class := { plain "java/lang/Iterable" (some 0) with
  accessFlags := 1537
  interfaces := #[]
  cf := some (fileOf pool8 8 #[] #[] 1537 35 #[] #[])
  fields := #[]
  methods := #[]
  instanceTypes := #[]
  staticTypes := #[]
  resolved := Array.replicate 62 none
  statics := none }

def pool9 : Array CpInfo := pool [(10, .class_ 12), (1, u "java/util/Collection"), (47, .class_ 61), (0, u "java/lang/Object"), (0, .class_ 63), (0, u "java/lang/Iterable")] 51

/-- java/util/Collection -/
def k9 : Class := { plain "java/util/Collection" (some 0) with
  accessFlags := 1537
  interfaces := #[8]
  cf := some (fileOf pool9 10 #[] #[] 1537 60 #[62] #[])
  fields := #[]
  methods := #[]
  instanceTypes := #[]
  staticTypes := #[]
  resolved := Array.replicate 115 none
  statics := none }

def pool10 : Array CpInfo := pool [(1, .methodref 2 3), (0, .class_ 4), (0, .nameAndType 5 6), (0, u "java/lang/Object"), (0, u "<init>"), (0, u "()V"), (1, .class_ 10), (1, u "java/util/AbstractCollection"), (66, .class_ 78), (0, u "java/util/Collection")] 81

def k10c0 : Code := { maxStack := 1, maxLocals := 1, code := jdk_22_method_1_code, exceptionTable := #[], attributes := #[] }
def k10m0 : Method := { name := "<init>", desc := "()V", sig := { parameters := [], returnType := none }, accessFlags := 4, code := some k10c0 }
/-- java/util/AbstractCollection -/
def k10 : Class := { plain "java/util/AbstractCollection" (some 0) with
  accessFlags := 1057
  interfaces := #[9]
  cf := some (fileOf pool10 8 #[] #[{ accessFlags := 4, nameIndex := 5, descriptorIndex := 6, attributes := #[] }] 1057 2 #[77] #[])
  fields := #[]
  methods := #[k10m0]
  instanceTypes := #[]
  staticTypes := #[]
  resolved := Array.replicate 160 none
  statics := none }

def pool11 : Array CpInfo := pool [(8, .class_ 10), (1, u "java/util/SequencedCollection"), (15, .class_ 27), (0, u "java/lang/Object"), (0, .class_ 29), (0, u "java/util/Collection")] 27

/-- java/util/SequencedCollection -/
def k11 : Class := { plain "java/util/SequencedCollection" (some 0) with
  accessFlags := 1537
  interfaces := #[9]
  cf := some (fileOf pool11 8 #[] #[] 1537 26 #[28] #[])
  fields := #[]
  methods := #[]
  instanceTypes := #[]
  staticTypes := #[]
  resolved := Array.replicate 57 none
  statics := none }

def pool12 : Array CpInfo := pool [(8, .class_ 10), (1, u "java/util/List"), (92, .class_ 104), (0, u "java/lang/Object"), (15, .class_ 121), (0, u "java/util/SequencedCollection")] 129

/-- java/util/List -/
def k12 : Class := { plain "java/util/List" (some 0) with
  accessFlags := 1537
  interfaces := #[11]
  cf := some (fileOf pool12 8 #[] #[] 1537 103 #[120] #[])
  fields := #[]
  methods := #[]
  instanceTypes := #[]
  staticTypes := #[]
  resolved := Array.replicate 251 none
  statics := none }

def pool13 : Array CpInfo := pool [(1, .methodref 2 3), (0, .class_ 4), (0, .nameAndType 5 6), (0, u "java/util/AbstractCollection"), (0, u "<init>"), (0, u "()V"), (0, .fieldref 8 9), (0, .class_ 10), (0, .nameAndType 11 12), (0, u "java/util/AbstractList"), (0, u "modCount"), (0, u "I"), (64, .class_ 78), (0, u "java/util/AbstractList$Itr"), (3, .class_ 83), (0, u "java/util/AbstractList$ListItr"), (9, .class_ 94), (0, u "java/util/AbstractList$RandomAccessSubList"), (3, .class_ 99), (0, u "java/util/AbstractList$SubList"), (33, .class_ 134), (0, u "java/util/List"), (73, .class_ 209), (0, u "java/util/AbstractList$SubList$1"), (0, .class_ 211), (0, u "java/util/AbstractList$RandomAccessSpliterator")] 6

def k13c0 : Code := { maxStack := 2, maxLocals := 1, code := jdk_39_method_1_code, exceptionTable := #[], attributes := #[] }
def k13m0 : Method := { name := "<init>", desc := "()V", sig := { parameters := [], returnType := none }, accessFlags := 4, code := some k13c0 }
/-- java/util/AbstractList -/
def k13 : Class := { plain "java/util/AbstractList" (some 10) with
  accessFlags := 1057
  interfaces := #[12]
  cf := some (fileOf pool13 8 #[.nestMembers #[93, 98, 208, 210, 82, 77]] #[{ accessFlags := 4, nameIndex := 5, descriptorIndex := 6, attributes := #[] }] 1057 2 #[133] #[{ accessFlags := 132, nameIndex := 11, descriptorIndex := 12, attributes := #[] }])
  fields := #[{ name := "modCount", type := .int, accessFlags := 132, slot := 0, constantValue := 0 }]
  methods := #[k13m0]
  instanceTypes := #[.int]
  staticTypes := #[]
  resolved := Array.replicate 218 none
  statics := none }

def pool14 : Array CpInfo := pool [(1, .class_ 2), (0, u "java/util/RandomAccess"), (0, .class_ 4), (0, u "java/lang/Object")] 2

/-- java/util/RandomAccess -/
def k14 : Class := { plain "java/util/RandomAccess" (some 0) with
  accessFlags := 1537
  interfaces := #[]
  cf := some (fileOf pool14 1 #[] #[] 1537 3 #[] #[])
  fields := #[]
  methods := #[]
  instanceTypes := #[]
  staticTypes := #[]
  resolved := Array.replicate 7 none
  statics := none }

def pool15 : Array CpInfo := pool [(1, .class_ 2), (0, u "java/lang/Cloneable"), (0, .class_ 4), (0, u "java/lang/Object")] 2

/-- java/lang/Cloneable -/
def k15 : Class := { plain "java/lang/Cloneable" (some 0) with
  accessFlags := 1537
  interfaces := #[]
  cf := some (fileOf pool15 1 #[] #[] 1537 3 #[] #[])
  fields := #[]
  methods := #[]
  instanceTypes := #[]
  staticTypes := #[]
  resolved := Array.replicate 7 none
  statics := none }

def pool16 : Array CpInfo := pool [(1, .class_ 2), (0, u "java/io/Serializable"), (0, .class_ 4), (0, u "java/lang/Object")] 2

/-- java/io/Serializable -/
def k16 : Class := { plain "java/io/Serializable" (some 0) with
  accessFlags := 1537
  interfaces := #[]
  cf := some (fileOf pool16 1 #[] #[] 1537 3 #[] #[])
  fields := #[]
  methods := #[]
  instanceTypes := #[]
  staticTypes := #[]
  resolved := Array.replicate 7 none
  statics := none }

def pool17 : Array CpInfo := pool [(1, .methodref 2 3), (0, .class_ 4), (0, .nameAndType 5 6), (0, u "java/util/AbstractList"), (0, u "<init>"), (0, u "()V"), (2, .fieldref 10 11), (0, .class_ 12), (0, .nameAndType 13 14), (0, u "java/util/ArrayList"), (0, u "elementData"), (0, u "[Ljava/lang/Object;"), (2, u "EMPTY_ELEMENTDATA"), (21, .fieldref 10 40), (0, .nameAndType 41 14), (0, u "DEFAULTCAPACITY_EMPTY_ELEMENTDATA"), (8, u "size"), (0, u "I"), (96, .class_ 149), (0, u "java/util/List"), (112, .class_ 263), (0, u "java/util/ArrayList$ListItr"), (3, .class_ 268), (0, u "java/util/ArrayList$Itr"), (7, .class_ 277), (0, u "java/util/ArrayList$SubList"), (12, .class_ 291), (0, u "java/util/ArrayList$ArrayListSpliterator"), (37, .class_ 330), (0, u "java/util/RandomAccess"), (0, .class_ 332), (0, u "java/lang/Cloneable"), (0, .class_ 334), (0, u "java/io/Serializable"), (0, u "serialVersionUID"), (0, u "J"), (3, u "DEFAULT_CAPACITY"), (159, .class_ 501), (0, u "java/util/ArrayList$SubList$2"), (0, .class_ 503), (0, u "java/util/ArrayList$SubList$1")] 5

def k17c0 : Code := { maxStack := 2, maxLocals := 1, code := jdk_38_method_2_code, exceptionTable := #[], attributes := #[] }
def k17m0 : Method := { name := "<init>", desc := "()V", sig := { parameters := [], returnType := none }, accessFlags := 1, code := some k17c0 }
/-- java/util/ArrayList -/
def k17 : Class := { plain "java/util/ArrayList" (some 13) with
  accessFlags := 33
  interfaces := #[12, 14, 15, 16]
  cf := some (fileOf pool17 10 #[.nestMembers #[290, 276, 500, 502, 262, 267]] #[{ accessFlags := 1, nameIndex := 5, descriptorIndex := 6, attributes := #[] }] 33 2 #[148, 329, 331, 333] #[{ accessFlags := 26, nameIndex := 335, descriptorIndex := 336, attributes := #[] }, { accessFlags := 26, nameIndex := 340, descriptorIndex := 51, attributes := #[] }, { accessFlags := 26, nameIndex := 17, descriptorIndex := 14, attributes := #[] }, { accessFlags := 26, nameIndex := 41, descriptorIndex := 14, attributes := #[] }, { accessFlags := 128, nameIndex := 13, descriptorIndex := 14, attributes := #[] }, { accessFlags := 2, nameIndex := 50, descriptorIndex := 51, attributes := #[] }])
  fields := #[{ name := "serialVersionUID", type := .long, accessFlags := 26, slot := 0, constantValue := 0 }, { name := "DEFAULT_CAPACITY", type := .int, accessFlags := 26, slot := 1, constantValue := 0 }, { name := "EMPTY_ELEMENTDATA", type := (.array (.object "java/lang/Object")), accessFlags := 26, slot := 2, constantValue := 0 }, { name := "DEFAULTCAPACITY_EMPTY_ELEMENTDATA", type := (.array (.object "java/lang/Object")), accessFlags := 26, slot := 3, constantValue := 0 }, { name := "elementData", type := (.array (.object "java/lang/Object")), accessFlags := 128, slot := 1, constantValue := 0 }, { name := "size", type := .int, accessFlags := 2, slot := 2, constantValue := 0 }]
  methods := #[k17m0]
  instanceTypes := #[.int, (.array (.object "java/lang/Object")), .int]
  staticTypes := #[.long, .int, (.array (.object "java/lang/Object")), (.array (.object "java/lang/Object"))]
  resolved := Array.replicate 509 none
  mirror := some 3
  statics := some 2 }

def pool18 : Array CpInfo := pool [(2, .class_ 4), (1, u "java/lang/Object"), (0, u "<init>"), (0, u "()V"), (1, .class_ 10), (1, u "java/util/List"), (2, .class_ 14), (0, u "java/util/RandomAccess"), (4, .class_ 20), (0, u "java/util/Collections"), (63, u "r"), (0, u "Ljava/util/Random;"), (67, u "(Ljava/util/List;)V"), (9, .nameAndType 164 165), (0, u "getClass"), (0, u "()Ljava/lang/Class;"), (0, .class_ 167), (0, u "java/util/Collections$UnmodifiableCollection"), (6, .class_ 175), (0, u "java/util/Collections$UnmodifiableSequencedCollection"), (6, .class_ 183), (0, u "java/util/Collections$UnmodifiableSet"), (6, .class_ 191), (0, u "java/util/Collections$UnmodifiableSequencedSet"), (6, .class_ 199), (0, u "java/util/Collections$UnmodifiableSortedSet"), (6, .class_ 207), (0, u "java/util/Collections$UnmodifiableNavigableSet"), (3, .interfaceMethodref 8 163), (0, .class_ 213), (0, u "java/util/Collections$UnmodifiableList"), (0, .interfaceMethodref 8 163), (0, .class_ 216), (0, u "java/util/Collections$UnmodifiableRandomAccessList"), (0, .methodref 215 218), (0, .nameAndType 5 153), (4, .class_ 224), (0, u "java/util/Collections$UnmodifiableMap"), (6, .class_ 232), (0, u "java/util/Collections$UnmodifiableSequencedMap"), (4, .class_ 238), (0, u "java/util/Collections$UnmodifiableSortedMap"), (6, .class_ 246), (0, u "java/util/Collections$UnmodifiableNavigableMap"), (3, .class_ 251), (0, u "java/util/Collections$SynchronizedCollection"), (4, .class_ 257), (0, u "java/util/Collections$SynchronizedSet"), (4, .class_ 263), (0, u "java/util/Collections$SynchronizedSortedSet"), (1, .class_ 266), (0, u "java/util/Collections$SynchronizedNavigableSet"), (1, .class_ 269), (0, u "java/util/Collections$SynchronizedRandomAccessList"), (1, .class_ 272), (0, u "java/util/Collections$SynchronizedList"), (5, .class_ 279), (0, u "java/util/Collections$SynchronizedMap"), (1, .class_ 282), (0, u "java/util/Collections$SynchronizedSortedMap"), (1, .class_ 285), (0, u "java/util/Collections$SynchronizedNavigableMap"), (1, .class_ 288), (0, u "java/util/Collections$CheckedCollection"), (11, .class_ 301), (0, u "java/util/Collections$CheckedQueue"), (3, .class_ 306), (0, u "java/util/Collections$CheckedSet"), (3, .class_ 311), (0, u "java/util/Collections$CheckedSortedSet"), (3, .class_ 316), (0, u "java/util/Collections$CheckedNavigableSet"), (3, .class_ 321), (0, u "java/util/Collections$CheckedRandomAccessList"), (3, .class_ 326), (0, u "java/util/Collections$CheckedList"), (1, .class_ 329), (0, u "java/util/Collections$CheckedMap"), (3, .class_ 334), (0, u "java/util/Collections$CheckedSortedMap"), (3, .class_ 339), (0, u "java/util/Collections$CheckedNavigableMap"), (4, .class_ 346), (1, u "java/util/Collections$EmptyIterator"), (3, .class_ 352), (1, u "java/util/Collections$EmptyListIterator"), (2, .class_ 357), (1, u "java/util/Collections$EmptyEnumeration"), (4, u "EMPTY_SET"), (0, u "Ljava/util/Set;"), (6, u "EMPTY_LIST"), (0, u "Ljava/util/List;"), (2, u "EMPTY_MAP"), (0, u "Ljava/util/Map;"), (4, .class_ 381), (0, u "java/util/Collections$SingletonSet"), (2, .class_ 385), (0, u "java/util/Collections$1"), (1, .class_ 388), (0, u "java/util/Collections$2"), (1, .class_ 391), (0, u "java/util/Collections$SingletonList"), (1, .class_ 394), (0, u "java/util/Collections$SingletonMap"), (22, .class_ 418), (0, u "java/util/Collections$CopiesList"), (4, .class_ 425), (1, u "java/util/Collections$ReverseComparator"), (8, .class_ 435), (0, u "java/util/Collections$ReverseComparator2"), (6, .class_ 443), (0, u "java/util/Collections$3"), (25, .class_ 470), (0, u "java/util/Collections$SetFromMap"), (2, .class_ 474), (0, u "java/util/Collections$SequencedSetFromMap"), (3, .class_ 479), (0, u "java/util/Collections$AsLIFOQueue"), (11, .class_ 492), (0, u "java/util/Collections$EmptySet"), (1, .class_ 495), (0, u "java/util/Collections$EmptyList"), (1, .class_ 498), (0, u "java/util/Collections$EmptyMap"), (1, u "BINARYSEARCH_THRESHOLD"), (0, u "I"), (2, u "REVERSE_THRESHOLD"), (1, u "SHUFFLE_THRESHOLD"), (1, u "FILL_THRESHOLD"), (1, u "ROTATE_THRESHOLD"), (1, u "COPY_THRESHOLD"), (1, u "REPLACEALL_THRESHOLD"), (1, u "INDEXOFSUBLIST_THRESHOLD"), (129, u "unmodifiableList"), (0, u "(Ljava/util/List;)Ljava/util/List;"), (202, .class_ 851), (0, u "java/util/Collections$CheckedMap$CheckedEntrySet"), (0, .class_ 853), (0, u "java/util/Collections$CheckedMap$CheckedEntrySet$CheckedEntry"), (0, .class_ 855), (0, u "java/util/Collections$CheckedMap$CheckedEntrySet$1"), (0, .class_ 857), (0, u "java/util/Collections$CheckedList$1"), (0, .class_ 859), (0, u "java/util/Collections$CheckedCollection$1"), (0, .class_ 861), (0, u "java/util/Collections$UnmodifiableNavigableMap$EmptyNavigableMap"), (0, .class_ 863), (0, u "java/util/Collections$UnmodifiableMap$UnmodifiableEntrySet"), (0, .class_ 865), (0, u "java/util/Collections$UnmodifiableMap$UnmodifiableEntrySet$UnmodifiableEntry"), (0, .class_ 867), (0, u "java/util/Collections$UnmodifiableMap$UnmodifiableEntrySet$UnmodifiableEntrySetSpliterator"), (0, .class_ 869), (0, u "java/util/Collections$UnmodifiableMap$UnmodifiableEntrySet$1"), (0, .class_ 871), (0, u "java/util/Collections$UnmodifiableList$1"), (0, .class_ 873), (0, u "java/util/Collections$UnmodifiableNavigableSet$EmptyNavigableSet"), (0, .class_ 875), (0, u "java/util/Collections$UnmodifiableCollection$1")] 57

def k18m0 : Method := { name := "<init>", desc := "()V", sig := { parameters := [], returnType := none }, accessFlags := 2, code := none }
def k18c1 : Code := { maxStack := 3, maxLocals := 1, code := jdk_79_method_35_code, exceptionTable := #[], attributes := #[] }
def k18m1 : Method := { name := "unmodifiableList", desc := "(Ljava/util/List;)Ljava/util/List;", sig := { parameters := [(.object "java/util/List")], returnType := some (.object "java/util/List") }, accessFlags := 9, code := some k18c1 }
/-- java/util/Collections -/
def k18 : Class := { plain "java/util/Collections" (some 0) with
  accessFlags := 33
  interfaces := #[]
  cf := some (fileOf pool18 19 #[.nestMembers #[478, 473, 469, 434, 423, 417, 393, 390, 380, 497, 494, 491, 355, 350, 344, 338, 333, 328, 850, 852, 854, 320, 325, 856, 315, 310, 305, 300, 287, 858, 284, 281, 278, 268, 271, 265, 262, 256, 250, 245, 860, 237, 231, 223, 862, 864, 866, 868, 215, 212, 870, 206, 872, 198, 190, 182, 174, 166, 874, 442, 387, 384]] #[{ accessFlags := 2, nameIndex := 5, descriptorIndex := 6, attributes := #[] }, { accessFlags := 9, nameIndex := 646, descriptorIndex := 647, attributes := #[] }] 33 2 #[] #[{ accessFlags := 26, nameIndex := 500, descriptorIndex := 501, attributes := #[] }, { accessFlags := 26, nameIndex := 504, descriptorIndex := 501, attributes := #[] }, { accessFlags := 26, nameIndex := 506, descriptorIndex := 501, attributes := #[] }, { accessFlags := 26, nameIndex := 508, descriptorIndex := 501, attributes := #[] }, { accessFlags := 26, nameIndex := 510, descriptorIndex := 501, attributes := #[] }, { accessFlags := 26, nameIndex := 512, descriptorIndex := 501, attributes := #[] }, { accessFlags := 26, nameIndex := 514, descriptorIndex := 501, attributes := #[] }, { accessFlags := 26, nameIndex := 516, descriptorIndex := 501, attributes := #[] }, { accessFlags := 10, nameIndex := 84, descriptorIndex := 85, attributes := #[] }, { accessFlags := 25, nameIndex := 362, descriptorIndex := 363, attributes := #[] }, { accessFlags := 25, nameIndex := 370, descriptorIndex := 371, attributes := #[] }, { accessFlags := 25, nameIndex := 374, descriptorIndex := 375, attributes := #[] }])
  fields := #[{ name := "BINARYSEARCH_THRESHOLD", type := .int, accessFlags := 26, slot := 0, constantValue := 0 }, { name := "REVERSE_THRESHOLD", type := .int, accessFlags := 26, slot := 1, constantValue := 0 }, { name := "SHUFFLE_THRESHOLD", type := .int, accessFlags := 26, slot := 2, constantValue := 0 }, { name := "FILL_THRESHOLD", type := .int, accessFlags := 26, slot := 3, constantValue := 0 }, { name := "ROTATE_THRESHOLD", type := .int, accessFlags := 26, slot := 4, constantValue := 0 }, { name := "COPY_THRESHOLD", type := .int, accessFlags := 26, slot := 5, constantValue := 0 }, { name := "REPLACEALL_THRESHOLD", type := .int, accessFlags := 26, slot := 6, constantValue := 0 }, { name := "INDEXOFSUBLIST_THRESHOLD", type := .int, accessFlags := 26, slot := 7, constantValue := 0 }, { name := "r", type := (.object "java/util/Random"), accessFlags := 10, slot := 8, constantValue := 0 }, { name := "EMPTY_SET", type := (.object "java/util/Set"), accessFlags := 25, slot := 9, constantValue := 0 }, { name := "EMPTY_LIST", type := (.object "java/util/List"), accessFlags := 25, slot := 10, constantValue := 0 }, { name := "EMPTY_MAP", type := (.object "java/util/Map"), accessFlags := 25, slot := 11, constantValue := 0 }]
  methods := #[k18m0, k18m1]
  instanceTypes := #[]
  staticTypes := #[.int, .int, .int, .int, .int, .int, .int, .int, (.object "java/util/Random"), (.object "java/util/Set"), (.object "java/util/List"), (.object "java/util/Map")]
  resolved := Array.replicate 933 none
  statics := none }

def pool19 : Array CpInfo := pool [(1, .methodref 2 3), (0, .class_ 4), (0, .nameAndType 5 6), (0, u "java/lang/Object"), (0, u "<init>"), (0, u "()V"), (3, .fieldref 11 12), (0, .class_ 13), (0, .nameAndType 14 15), (0, u "java/util/Collections$UnmodifiableCollection"), (0, u "c"), (0, u "Ljava/util/Collection;"), (1, .class_ 19), (1, u "java/util/Collection"), (51, .class_ 72), (0, u "java/io/Serializable"), (0, u "serialVersionUID"), (0, u "J"), (5, u "(Ljava/util/Collection;)V"), (51, .class_ 133), (0, u "java/util/Collections")] 2

def k19c0 : Code := { maxStack := 2, maxLocals := 2, code := jdk_119_method_1_code, exceptionTable := #[], attributes := #[] }
def k19m0 : Method := { name := "<init>", desc := "(Ljava/util/Collection;)V", sig := { parameters := [(.object "java/util/Collection")], returnType := none }, accessFlags := 0, code := some k19c0 }
/-- java/util/Collections$UnmodifiableCollection -/
def k19 : Class := { plain "java/util/Collections$UnmodifiableCollection" (some 0) with
  accessFlags := 32
  interfaces := #[9, 16]
  cf := some (fileOf pool19 11 #[.nestHost 132] #[{ accessFlags := 0, nameIndex := 5, descriptorIndex := 80, attributes := #[] }] 32 2 #[17, 71] #[{ accessFlags := 26, nameIndex := 73, descriptorIndex := 74, attributes := #[] }, { accessFlags := 16, nameIndex := 14, descriptorIndex := 15, attributes := #[] }])
  fields := #[{ name := "serialVersionUID", type := .long, accessFlags := 26, slot := 0, constantValue := 0 }, { name := "c", type := (.object "java/util/Collection"), accessFlags := 16, slot := 0, constantValue := 0 }]
  methods := #[k19m0]
  instanceTypes := #[(.object "java/util/Collection")]
  staticTypes := #[.long]
  resolved := Array.replicate 136 none
  statics := none }

def pool20 : Array CpInfo := pool [(1, .methodref 2 3), (0, .class_ 4), (0, .nameAndType 5 6), (0, u "java/util/Collections$UnmodifiableCollection"), (0, u "<init>"), (0, u "(Ljava/util/Collection;)V"), (0, .fieldref 8 9), (0, .class_ 10), (0, .nameAndType 11 12), (0, u "java/util/Collections$UnmodifiableList"), (0, u "list"), (0, u "Ljava/util/List;"), (1, .class_ 16), (1, u "java/util/List"), (37, u "(Ljava/util/List;)V"), (5, u "serialVersionUID"), (0, u "J"), (59, .class_ 122), (0, u "java/util/Collections")] 4

def k20c0 : Code := { maxStack := 2, maxLocals := 2, code := jdk_120_method_1_code, exceptionTable := #[], attributes := #[] }
def k20m0 : Method := { name := "<init>", desc := "(Ljava/util/List;)V", sig := { parameters := [(.object "java/util/List")], returnType := none }, accessFlags := 0, code := some k20c0 }
/-- java/util/Collections$UnmodifiableList -/
def k20 : Class := { plain "java/util/Collections$UnmodifiableList" (some 19) with
  accessFlags := 32
  interfaces := #[12]
  cf := some (fileOf pool20 8 #[.nestHost 121] #[{ accessFlags := 0, nameIndex := 5, descriptorIndex := 54, attributes := #[] }] 32 2 #[14] #[{ accessFlags := 26, nameIndex := 60, descriptorIndex := 61, attributes := #[] }, { accessFlags := 16, nameIndex := 11, descriptorIndex := 12, attributes := #[] }])
  fields := #[{ name := "serialVersionUID", type := .long, accessFlags := 26, slot := 0, constantValue := 0 }, { name := "list", type := (.object "java/util/List"), accessFlags := 16, slot := 1, constantValue := 0 }]
  methods := #[k20m0]
  instanceTypes := #[(.object "java/util/Collection"), (.object "java/util/List")]
  staticTypes := #[.long]
  resolved := Array.replicate 127 none
  mirror := some 4
  statics := none }

def pool21 : Array CpInfo := pool [(1, .methodref 2 3), (0, .class_ 4), (0, .nameAndType 5 6), (0, u "java/util/Collections$UnmodifiableList"), (0, u "<init>"), (0, u "(Ljava/util/List;)V"), (0, .class_ 8), (0, u "java/util/Collections$UnmodifiableRandomAccessList"), (11, .class_ 21), (0, u "java/util/RandomAccess"), (0, u "serialVersionUID"), (0, u "J"), (23, .class_ 48), (0, u "java/util/Collections")] 3

def k21c0 : Code := { maxStack := 2, maxLocals := 2, code := jdk_121_method_1_code, exceptionTable := #[], attributes := #[] }
def k21m0 : Method := { name := "<init>", desc := "(Ljava/util/List;)V", sig := { parameters := [(.object "java/util/List")], returnType := none }, accessFlags := 0, code := some k21c0 }
/-- java/util/Collections$UnmodifiableRandomAccessList -/
def k21 : Class := { plain "java/util/Collections$UnmodifiableRandomAccessList" (some 20) with
  accessFlags := 32
  interfaces := #[14]
  cf := some (fileOf pool21 7 #[.nestHost 47] #[{ accessFlags := 0, nameIndex := 5, descriptorIndex := 6, attributes := #[] }] 32 2 #[20] #[{ accessFlags := 26, nameIndex := 22, descriptorIndex := 23, attributes := #[] }])
  fields := #[{ name := "serialVersionUID", type := .long, accessFlags := 26, slot := 0, constantValue := 0 }]
  methods := #[k21m0]
  instanceTypes := #[(.object "java/util/Collection"), (.object "java/util/List")]
  staticTypes := #[.long]
  resolved := Array.replicate 52 none
  mirror := some 5
  statics := none }

def pool22 : Array CpInfo := pool [(1, u "java/lang/Class"), (0, .class_ 1), (0, u "java/lang/Object"), (0, .class_ 3)] 0

/-- java/lang/Class -/
def k22 : Class := { plain "java/lang/Class" (some 0) with
  accessFlags := 49
  interfaces := #[]
  cf := some (fileOf pool22 2 #[] #[] 49 4 #[] #[])
  fields := #[]
  methods := #[]
  instanceTypes := #[]
  staticTypes := #[]
  resolved := Array.replicate 5 none
  statics := none }

/-- the primitive byte -/
def k23 : Class := { plain "byte" none with kind := .primitive 'B', accessFlags := 0x411 }
/-- [B -/
def k24 : Class := { plain "[B" (some 0) with kind := .array 23 .byte, interfaces := #[15, 16], accessFlags := 1041 }

/-- the primitive int -/
def k25 : Class := { plain "int" none with kind := .primitive 'I', accessFlags := 0x411 }
/-- [I -/
def k26 : Class := { plain "[I" (some 0) with kind := .array 25 .int, interfaces := #[15, 16], accessFlags := 1041 }

/-- the primitive long -/
def k27 : Class := { plain "long" none with kind := .primitive 'J', accessFlags := 0x411 }
/-- [J -/
def k28 : Class := { plain "[J" (some 0) with kind := .array 27 .long, interfaces := #[15, 16], accessFlags := 1041 }

/-- [Lcom/example/postweave/postweave/view/View; -/
def k29 : Class := { plain "[Lcom/example/postweave/postweave/view/View;" (some 0) with kind := .array 2 (.object "com/example/postweave/postweave/view/View"), interfaces := #[15, 16], accessFlags := 1041 }

/-- [Lcom/example/postweave/postweave/view/ViewGroup; -/
def k30 : Class := { plain "[Lcom/example/postweave/postweave/view/ViewGroup;" (some 0) with kind := .array 3 (.object "com/example/postweave/postweave/view/ViewGroup"), interfaces := #[15, 16], accessFlags := 1041 }

/-- [Ljava/lang/Object; -/
def k31 : Class := { plain "[Ljava/lang/Object;" (some 0) with kind := .array 0 (.object "java/lang/Object"), interfaces := #[15, 16], accessFlags := 1041 }

def classes0 : Array Class := #[k0, k1, k2, k3, k4, k5, k6, k7, k8, k9, k10, k11, k12, k13, k14, k15, k16, k17, k18, k19, k20, k21, k22, k23, k24, k25, k26, k27, k28, k29, k30, k31]
/-- the class that the rule has made for the site at 10 of com/example/postweave/postweave/view/View.<init> -/
def k32 : Class := Jvm.LamKit.madeRec { classes := classes0 } "com/example/postweave/postweave/view/View" (Jvm.Lambda.Shape.mk "java/lang/Runnable" "run" (Jvm.ClassFile.MethodDescriptor.mk ([] : List Jvm.ClassFile.FieldType) (Option.none : Option Jvm.ClassFile.FieldType)) ([(Jvm.ClassFile.FieldType.object "com/example/postweave/postweave/view/View")] : List Jvm.ClassFile.FieldType) (5 : Nat) "com/example/postweave/postweave/view/View" "invalidateOnOwnLoop" (Jvm.ClassFile.MethodDescriptor.mk ([] : List Jvm.ClassFile.FieldType) (Option.none : Option Jvm.ClassFile.FieldType)) false (Jvm.ClassFile.MethodDescriptor.mk ([] : List Jvm.ClassFile.FieldType) (Option.none : Option Jvm.ClassFile.FieldType))) 32

/-- the class that the rule has made for the site at 16 of com/example/postweave/postweave/view/View.<init> -/
def k33 : Class := Jvm.LamKit.madeRec { classes := classes0 } "com/example/postweave/postweave/view/View" (Jvm.Lambda.Shape.mk "java/util/function/BooleanSupplier" "getAsBoolean" (Jvm.ClassFile.MethodDescriptor.mk ([] : List Jvm.ClassFile.FieldType) (Option.some Jvm.ClassFile.FieldType.boolean)) ([(Jvm.ClassFile.FieldType.object "com/example/postweave/postweave/view/View")] : List Jvm.ClassFile.FieldType) (5 : Nat) "com/example/postweave/postweave/view/View" "inTreeOfQuitLoop" (Jvm.ClassFile.MethodDescriptor.mk ([] : List Jvm.ClassFile.FieldType) (Option.some Jvm.ClassFile.FieldType.boolean)) false (Jvm.ClassFile.MethodDescriptor.mk ([] : List Jvm.ClassFile.FieldType) (Option.some Jvm.ClassFile.FieldType.boolean))) 33

def heap : Heap := #[{ cls := 3, slots := #[.ref 7], vm := .statics 3 },
  { cls := 7, slots := #[.ref 6, .ref 8, .int 0], vm := .statics 7 },
  { cls := 17, slots := #[.long 0, .int 0, .ref 9, .ref 10], vm := .statics 17 },
  { cls := 22, slots := #[], vm := .mirror 17 },
  { cls := 22, slots := #[], vm := .mirror 20 },
  { cls := 22, slots := #[], vm := .mirror 21 },
  { cls := 31, slots := #[], vm := .none },
  { cls := 29, slots := #[], vm := .none },
  { cls := 28, slots := #[], vm := .none },
  { cls := 31, slots := #[], vm := .none },
  { cls := 31, slots := #[], vm := .none }]
def classes : Array Class := #[k0, k1, k2, k3, k4, k5, k6, k7, k8, k9, k10, k11, k12, k13, k14, k15, k16, k17, k18, k19, k20, k21, k22, k23, k24, k25, k26, k27, k28, k29, k30, k31, k32, k33]
def interned : List (Array UInt16 × Addr) := []
def slotsUsed : Nat := 8
def theMethod : MethodId := ⟨1, 1⟩
def args0 : Array Value := #[.int 5, .int 6]
def aboutOver (below : List Frame) : State where
  vm := { classes := classes, interned := interned.toArray }
  heap := heap
  slotsUsed := slotsUsed
  threads := #[{ frames := .invoking theMethod args0 :: below }]
def below0 : List Frame := [.native { method := ⟨0, 0⟩, args := #[] }]
def about1 : State := aboutOver below0
def p0 : Program := .bare "" "" ""
def e0 : Env := launch0.env 0 0 0
theorem w_frames : about1.frames = Frame.invoking theMethod args0 :: below0 := rfl
set_option maxRecDepth 65536 in
theorem w_args : argsFit about1.vm theMethod args0 = true := by decide +kernel
set_option maxRecDepth 65536 in
theorem w_heap : heapFits about1 = true := by decide +kernel
set_option maxRecDepth 65536 in
theorem w_runnable : about1.curStatus? = some .runnable := by decide +kernel
set_option maxRecDepth 65536 in
theorem w_alone : about1.alone = true := by decide +kernel
set_option maxRecDepth 65536 in
theorem w_named : about1.methodNamed? x = some theMethod := by decide +kernel
set_option maxRecDepth 65536 in
theorem w_hears : about1.hears theMethod below0 = true := by decide +kernel
set_option maxRecDepth 65536 in
theorem w_ripe : about1.ripe theMethod args0 below0 = true := by decide +kernel
theorem w_running : about1.status = .running := rfl
set_option maxRecDepth 65536 in
theorem w_room : about1.hasRoom e0.platform room_1 = true :=
  launch0.hasRoom_least _ room_1 (by decide +kernel) (by decide +kernel) (by decide +kernel) (by decide +kernel) (by decide +kernel) (by decide +kernel)
theorem allAtoms_all (ts : List Jvm.Cond) (a : Array Jvm.Value) (st : Jvm.State) : (allAtoms ts).before a st = ts.all (fun c => c.before a st) := by
  induction ts with
  | nil => rfl
  | cons c t ih =>
    show (Jvm.Cond.and c (allAtoms t)).before a st = _
    rw [Jvm.Cond.before_and, ih, List.all_cons]
def words1 : List Jvm.Cond := Jvm.Cond.code x code maxLocals ret :: tables_1
/-- a 'code' word, met by the world's own term for the bytes: nothing is compared byte by byte -/
theorem code_word {y : MethodName} {bytes : ByteArray} {mx : Nat} {rt : Option FieldType} {a : Array Value} {s : State} {m : MethodId} {meth : Method} {c : Code} (h1 : s.methodNamed? y = some m) (h2 : s.vm.method? m = some meth) (h3 : meth.code = some c) (h4 : c.code = bytes)
    (h5 : (c.maxLocals == mx && c.exceptionTable.isEmpty && decide (c.maxStack ≤ mostOperands) && decide (meth.sig.returnType = rt) && !meth.locks && decide (parseMethodDescriptor y.desc = some meth.sig)) = true) : (Jvm.Cond.code y bytes mx rt).before a s = true := by
  simp only [Bool.and_eq_true, beq_iff_eq, Bool.not_eq_true', decide_eq_true_eq] at h5
  obtain ⟨⟨⟨⟨⟨g1, g2⟩, g3⟩, g4⟩, g5⟩, g6⟩ := h5
  simp [Cond.before, Cond.holds, Cond.value, h1, h2, h3, h4, g1, g2, g3, g4, g5, g6]
def isCode : Jvm.Cond → Bool
  | .code _ _ _ _ => true
  | _ => false
theorem all_split {L : List Jvm.Cond} {P : Jvm.Cond → Bool} (h1 : L.all (fun c => isCode c || P c) = true) (h2 : ∀ c ∈ L.filter isCode, P c = true) : L.all P = true := by
  refine List.all_eq_true.mpr fun c hc => ?_
  have h := List.all_eq_true.mp h1 c hc
  rcases Bool.eq_false_or_eq_true (isCode c) with hi | hi
  · exact h2 c (List.mem_filter.mpr ⟨hc, hi⟩)
  · simpa [hi] using h
set_option maxRecDepth 65536 in
theorem w_c0 : (Jvm.Cond.code x code maxLocals ret).before args0 about1 = true := code_word (m := ⟨1, 1⟩) (meth := k1m1) (c := k1c1) (by decide +kernel) rfl rfl rfl (by decide +kernel)
set_option maxRecDepth 65536 in
theorem w_c1 : (Jvm.Cond.code ({ cls := "com/example/postweave/postweave/view/ViewGroup", name := "<init>", desc := "(II)V" } : Jvm.MethodName) prog_38_method_1_code (3 : Nat) (Option.none : Option Jvm.ClassFile.FieldType)).before args0 about1 = true := code_word (m := ⟨3, 0⟩) (meth := k3m0) (c := k3c0) (by decide +kernel) rfl rfl rfl (by decide +kernel)
set_option maxRecDepth 65536 in
theorem w_c2 : (Jvm.Cond.code ({ cls := "com/example/postweave/postweave/view/View", name := "<init>", desc := "(II)V" } : Jvm.MethodName) prog_37_method_1_code (3 : Nat) (Option.none : Option Jvm.ClassFile.FieldType)).before args0 about1 = true := code_word (m := ⟨2, 0⟩) (meth := k2m0) (c := k2c0) (by decide +kernel) rfl rfl rfl (by decide +kernel)
set_option maxRecDepth 65536 in
theorem w_c3 : (Jvm.Cond.code ({ cls := "java/lang/Object", name := "<init>", desc := "()V" } : Jvm.MethodName) object_method_1_code (1 : Nat) (Option.none : Option Jvm.ClassFile.FieldType)).before args0 about1 = true := code_word (m := ⟨0, 0⟩) (meth := k0m0) (c := k0c0) (by decide +kernel) rfl rfl rfl (by decide +kernel)
set_option maxRecDepth 65536 in
theorem w_c4 : (Jvm.Cond.code ({ cls := "com/example/postweave/postweave/view/ViewPosts", name := "<init>", desc := "(Ljava/lang/Runnable;Ljava/util/function/BooleanSupplier;)V" } : Jvm.MethodName) prog_40_method_1_code (3 : Nat) (Option.none : Option Jvm.ClassFile.FieldType)).before args0 about1 = true := code_word (m := ⟨4, 0⟩) (meth := k4m0) (c := k4c0) (by decide +kernel) rfl rfl rfl (by decide +kernel)
set_option maxRecDepth 65536 in
theorem w_c5 : (Jvm.Cond.code ({ cls := "com/example/postweave/postweave/util/TimedList", name := "<init>", desc := "()V" } : Jvm.MethodName) prog_36_method_1_code (1 : Nat) (Option.none : Option Jvm.ClassFile.FieldType)).before args0 about1 = true := code_word (m := ⟨7, 0⟩) (meth := k7m0) (c := k7c0) (by decide +kernel) rfl rfl rfl (by decide +kernel)
set_option maxRecDepth 65536 in
theorem w_c6 : (Jvm.Cond.code ({ cls := "com/example/postweave/postweave/view/View", name := "requireSize", desc := "(II)V" } : Jvm.MethodName) prog_37_method_32_code (2 : Nat) (Option.none : Option Jvm.ClassFile.FieldType)).before args0 about1 = true := code_word (m := ⟨2, 4⟩) (meth := k2m4) (c := k2c4) (by decide +kernel) rfl rfl rfl (by decide +kernel)
set_option maxRecDepth 65536 in
theorem w_c7 : (Jvm.Cond.code ({ cls := "java/util/ArrayList", name := "<init>", desc := "()V" } : Jvm.MethodName) jdk_38_method_2_code (1 : Nat) (Option.none : Option Jvm.ClassFile.FieldType)).before args0 about1 = true := code_word (m := ⟨17, 0⟩) (meth := k17m0) (c := k17c0) (by decide +kernel) rfl rfl rfl (by decide +kernel)
set_option maxRecDepth 65536 in
theorem w_c8 : (Jvm.Cond.code ({ cls := "java/util/AbstractList", name := "<init>", desc := "()V" } : Jvm.MethodName) jdk_39_method_1_code (1 : Nat) (Option.none : Option Jvm.ClassFile.FieldType)).before args0 about1 = true := code_word (m := ⟨13, 0⟩) (meth := k13m0) (c := k13c0) (by decide +kernel) rfl rfl rfl (by decide +kernel)
set_option maxRecDepth 65536 in
theorem w_c9 : (Jvm.Cond.code ({ cls := "java/util/AbstractCollection", name := "<init>", desc := "()V" } : Jvm.MethodName) jdk_22_method_1_code (1 : Nat) (Option.none : Option Jvm.ClassFile.FieldType)).before args0 about1 = true := code_word (m := ⟨10, 0⟩) (meth := k10m0) (c := k10c0) (by decide +kernel) rfl rfl rfl (by decide +kernel)
set_option maxRecDepth 65536 in
theorem w_c10 : (Jvm.Cond.code ({ cls := "java/util/Collections", name := "unmodifiableList", desc := "(Ljava/util/List;)Ljava/util/List;" } : Jvm.MethodName) jdk_79_method_35_code (1 : Nat) (Option.some (Jvm.ClassFile.FieldType.object "java/util/List"))).before args0 about1 = true := code_word (m := ⟨18, 1⟩) (meth := k18m1) (c := k18c1) (by decide +kernel) rfl rfl rfl (by decide +kernel)
set_option maxRecDepth 65536 in
theorem w_c11 : (Jvm.Cond.code ({ cls := "java/util/Collections$UnmodifiableRandomAccessList", name := "<init>", desc := "(Ljava/util/List;)V" } : Jvm.MethodName) jdk_121_method_1_code (2 : Nat) (Option.none : Option Jvm.ClassFile.FieldType)).before args0 about1 = true := code_word (m := ⟨21, 0⟩) (meth := k21m0) (c := k21c0) (by decide +kernel) rfl rfl rfl (by decide +kernel)
set_option maxRecDepth 65536 in
theorem w_c12 : (Jvm.Cond.code ({ cls := "java/util/Collections$UnmodifiableList", name := "<init>", desc := "(Ljava/util/List;)V" } : Jvm.MethodName) jdk_120_method_1_code (2 : Nat) (Option.none : Option Jvm.ClassFile.FieldType)).before args0 about1 = true := code_word (m := ⟨20, 0⟩) (meth := k20m0) (c := k20c0) (by decide +kernel) rfl rfl rfl (by decide +kernel)
set_option maxRecDepth 65536 in
theorem w_c13 : (Jvm.Cond.code ({ cls := "java/util/Collections$UnmodifiableCollection", name := "<init>", desc := "(Ljava/util/Collection;)V" } : Jvm.MethodName) jdk_119_method_1_code (2 : Nat) (Option.none : Option Jvm.ClassFile.FieldType)).before args0 about1 = true := code_word (m := ⟨19, 0⟩) (meth := k19m0) (c := k19c0) (by decide +kernel) rfl rfl rfl (by decide +kernel)
set_option maxRecDepth 65536 in
theorem w_c14 : (Jvm.Cond.code ({ cls := "com/example/postweave/postweave/view/View", name := "holds", desc := "(Lcom/example/postweave/postweave/view/View;)Z" } : Jvm.MethodName) prog_37_method_20_code (3 : Nat) (Option.some Jvm.ClassFile.FieldType.boolean)).before args0 about1 = true := code_word (m := ⟨2, 1⟩) (meth := k2m1) (c := k2c1) (by decide +kernel) rfl rfl rfl (by decide +kernel)
set_option maxRecDepth 65536 in
theorem w_c15 : (Jvm.Cond.code ({ cls := "com/example/postweave/postweave/view/ViewHoldsPinLaw", name := "ancestorOrSelf", desc := "([III)Z" } : Jvm.MethodName) method_3_code (7 : Nat) (Option.some Jvm.ClassFile.FieldType.boolean)).before args0 about1 = true := code_word (m := ⟨1, 2⟩) (meth := k1m2) (c := k1c2) (by decide +kernel) rfl rfl rfl (by decide +kernel)
def codes1 : List Jvm.Cond := [Jvm.Cond.code x code maxLocals ret, Jvm.Cond.code ({ cls := "com/example/postweave/postweave/view/ViewGroup", name := "<init>", desc := "(II)V" } : Jvm.MethodName) prog_38_method_1_code (3 : Nat) (Option.none : Option Jvm.ClassFile.FieldType), Jvm.Cond.code ({ cls := "com/example/postweave/postweave/view/View", name := "<init>", desc := "(II)V" } : Jvm.MethodName) prog_37_method_1_code (3 : Nat) (Option.none : Option Jvm.ClassFile.FieldType), Jvm.Cond.code ({ cls := "java/lang/Object", name := "<init>", desc := "()V" } : Jvm.MethodName) object_method_1_code (1 : Nat) (Option.none : Option Jvm.ClassFile.FieldType), Jvm.Cond.code ({ cls := "com/example/postweave/postweave/view/ViewPosts", name := "<init>", desc := "(Ljava/lang/Runnable;Ljava/util/function/BooleanSupplier;)V" } : Jvm.MethodName) prog_40_method_1_code (3 : Nat) (Option.none : Option Jvm.ClassFile.FieldType), Jvm.Cond.code ({ cls := "com/example/postweave/postweave/util/TimedList", name := "<init>", desc := "()V" } : Jvm.MethodName) prog_36_method_1_code (1 : Nat) (Option.none : Option Jvm.ClassFile.FieldType), Jvm.Cond.code ({ cls := "com/example/postweave/postweave/view/View", name := "requireSize", desc := "(II)V" } : Jvm.MethodName) prog_37_method_32_code (2 : Nat) (Option.none : Option Jvm.ClassFile.FieldType), Jvm.Cond.code ({ cls := "java/util/ArrayList", name := "<init>", desc := "()V" } : Jvm.MethodName) jdk_38_method_2_code (1 : Nat) (Option.none : Option Jvm.ClassFile.FieldType), Jvm.Cond.code ({ cls := "java/util/AbstractList", name := "<init>", desc := "()V" } : Jvm.MethodName) jdk_39_method_1_code (1 : Nat) (Option.none : Option Jvm.ClassFile.FieldType), Jvm.Cond.code ({ cls := "java/util/AbstractCollection", name := "<init>", desc := "()V" } : Jvm.MethodName) jdk_22_method_1_code (1 : Nat) (Option.none : Option Jvm.ClassFile.FieldType), Jvm.Cond.code ({ cls := "java/util/Collections", name := "unmodifiableList", desc := "(Ljava/util/List;)Ljava/util/List;" } : Jvm.MethodName) jdk_79_method_35_code (1 : Nat) (Option.some (Jvm.ClassFile.FieldType.object "java/util/List")), Jvm.Cond.code ({ cls := "java/util/Collections$UnmodifiableRandomAccessList", name := "<init>", desc := "(Ljava/util/List;)V" } : Jvm.MethodName) jdk_121_method_1_code (2 : Nat) (Option.none : Option Jvm.ClassFile.FieldType), Jvm.Cond.code ({ cls := "java/util/Collections$UnmodifiableList", name := "<init>", desc := "(Ljava/util/List;)V" } : Jvm.MethodName) jdk_120_method_1_code (2 : Nat) (Option.none : Option Jvm.ClassFile.FieldType), Jvm.Cond.code ({ cls := "java/util/Collections$UnmodifiableCollection", name := "<init>", desc := "(Ljava/util/Collection;)V" } : Jvm.MethodName) jdk_119_method_1_code (2 : Nat) (Option.none : Option Jvm.ClassFile.FieldType), Jvm.Cond.code ({ cls := "com/example/postweave/postweave/view/View", name := "holds", desc := "(Lcom/example/postweave/postweave/view/View;)Z" } : Jvm.MethodName) prog_37_method_20_code (3 : Nat) (Option.some Jvm.ClassFile.FieldType.boolean), Jvm.Cond.code ({ cls := "com/example/postweave/postweave/view/ViewHoldsPinLaw", name := "ancestorOrSelf", desc := "([III)Z" } : Jvm.MethodName) method_3_code (7 : Nat) (Option.some Jvm.ClassFile.FieldType.boolean)]
set_option maxRecDepth 65536 in
theorem codes_eq : words1.filter isCode = codes1 := rfl
theorem w_codes : ∀ c ∈ words1.filter isCode, c.before args0 about1 = true := by
  rw [codes_eq]
  intro c hc
  simp only [codes1, List.mem_cons, List.not_mem_nil, or_false] at hc
  rcases hc with rfl | rfl | rfl | rfl | rfl | rfl | rfl | rfl | rfl | rfl | rfl | rfl | rfl | rfl | rfl | rfl
  · exact w_c0
  · exact w_c1
  · exact w_c2
  · exact w_c3
  · exact w_c4
  · exact w_c5
  · exact w_c6
  · exact w_c7
  · exact w_c8
  · exact w_c9
  · exact w_c10
  · exact w_c11
  · exact w_c12
  · exact w_c13
  · exact w_c14
  · exact w_c15
set_option maxRecDepth 65536 in
theorem w_t1 : (words1.take 24).all (fun c => isCode c || c.before args0 about1) = true := by decide +kernel
set_option maxRecDepth 65536 in
theorem w_t2 : ((words1.drop 24).take 24).all (fun c => isCode c || c.before args0 about1) = true := by decide +kernel
set_option maxRecDepth 65536 in
theorem w_t3 : (((words1.drop 24).drop 24).take 24).all (fun c => isCode c || c.before args0 about1) = true := by decide +kernel
set_option maxRecDepth 65536 in
theorem w_t4 : ((((words1.drop 24).drop 24).drop 24).take 24).all (fun c => isCode c || c.before args0 about1) = true := by decide +kernel
set_option maxRecDepth 65536 in
theorem w_t5 : (((((words1.drop 24).drop 24).drop 24).drop 24).take 24).all (fun c => isCode c || c.before args0 about1) = true := by decide +kernel
set_option maxRecDepth 65536 in
theorem w_t6 : ((((((words1.drop 24).drop 24).drop 24).drop 24).drop 24).take 24).all (fun c => isCode c || c.before args0 about1) = true := by decide +kernel
set_option maxRecDepth 65536 in
theorem w_t7 : ((((((words1.drop 24).drop 24).drop 24).drop 24).drop 24).drop 24).all (fun c => isCode c || c.before args0 about1) = true := by decide +kernel
theorem w_tables : (allAtoms (Jvm.Cond.code x code maxLocals ret :: tables_1)).before args0 about1 = true := by
  rw [allAtoms_all]
  show words1.all (fun c => c.before args0 about1) = true
  refine all_split ?_ w_codes
  rw [← List.take_append_drop 24 words1, List.all_append, w_t1, ← List.take_append_drop 24 (words1.drop 24), List.all_append, w_t2, ← List.take_append_drop 24 ((words1.drop 24).drop 24), List.all_append, w_t3, ← List.take_append_drop 24 (((words1.drop 24).drop 24).drop 24), List.all_append, w_t4, ← List.take_append_drop 24 ((((words1.drop 24).drop 24).drop 24).drop 24), List.all_append, w_t5, ← List.take_append_drop 24 (((((words1.drop 24).drop 24).drop 24).drop 24).drop 24), List.all_append, w_t6, w_t7]
  rfl
set_option maxRecDepth 65536 in
theorem w_rest : rest_1_c.before args0 about1 = true := by decide +kernel
set_option maxRecDepth 65536 in
theorem w_case : (Jvm.Cond.and given_1 narrow_1).before args0 about1 = true := by decide +kernel
theorem w_applies : (headSpec (Jvm.Cond.code x code maxLocals ret :: tables_1) room_1).applies x e0.platform about1 = true :=
  (Spec.applies_iff w_frames).mpr ⟨w_running, w_runnable, w_alone, w_named, w_hears, w_ripe, w_room, w_tables⟩
theorem atStart : AtStart classFile x code maxLocals ret World_1 tables_1 room_1 Calls_1 rest_1 Pre_1 launch0 p0 e0 about1 theMethod args0 below0 :=
  ⟨lists_1, trivial, launch0.admits_env _ _ _, launch0.least_env, fairChoices_fair.cas, fairChoices_fair.clock, w_frames, w_args, w_heap, w_applies, ⟨⟨17, k17, 3, by decide +kernel, rfl, rfl, _, rfl, rfl⟩, ⟨⟨20, k20, 4, by decide +kernel, rfl, rfl, _, rfl, rfl⟩, ⟨⟨21, k21, 5, by decide +kernel, rfl, rfl, _, rfl, rfl⟩, trivial⟩⟩⟩, w_rest, w_case⟩
end start1
theorem witness_1 : WitnessClaimed_1 := ⟨start1.p0, start1.e0, start1.about1, start1.theMethod, start1.args0, start1.below0, start1.atStart⟩
end Jvm.Pilot.@@N@@
