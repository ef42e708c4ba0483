import JvmDerived
import JvmDerived.Pilot.@@N@@Statement
import JvmDerived.Pilot.@@N@@Code
set_option linter.unusedVariables false
set_option linter.unusedSimpArgs false
namespace Jvm.Pilot.@@N@@
open Jvm Jvm.ClassFile Sem Op Lib Jvm.Free Jvm.Stand Jvm.LawKit Jvm.RoadKit Bundle Jvm.Pilot.@@N@@.Jvm.D
/-- from S the run goes on to an end that answers Q -/
def own_Go (p : Program) (e : Env) (below : List Frame) (s : State) (Q : Option Value → Heap → List Loc → Prop) (rm : Room) (S : State) : Prop :=
  ∃ t o, Steps p.tables e below S t ∧ t.status = .running ∧ Ended t below o ∧ ∃ v L, o = .returned v ∧ Q v t.heap L ∧ FrameEnd s o t L rm.cells rm.slots
section OwnKit
variable {p : Program} {l : Launch} {e : Env} {R rm : Room} {s S S' : State} {m : MethodId} {args : Array Value} {below : List Frame} {meth : Method} {c : Code} {T : State} {locs : List Loc} {cells slots : Nat} {Q : Option Value → Heap → List Loc → Prop}
theorem own_by (st : ∀ t, Steps p.tables e below S' t → Steps p.tables e below S t) (k : own_Go p e below s Q rm S') : own_Go p e below s Q rm S := by
  obtain ⟨t, o, h, r⟩ := k
  exact ⟨t, o, st _ h, r⟩
theorem own_via (st : Steps p.tables e below S S') (k : own_Go p e below s Q rm S') : own_Go p e below s Q rm S := own_by (fun _ h => st.trans h) k
theorem own_out {v : Option Value} {pc : Nat} {Ls : Array Slot} {st : List Value} (X : Stand p l e rm s m args below meth c T locs cells slots) (hlk : meth.locks = false) (hv : meth.sig.returnType = none → v = none) (hc : cells ≤ rm.cells) (hs : slots ≤ rm.slots)
    (step : ∀ fs, (∀ (f : JFrame) (acts : List Action), f.method = m → f.locked = none → f.entered = [] → (doReturn e (T.setTop f) acts v).1 = T.setFrames fs) → Steps p.tables e below (T.setTop (mkF m pc Ls st)) (T.setFrames fs)) (hQ : Q v T.heap locs) : own_Go p e below s Q rm (T.setTop (mkF m pc Ls st)) := by
  obtain ⟨fs, hr, hrun, hended, hW, hsame⟩ := X.leave (v := v) hv hlk
  exact ⟨_, _, step fs hr, hrun, hended, v, locs, rfl, hQ, ⟨_, rfl⟩, hW, hsame.mono hc hs⟩
theorem own_retV (X : Stand p l e rm s m args below meth c T locs cells slots) (hx : p.tables.exec = Jvm.exec) (hlk : meth.locks = false) {pc : Nat} {Ls : Array Slot} (hret : meth.sig.returnType = none) (hd : decode c.code pc = .ok (.return_, 1)) (hQ : Q none T.heap locs) (hc : cells ≤ rm.cells) (hs : slots ≤ rm.slots) :
    own_Go p e below s Q rm (T.setTop (mkF m pc Ls [])) := own_out X hlk (fun _ => rfl) hc hs (fun fs hr => X.returnOut hx hret hd hr) hQ
theorem own_retI (X : Stand p l e rm s m args below meth c T locs cells slots) (hx : p.tables.exec = Jvm.exec) (hlk : meth.locks = false) {pc : Nat} {Ls : Array Slot} {z : Int32} {t : FieldType} {rest : List Value} (hret : meth.sig.returnType = some t) (ht : t = .int ∨ t = .boolean ∨ t = .byte ∨ t = .char ∨ t = .short) (hn : narrow t (.int z) = .int z) (hd : decode c.code pc = .ok (.ireturn, 1)) (hQ : Q (some (.int z)) T.heap locs) (hc : cells ≤ rm.cells) (hs : slots ≤ rm.slots) :
    own_Go p e below s Q rm (T.setTop (mkF m pc Ls (.int z :: rest))) := own_out X hlk (fun h => by rw [hret] at h; cases h) hc hs (fun fs hr => retOut X hx hret hn (Or.inl ⟨rfl, ht, z, rfl⟩) hd hr) hQ
theorem own_retL (X : Stand p l e rm s m args below meth c T locs cells slots) (hx : p.tables.exec = Jvm.exec) (hlk : meth.locks = false) {pc : Nat} {Ls : Array Slot} {z : Int64} {rest : List Value} (hret : meth.sig.returnType = some .long) (hd : decode c.code pc = .ok (.lreturn, 1)) (hQ : Q (some (.long z)) T.heap locs) (hc : cells ≤ rm.cells) (hs : slots ≤ rm.slots) :
    own_Go p e below s Q rm (T.setTop (mkF m pc Ls (.long z :: rest))) := own_out X hlk (fun h => by rw [hret] at h; cases h) hc hs (fun fs hr => retOut X hx hret rfl (Or.inr (Or.inl ⟨rfl, rfl, z, rfl⟩)) hd hr) hQ
theorem own_retA (X : Stand p l e rm s m args below meth c T locs cells slots) (hx : p.tables.exec = Jvm.exec) (hlk : meth.locks = false) {pc : Nat} {Ls : Array Slot} {w : Value} {t : FieldType} {rest : List Value} (hret : meth.sig.returnType = some t) (ht : t.isReference = true) (hw : w.isRef = true) (hd : decode c.code pc = .ok (.areturn, 1)) (hQ : Q (some w) T.heap locs) (hc : cells ≤ rm.cells) (hs : slots ≤ rm.slots) :
    own_Go p e below s Q rm (T.setTop (mkF m pc Ls (w :: rest))) := by
  have hn : narrow t w = w := by cases w <;> first | (simp [Value.isRef] at hw; done) | (cases t <;> first | (simp [FieldType.isReference] at ht; done) | rfl)
  exact own_out X hlk (fun h => by rw [hret] at h; cases h) hc hs (fun fs hr => retOut X hx hret hn (Or.inr (Or.inr (Or.inr (Or.inr ⟨rfl, ht, hw⟩)))) hd hr) hQ
theorem own_enter {Z : State} {h0 : Heap} {y : MethodName} {bytes : ByteArray} {maxL : Nat} {ret : Option FieldType} {ws : List Jvm.Cond} {as : Array Value} (hp : plainFor y = true)
    (body : ∀ p e s m below meth c s₁, Stand p l e rm s m as below meth c s₁ [] 0 0 → p.tables.exec = Jvm.exec → Z.Warmed39 s.vm → c.code = bytes → c.maxLocals = maxL → s.vm.findClass y.cls = some m.cls → meth.name = y.name → meth.sig.returnType = ret → meth.locks = false → s₁.heap = h0 → s.methodNamed? y = some m →
      own_Go p e below s Q rm (s₁.setTop (entryFrame m as maxL))) :
    MetFree l y (head1 (Jvm.Cond.code y bytes maxL ret :: ws) rm) (fun a U => a = as ∧ Z.Warmed39 U.vm ∧ U.heap = h0) (fun _ _ _ _ _ => True) (fun _ U o U' => ∃ v L, o = .returned v ∧ Q v U'.heap L ∧ FrameEnd U o U' L rm.cells rm.slots) := by
  refine MetFree.of_bodySF hp hisR ?_
  intro p e s m args below meth c s₁ Bd hml0 hP hK
  obtain ⟨rfl, hZ, hh⟩ := hP
  have X0 : Stand p l e rm s m args below meth c s₁ [] 0 0 := Stand.of_body Bd
  exact body p e s m below meth c s₁ X0 Bd.exec hZ Bd.bytes hml0 (findClass_of_methodNamed Bd.named) (name_of_methodNamed Bd.named Bd.method).1 Bd.returns (BodyLoose.notSynchronized Bd) (by rw [← hh, Bd.state]; rfl) Bd.named
end OwnKit
theorem own_nar {v : Value} {C : String} (h : v.isRef = true) : narrow (.object C) v = v := by rcases ref_cases h with rfl | ⟨_, rfl⟩ <;> rfl
theorem own_fit {v : Value} {C : String} (h : v.isRef = true) : fits (.object C) v = true := by rcases ref_cases h with rfl | ⟨_, rfl⟩ <;> rfl
theorem own_cat {v : Value} (h : v.isRef = true) : v.category = 1 := by rcases ref_cases h with rfl | ⟨_, rfl⟩ <;> rfl
theorem own_len31 {Z : State} {args : Array Value} {t : Term} {v : Value} {a : Addr} {cl : Cell} (h : (Term.length t).eval args Z none [] Z = some v) (ht : t.eval args Z none [] Z = some (.ref a)) (hc : Z.heap[a]? = some cl) : cl.slots.size < 2 ^ 31 := by
  simp only [Term.eval, ht, Option.bind_eq_bind, Option.bind_some] at h
  cases ha : Z.arrayAt? a with
  | none => simp [ha] at h
  | some c2 =>
    cases (State.arrayAt?_spec ha).1.symm.trans hc
    by_cases q : cl.slots.size < 2 ^ 31
    · exact q
    · simp [ha, q] at h
theorem own_eqr {Z : State} {args : Array Value} {X F : Term} {y : Value} (hy : y.isRef = true) (hF : F.eval args Z none [] Z = some y) (h : (Jvm.Cond.eq X F).value args Z none Z [] = some true) : X.eval args Z none [] Z = some y := by
  obtain ⟨x, y', e1, e2, k1, k2⟩ := cmp_v (Or.inl h)
  cases hF.symm.trans e2
  have hx : x.isRef = true := by
    rcases ref_cases hy with rfl | ⟨a, rfl⟩
    · exact k2.2
    · exact k2.2
  exact e1.trans (congrArg some (gotT (eq_R e1 hF hx hy) h))
theorem pl_0 : plainFor x = true := plainFor_of_name (by first | (simp [plainName, overriddenIn]; done) | decide +kernel)
theorem d1_0 : decode prog_3_method_2_code 0 = .ok (.new 7, 3) := by decide +kernel
theorem d1_3 : decode prog_3_method_2_code 3 = .ok (.dup, 1) := by decide +kernel
theorem d1_4 : decode prog_3_method_2_code 4 = .ok (.lload_n 0, 1) := by decide +kernel
theorem d1_5 : decode prog_3_method_2_code 5 = .ok (.iconst 0, 1) := by decide +kernel
theorem d1_6 : decode prog_3_method_2_code 6 = .ok (.aload_n 2, 1) := by decide +kernel
theorem d1_7 : decode prog_3_method_2_code 7 = .ok (.aload_n 3, 1) := by decide +kernel
theorem d1_8 : decode prog_3_method_2_code 8 = .ok (.aload 4, 2) := by decide +kernel
theorem d1_10 : decode prog_3_method_2_code 10 = .ok (.aload 5, 2) := by decide +kernel
theorem d1_12 : decode prog_3_method_2_code 12 = .ok (.aload 6, 2) := by decide +kernel
theorem d1_14 : decode prog_3_method_2_code 14 = .ok (.invokespecial 47, 3) := by decide +kernel
theorem d1_17 : decode prog_3_method_2_code 17 = .ok (.areturn, 1) := by decide +kernel
theorem pl_1 : plainFor (⟨"com/example/ajenda/ajenda/core/Job", "made", "(JLjava/lang/String;Lcom/example/ajenda/ajenda/core/FunctionQueue;Lcom/example/ajenda/ajenda/core/Priority;[B[B)Lcom/example/ajenda/ajenda/core/Job;"⟩ : MethodName) = true := plainFor_of_name (by first | (simp [plainName, overriddenIn]; done) | decide +kernel)
theorem d2_0 : decode prog_3_method_1_code 0 = .ok (.aload_n 0, 1) := by decide +kernel
theorem d2_1 : decode prog_3_method_1_code 1 = .ok (.invokespecial 1, 3) := by decide +kernel
theorem d2_4 : decode prog_3_method_1_code 4 = .ok (.aload_n 0, 1) := by decide +kernel
theorem d2_5 : decode prog_3_method_1_code 5 = .ok (.ldc 9, 2) := by decide +kernel
theorem d2_7 : decode prog_3_method_1_code 7 = .ok (.putfield 11, 3) := by decide +kernel
theorem d2_10 : decode prog_3_method_1_code 10 = .ok (.aload_n 0, 1) := by decide +kernel
theorem d2_11 : decode prog_3_method_1_code 11 = .ok (.ldc 9, 2) := by decide +kernel
theorem d2_13 : decode prog_3_method_1_code 13 = .ok (.putfield 15, 3) := by decide +kernel
theorem d2_16 : decode prog_3_method_1_code 16 = .ok (.aload_n 0, 1) := by decide +kernel
theorem d2_17 : decode prog_3_method_1_code 17 = .ok (.lload_n 1, 1) := by decide +kernel
theorem d2_18 : decode prog_3_method_1_code 18 = .ok (.putfield 18, 3) := by decide +kernel
theorem d2_21 : decode prog_3_method_1_code 21 = .ok (.aload_n 0, 1) := by decide +kernel
theorem d2_22 : decode prog_3_method_1_code 22 = .ok (.iload_n 3, 1) := by decide +kernel
theorem d2_23 : decode prog_3_method_1_code 23 = .ok (.putfield 22, 3) := by decide +kernel
theorem d2_26 : decode prog_3_method_1_code 26 = .ok (.aload_n 0, 1) := by decide +kernel
theorem d2_27 : decode prog_3_method_1_code 27 = .ok (.aload 4, 2) := by decide +kernel
theorem d2_29 : decode prog_3_method_1_code 29 = .ok (.putfield 26, 3) := by decide +kernel
theorem d2_32 : decode prog_3_method_1_code 32 = .ok (.aload_n 0, 1) := by decide +kernel
theorem d2_33 : decode prog_3_method_1_code 33 = .ok (.aload 5, 2) := by decide +kernel
theorem d2_35 : decode prog_3_method_1_code 35 = .ok (.putfield 29, 3) := by decide +kernel
theorem d2_38 : decode prog_3_method_1_code 38 = .ok (.aload_n 0, 1) := by decide +kernel
theorem d2_39 : decode prog_3_method_1_code 39 = .ok (.aload 6, 2) := by decide +kernel
theorem d2_41 : decode prog_3_method_1_code 41 = .ok (.putfield 33, 3) := by decide +kernel
theorem d2_44 : decode prog_3_method_1_code 44 = .ok (.aload_n 0, 1) := by decide +kernel
theorem d2_45 : decode prog_3_method_1_code 45 = .ok (.aload 7, 2) := by decide +kernel
theorem d2_47 : decode prog_3_method_1_code 47 = .ok (.arraylength, 1) := by decide +kernel
theorem d2_48 : decode prog_3_method_1_code 48 = .ok (.ifCond .ne 9, 3) := by decide +kernel
theorem d2_51 : decode prog_3_method_1_code 51 = .ok (.getstatic 37, 3) := by decide +kernel
theorem d2_54 : decode prog_3_method_1_code 54 = .ok (.goto 5, 3) := by decide +kernel
theorem d2_57 : decode prog_3_method_1_code 57 = .ok (.aload 7, 2) := by decide +kernel
theorem d2_59 : decode prog_3_method_1_code 59 = .ok (.putfield 41, 3) := by decide +kernel
theorem d2_62 : decode prog_3_method_1_code 62 = .ok (.aload_n 0, 1) := by decide +kernel
theorem d2_63 : decode prog_3_method_1_code 63 = .ok (.aload 8, 2) := by decide +kernel
theorem d2_65 : decode prog_3_method_1_code 65 = .ok (.arraylength, 1) := by decide +kernel
theorem d2_66 : decode prog_3_method_1_code 66 = .ok (.ifCond .ne 9, 3) := by decide +kernel
theorem d2_69 : decode prog_3_method_1_code 69 = .ok (.getstatic 37, 3) := by decide +kernel
theorem d2_72 : decode prog_3_method_1_code 72 = .ok (.goto 5, 3) := by decide +kernel
theorem d2_75 : decode prog_3_method_1_code 75 = .ok (.aload 8, 2) := by decide +kernel
theorem d2_77 : decode prog_3_method_1_code 77 = .ok (.putfield 44, 3) := by decide +kernel
theorem d2_80 : decode prog_3_method_1_code 80 = .ok (.return_, 1) := by decide +kernel
theorem pl_2 : plainFor (⟨"com/example/ajenda/ajenda/core/Job", "<init>", "(JZLjava/lang/String;Lcom/example/ajenda/ajenda/core/FunctionQueue;Lcom/example/ajenda/ajenda/core/Priority;[B[B)V"⟩ : MethodName) = true := plainFor_of_name (by first | (simp [plainName, overriddenIn]; done) | decide +kernel)
theorem d4_0 : decode prog_11_method_1_code 0 = .ok (.aload_n 0, 1) := by decide +kernel
theorem d4_1 : decode prog_11_method_1_code 1 = .ok (.invokespecial 1, 3) := by decide +kernel
theorem d4_4 : decode prog_11_method_1_code 4 = .ok (.aload_n 0, 1) := by decide +kernel
theorem d4_5 : decode prog_11_method_1_code 5 = .ok (.bipush 16, 2) := by decide +kernel
theorem d4_7 : decode prog_11_method_1_code 7 = .ok (.anewarray 9, 3) := by decide +kernel
theorem d4_10 : decode prog_11_method_1_code 10 = .ok (.putfield 11, 3) := by decide +kernel
theorem d4_13 : decode prog_11_method_1_code 13 = .ok (.return_, 1) := by decide +kernel
theorem pl_4 : plainFor (⟨"com/example/ajenda/ajenda/core/JobsByNumber", "<init>", "()V"⟩ : MethodName) = true := plainFor_of_name (by first | (simp [plainName, overriddenIn]; done) | decide +kernel)
theorem d5_0 : decode prog_11_method_2_code 0 = .ok (.aload_n 0, 1) := by decide +kernel
theorem d5_1 : decode prog_11_method_2_code 1 = .ok (.getfield 15, 3) := by decide +kernel
theorem d5_4 : decode prog_11_method_2_code 4 = .ok (.aload_n 0, 1) := by decide +kernel
theorem d5_5 : decode prog_11_method_2_code 5 = .ok (.getfield 11, 3) := by decide +kernel
theorem d5_8 : decode prog_11_method_2_code 8 = .ok (.arraylength, 1) := by decide +kernel
theorem d5_9 : decode prog_11_method_2_code 9 = .ok (.iconst 4, 1) := by decide +kernel
theorem d5_10 : decode prog_11_method_2_code 10 = .ok (.idiv, 1) := by decide +kernel
theorem d5_11 : decode prog_11_method_2_code 11 = .ok (.iconst 3, 1) := by decide +kernel
theorem d5_12 : decode prog_11_method_2_code 12 = .ok (.imul, 1) := by decide +kernel
theorem d5_13 : decode prog_11_method_2_code 13 = .ok (.if_icmp .lt 41, 3) := by decide +kernel
theorem d5_16 : decode prog_11_method_2_code 16 = .ok (.aload_n 0, 1) := by decide +kernel
theorem d5_17 : decode prog_11_method_2_code 17 = .ok (.getfield 11, 3) := by decide +kernel
theorem d5_20 : decode prog_11_method_2_code 20 = .ok (.arraylength, 1) := by decide +kernel
theorem d5_21 : decode prog_11_method_2_code 21 = .ok (.ldc 19, 2) := by decide +kernel
theorem d5_23 : decode prog_11_method_2_code 23 = .ok (.if_icmp .ne 20, 3) := by decide +kernel
theorem d5_26 : decode prog_11_method_2_code 26 = .ok (.new 20, 3) := by decide +kernel
theorem d5_29 : decode prog_11_method_2_code 29 = .ok (.dup, 1) := by decide +kernel
theorem d5_30 : decode prog_11_method_2_code 30 = .ok (.aload_n 0, 1) := by decide +kernel
theorem d5_31 : decode prog_11_method_2_code 31 = .ok (.getfield 15, 3) := by decide +kernel
theorem d5_34 : decode prog_11_method_2_code 34 = .ok (.invokedynamic 22, 5) := by decide +kernel
theorem d5_39 : decode prog_11_method_2_code 39 = .ok (.invokespecial 26, 3) := by decide +kernel
theorem d5_42 : decode prog_11_method_2_code 42 = .ok (.athrow, 1) := by decide +kernel
theorem d5_43 : decode prog_11_method_2_code 43 = .ok (.aload_n 0, 1) := by decide +kernel
theorem d5_44 : decode prog_11_method_2_code 44 = .ok (.aload_n 0, 1) := by decide +kernel
theorem d5_45 : decode prog_11_method_2_code 45 = .ok (.getfield 11, 3) := by decide +kernel
theorem d5_48 : decode prog_11_method_2_code 48 = .ok (.arraylength, 1) := by decide +kernel
theorem d5_49 : decode prog_11_method_2_code 49 = .ok (.iconst 2, 1) := by decide +kernel
theorem d5_50 : decode prog_11_method_2_code 50 = .ok (.imul, 1) := by decide +kernel
theorem d5_51 : decode prog_11_method_2_code 51 = .ok (.invokevirtual 29, 3) := by decide +kernel
theorem d5_54 : decode prog_11_method_2_code 54 = .ok (.aload_n 0, 1) := by decide +kernel
theorem d5_55 : decode prog_11_method_2_code 55 = .ok (.getfield 11, 3) := by decide +kernel
theorem d5_58 : decode prog_11_method_2_code 58 = .ok (.aload_n 1, 1) := by decide +kernel
theorem d5_59 : decode prog_11_method_2_code 59 = .ok (.invokestatic 33, 3) := by decide +kernel
theorem d5_62 : decode prog_11_method_2_code 62 = .ok (.aload_n 0, 1) := by decide +kernel
theorem d5_63 : decode prog_11_method_2_code 63 = .ok (.dup, 1) := by decide +kernel
theorem d5_64 : decode prog_11_method_2_code 64 = .ok (.getfield 15, 3) := by decide +kernel
theorem d5_67 : decode prog_11_method_2_code 67 = .ok (.iconst 1, 1) := by decide +kernel
theorem d5_68 : decode prog_11_method_2_code 68 = .ok (.iadd, 1) := by decide +kernel
theorem d5_69 : decode prog_11_method_2_code 69 = .ok (.putfield 15, 3) := by decide +kernel
theorem d5_72 : decode prog_11_method_2_code 72 = .ok (.return_, 1) := by decide +kernel
theorem pl_5 : plainFor (⟨"com/example/ajenda/ajenda/core/JobsByNumber", "add", "(Lcom/example/ajenda/ajenda/core/Job;)V"⟩ : MethodName) = true := plainFor_of_name (by first | (simp [plainName, overriddenIn]; done) | decide +kernel)
theorem d6_0 : decode prog_11_method_8_code 0 = .ok (.aload_n 1, 1) := by decide +kernel
theorem d6_1 : decode prog_11_method_8_code 1 = .ok (.getfield 41, 3) := by decide +kernel
theorem d6_4 : decode prog_11_method_8_code 4 = .ok (.aload_n 0, 1) := by decide +kernel
theorem d6_5 : decode prog_11_method_8_code 5 = .ok (.arraylength, 1) := by decide +kernel
theorem d6_6 : decode prog_11_method_8_code 6 = .ok (.invokestatic 37, 3) := by decide +kernel
theorem d6_9 : decode prog_11_method_8_code 9 = .ok (.istore_n 2, 1) := by decide +kernel
theorem d6_10 : decode prog_11_method_8_code 10 = .ok (.aload_n 0, 1) := by decide +kernel
theorem d6_11 : decode prog_11_method_8_code 11 = .ok (.iload_n 2, 1) := by decide +kernel
theorem d6_12 : decode prog_11_method_8_code 12 = .ok (.aaload, 1) := by decide +kernel
theorem d6_13 : decode prog_11_method_8_code 13 = .ok (.ifnull 15, 3) := by decide +kernel
theorem d6_16 : decode prog_11_method_8_code 16 = .ok (.iload_n 2, 1) := by decide +kernel
theorem d6_17 : decode prog_11_method_8_code 17 = .ok (.iconst 1, 1) := by decide +kernel
theorem d6_18 : decode prog_11_method_8_code 18 = .ok (.iadd, 1) := by decide +kernel
theorem d6_19 : decode prog_11_method_8_code 19 = .ok (.aload_n 0, 1) := by decide +kernel
theorem d6_20 : decode prog_11_method_8_code 20 = .ok (.arraylength, 1) := by decide +kernel
theorem d6_21 : decode prog_11_method_8_code 21 = .ok (.iconst 1, 1) := by decide +kernel
theorem d6_22 : decode prog_11_method_8_code 22 = .ok (.isub, 1) := by decide +kernel
theorem d6_23 : decode prog_11_method_8_code 23 = .ok (.iand, 1) := by decide +kernel
theorem d6_24 : decode prog_11_method_8_code 24 = .ok (.istore_n 2, 1) := by decide +kernel
theorem d6_25 : decode prog_11_method_8_code 25 = .ok (.goto (-15), 3) := by decide +kernel
theorem d6_28 : decode prog_11_method_8_code 28 = .ok (.aload_n 0, 1) := by decide +kernel
theorem d6_29 : decode prog_11_method_8_code 29 = .ok (.iload_n 2, 1) := by decide +kernel
theorem d6_30 : decode prog_11_method_8_code 30 = .ok (.aload_n 1, 1) := by decide +kernel
theorem d6_31 : decode prog_11_method_8_code 31 = .ok (.aastore, 1) := by decide +kernel
theorem d6_32 : decode prog_11_method_8_code 32 = .ok (.return_, 1) := by decide +kernel
theorem pl_6 : plainFor (⟨"com/example/ajenda/ajenda/core/JobsByNumber", "place", "([Lcom/example/ajenda/ajenda/core/Job;Lcom/example/ajenda/ajenda/core/Job;)V"⟩ : MethodName) = true := plainFor_of_name (by first | (simp [plainName, overriddenIn]; done) | decide +kernel)
theorem d7_0 : decode prog_11_method_9_code 0 = .ok (.lload_n 0, 1) := by decide +kernel
theorem d7_1 : decode prog_11_method_9_code 1 = .ok (.ldc2_w 51, 3) := by decide +kernel
theorem d7_4 : decode prog_11_method_9_code 4 = .ok (.lmul, 1) := by decide +kernel
theorem d7_5 : decode prog_11_method_9_code 5 = .ok (.bipush 64, 2) := by decide +kernel
theorem d7_7 : decode prog_11_method_9_code 7 = .ok (.iload_n 2, 1) := by decide +kernel
theorem d7_8 : decode prog_11_method_9_code 8 = .ok (.invokestatic 55, 3) := by decide +kernel
theorem d7_11 : decode prog_11_method_9_code 11 = .ok (.isub, 1) := by decide +kernel
theorem d7_12 : decode prog_11_method_9_code 12 = .ok (.lushr, 1) := by decide +kernel
theorem d7_13 : decode prog_11_method_9_code 13 = .ok (.l2i, 1) := by decide +kernel
theorem d7_14 : decode prog_11_method_9_code 14 = .ok (.ireturn, 1) := by decide +kernel
theorem pl_7 : plainFor (⟨"com/example/ajenda/ajenda/core/JobsByNumber", "home", "(JI)I"⟩ : MethodName) = true := plainFor_of_name (by first | (simp [plainName, overriddenIn]; done) | decide +kernel)
theorem d8_0 : decode jdk_33_method_48_code 0 = .ok (.iload_n 0, 1) := by decide +kernel
theorem d8_1 : decode jdk_33_method_48_code 1 = .ok (.iconst (-1), 1) := by decide +kernel
theorem d8_2 : decode jdk_33_method_48_code 2 = .ok (.ixor, 1) := by decide +kernel
theorem d8_3 : decode jdk_33_method_48_code 3 = .ok (.iload_n 0, 1) := by decide +kernel
theorem d8_4 : decode jdk_33_method_48_code 4 = .ok (.iconst 1, 1) := by decide +kernel
theorem d8_5 : decode jdk_33_method_48_code 5 = .ok (.isub, 1) := by decide +kernel
theorem d8_6 : decode jdk_33_method_48_code 6 = .ok (.iand, 1) := by decide +kernel
theorem d8_7 : decode jdk_33_method_48_code 7 = .ok (.istore_n 0, 1) := by decide +kernel
theorem d8_8 : decode jdk_33_method_48_code 8 = .ok (.iload_n 0, 1) := by decide +kernel
theorem d8_9 : decode jdk_33_method_48_code 9 = .ok (.ifCond .gt 8, 3) := by decide +kernel
theorem d8_12 : decode jdk_33_method_48_code 12 = .ok (.iload_n 0, 1) := by decide +kernel
theorem d8_13 : decode jdk_33_method_48_code 13 = .ok (.bipush 32, 2) := by decide +kernel
theorem d8_15 : decode jdk_33_method_48_code 15 = .ok (.iand, 1) := by decide +kernel
theorem d8_16 : decode jdk_33_method_48_code 16 = .ok (.ireturn, 1) := by decide +kernel
theorem d8_17 : decode jdk_33_method_48_code 17 = .ok (.iconst 1, 1) := by decide +kernel
theorem d8_18 : decode jdk_33_method_48_code 18 = .ok (.istore_n 1, 1) := by decide +kernel
theorem d8_19 : decode jdk_33_method_48_code 19 = .ok (.iload_n 0, 1) := by decide +kernel
theorem d8_20 : decode jdk_33_method_48_code 20 = .ok (.ldc_w 264, 3) := by decide +kernel
theorem d8_23 : decode jdk_33_method_48_code 23 = .ok (.if_icmp .le 11, 3) := by decide +kernel
theorem d8_26 : decode jdk_33_method_48_code 26 = .ok (.iinc 1 16, 3) := by decide +kernel
theorem d8_29 : decode jdk_33_method_48_code 29 = .ok (.iload_n 0, 1) := by decide +kernel
theorem d8_30 : decode jdk_33_method_48_code 30 = .ok (.bipush 16, 2) := by decide +kernel
theorem d8_32 : decode jdk_33_method_48_code 32 = .ok (.iushr, 1) := by decide +kernel
theorem d8_33 : decode jdk_33_method_48_code 33 = .ok (.istore_n 0, 1) := by decide +kernel
theorem d8_34 : decode jdk_33_method_48_code 34 = .ok (.iload_n 0, 1) := by decide +kernel
theorem d8_35 : decode jdk_33_method_48_code 35 = .ok (.sipush 256, 3) := by decide +kernel
theorem d8_38 : decode jdk_33_method_48_code 38 = .ok (.if_icmp .le 11, 3) := by decide +kernel
theorem d8_41 : decode jdk_33_method_48_code 41 = .ok (.iinc 1 8, 3) := by decide +kernel
theorem d8_44 : decode jdk_33_method_48_code 44 = .ok (.iload_n 0, 1) := by decide +kernel
theorem d8_45 : decode jdk_33_method_48_code 45 = .ok (.bipush 8, 2) := by decide +kernel
theorem d8_47 : decode jdk_33_method_48_code 47 = .ok (.iushr, 1) := by decide +kernel
theorem d8_48 : decode jdk_33_method_48_code 48 = .ok (.istore_n 0, 1) := by decide +kernel
theorem d8_49 : decode jdk_33_method_48_code 49 = .ok (.iload_n 0, 1) := by decide +kernel
theorem d8_50 : decode jdk_33_method_48_code 50 = .ok (.bipush 16, 2) := by decide +kernel
theorem d8_52 : decode jdk_33_method_48_code 52 = .ok (.if_icmp .le 10, 3) := by decide +kernel
theorem d8_55 : decode jdk_33_method_48_code 55 = .ok (.iinc 1 4, 3) := by decide +kernel
theorem d8_58 : decode jdk_33_method_48_code 58 = .ok (.iload_n 0, 1) := by decide +kernel
theorem d8_59 : decode jdk_33_method_48_code 59 = .ok (.iconst 4, 1) := by decide +kernel
theorem d8_60 : decode jdk_33_method_48_code 60 = .ok (.iushr, 1) := by decide +kernel
theorem d8_61 : decode jdk_33_method_48_code 61 = .ok (.istore_n 0, 1) := by decide +kernel
theorem d8_62 : decode jdk_33_method_48_code 62 = .ok (.iload_n 0, 1) := by decide +kernel
theorem d8_63 : decode jdk_33_method_48_code 63 = .ok (.iconst 4, 1) := by decide +kernel
theorem d8_64 : decode jdk_33_method_48_code 64 = .ok (.if_icmp .le 10, 3) := by decide +kernel
theorem d8_67 : decode jdk_33_method_48_code 67 = .ok (.iinc 1 2, 3) := by decide +kernel
theorem d8_70 : decode jdk_33_method_48_code 70 = .ok (.iload_n 0, 1) := by decide +kernel
theorem d8_71 : decode jdk_33_method_48_code 71 = .ok (.iconst 2, 1) := by decide +kernel
theorem d8_72 : decode jdk_33_method_48_code 72 = .ok (.iushr, 1) := by decide +kernel
theorem d8_73 : decode jdk_33_method_48_code 73 = .ok (.istore_n 0, 1) := by decide +kernel
theorem d8_74 : decode jdk_33_method_48_code 74 = .ok (.iload_n 1, 1) := by decide +kernel
theorem d8_75 : decode jdk_33_method_48_code 75 = .ok (.iload_n 0, 1) := by decide +kernel
theorem d8_76 : decode jdk_33_method_48_code 76 = .ok (.iconst 1, 1) := by decide +kernel
theorem d8_77 : decode jdk_33_method_48_code 77 = .ok (.iushr, 1) := by decide +kernel
theorem d8_78 : decode jdk_33_method_48_code 78 = .ok (.iadd, 1) := by decide +kernel
theorem d8_79 : decode jdk_33_method_48_code 79 = .ok (.ireturn, 1) := by decide +kernel
theorem pl_8 : plainFor (⟨"java/lang/Integer", "numberOfTrailingZeros", "(I)I"⟩ : MethodName) = true := plainFor_of_name (by first | (simp [plainName, overriddenIn]; done) | decide +kernel)
theorem d9_0 : decode prog_11_method_3_code 0 = .ok (.aload_n 0, 1) := by decide +kernel
theorem d9_1 : decode prog_11_method_3_code 1 = .ok (.getfield 11, 3) := by decide +kernel
theorem d9_4 : decode prog_11_method_3_code 4 = .ok (.arraylength, 1) := by decide +kernel
theorem d9_5 : decode prog_11_method_3_code 5 = .ok (.iconst 1, 1) := by decide +kernel
theorem d9_6 : decode prog_11_method_3_code 6 = .ok (.isub, 1) := by decide +kernel
theorem d9_7 : decode prog_11_method_3_code 7 = .ok (.istore_n 3, 1) := by decide +kernel
theorem d9_8 : decode prog_11_method_3_code 8 = .ok (.lload_n 1, 1) := by decide +kernel
theorem d9_9 : decode prog_11_method_3_code 9 = .ok (.aload_n 0, 1) := by decide +kernel
theorem d9_10 : decode prog_11_method_3_code 10 = .ok (.getfield 11, 3) := by decide +kernel
theorem d9_13 : decode prog_11_method_3_code 13 = .ok (.arraylength, 1) := by decide +kernel
theorem d9_14 : decode prog_11_method_3_code 14 = .ok (.invokestatic 37, 3) := by decide +kernel
theorem d9_17 : decode prog_11_method_3_code 17 = .ok (.istore 4, 2) := by decide +kernel
theorem d9_19 : decode prog_11_method_3_code 19 = .ok (.aload_n 0, 1) := by decide +kernel
theorem d9_20 : decode prog_11_method_3_code 20 = .ok (.getfield 11, 3) := by decide +kernel
theorem d9_23 : decode prog_11_method_3_code 23 = .ok (.iload 4, 2) := by decide +kernel
theorem d9_25 : decode prog_11_method_3_code 25 = .ok (.aaload, 1) := by decide +kernel
theorem d9_26 : decode prog_11_method_3_code 26 = .ok (.ifnull 37, 3) := by decide +kernel
theorem d9_29 : decode prog_11_method_3_code 29 = .ok (.aload_n 0, 1) := by decide +kernel
theorem d9_30 : decode prog_11_method_3_code 30 = .ok (.getfield 11, 3) := by decide +kernel
theorem d9_33 : decode prog_11_method_3_code 33 = .ok (.iload 4, 2) := by decide +kernel
theorem d9_35 : decode prog_11_method_3_code 35 = .ok (.aaload, 1) := by decide +kernel
theorem d9_36 : decode prog_11_method_3_code 36 = .ok (.getfield 41, 3) := by decide +kernel
theorem d9_39 : decode prog_11_method_3_code 39 = .ok (.lload_n 1, 1) := by decide +kernel
theorem d9_40 : decode prog_11_method_3_code 40 = .ok (.lcmp, 1) := by decide +kernel
theorem d9_41 : decode prog_11_method_3_code 41 = .ok (.ifCond .ne 11, 3) := by decide +kernel
theorem d9_44 : decode prog_11_method_3_code 44 = .ok (.aload_n 0, 1) := by decide +kernel
theorem d9_45 : decode prog_11_method_3_code 45 = .ok (.getfield 11, 3) := by decide +kernel
theorem d9_48 : decode prog_11_method_3_code 48 = .ok (.iload 4, 2) := by decide +kernel
theorem d9_50 : decode prog_11_method_3_code 50 = .ok (.aaload, 1) := by decide +kernel
theorem d9_51 : decode prog_11_method_3_code 51 = .ok (.areturn, 1) := by decide +kernel
theorem d9_52 : decode prog_11_method_3_code 52 = .ok (.iload 4, 2) := by decide +kernel
theorem d9_54 : decode prog_11_method_3_code 54 = .ok (.iconst 1, 1) := by decide +kernel
theorem d9_55 : decode prog_11_method_3_code 55 = .ok (.iadd, 1) := by decide +kernel
theorem d9_56 : decode prog_11_method_3_code 56 = .ok (.iload_n 3, 1) := by decide +kernel
theorem d9_57 : decode prog_11_method_3_code 57 = .ok (.iand, 1) := by decide +kernel
theorem d9_58 : decode prog_11_method_3_code 58 = .ok (.istore 4, 2) := by decide +kernel
theorem d9_60 : decode prog_11_method_3_code 60 = .ok (.goto (-41), 3) := by decide +kernel
theorem d9_63 : decode prog_11_method_3_code 63 = .ok (.aconst_null, 1) := by decide +kernel
theorem d9_64 : decode prog_11_method_3_code 64 = .ok (.areturn, 1) := by decide +kernel
theorem pl_9 : plainFor (⟨"com/example/ajenda/ajenda/core/JobsByNumber", "get", "(J)Lcom/example/ajenda/ajenda/core/Job;"⟩ : MethodName) = true := plainFor_of_name (by first | (simp [plainName, overriddenIn]; done) | decide +kernel)
theorem pd_0 : parseMethodDescriptor "(JLjava/lang/String;Lcom/example/ajenda/ajenda/core/FunctionQueue;Lcom/example/ajenda/ajenda/core/Priority;[B[B)Lcom/example/ajenda/ajenda/core/Job;" = some ⟨[.long, (.object "java/lang/String"), (.object "com/example/ajenda/ajenda/core/FunctionQueue"), (.object "com/example/ajenda/ajenda/core/Priority"), (.array .byte), (.array .byte)], some (.object "com/example/ajenda/ajenda/core/Job")⟩ := by decide +kernel
theorem pd_1 : parseMethodDescriptor "(JZLjava/lang/String;Lcom/example/ajenda/ajenda/core/FunctionQueue;Lcom/example/ajenda/ajenda/core/Priority;[B[B)V" = some ⟨[.long, .boolean, (.object "java/lang/String"), (.object "com/example/ajenda/ajenda/core/FunctionQueue"), (.object "com/example/ajenda/ajenda/core/Priority"), (.array .byte), (.array .byte)], none⟩ := by decide +kernel
theorem pd_2 : parseMethodDescriptor "()V" = some ⟨[], none⟩ := by decide +kernel
theorem pd_3 : parseMethodDescriptor "(Lcom/example/ajenda/ajenda/core/Job;)V" = some ⟨[(.object "com/example/ajenda/ajenda/core/Job")], none⟩ := by decide +kernel
theorem pd_4 : parseMethodDescriptor "([Lcom/example/ajenda/ajenda/core/Job;Lcom/example/ajenda/ajenda/core/Job;)V" = some ⟨[(.array (.object "com/example/ajenda/ajenda/core/Job")), (.object "com/example/ajenda/ajenda/core/Job")], none⟩ := by decide +kernel
theorem pd_5 : parseMethodDescriptor "(JI)I" = some ⟨[.long, .int], some .int⟩ := by decide +kernel
theorem pd_6 : parseMethodDescriptor "(I)I" = some ⟨[.int], some .int⟩ := by decide +kernel
theorem pd_7 : parseMethodDescriptor "(J)Lcom/example/ajenda/ajenda/core/Job;" = some ⟨[.long], some (.object "com/example/ajenda/ajenda/core/Job")⟩ := by decide +kernel
def own_GoW (p : Program) (e : Env) (below : List Frame) (s : State) (Q : Option Value → Heap → List Loc → Prop) (rm : Room) (S : State) : Prop :=
  ∃ t o, Steps p.tables e below S t ∧ t.status = .running ∧ Ended t below o ∧ ∃ v L, o = .returned v ∧ Q v t.heap L ∧ ReturnedEndW s o t L rm.cells rm.slots
/-- s is the start s0 with the tables at hand -/
def own_At (s0 s : State) (h : Heap) : Prop := ∃ vm k, s = s0.setVm vm ∧ s0.Since vm k ∧ k ≤ h.size
section OwnKitW
variable {p : Program} {l : Launch} {e : Env} {R rm : Room} {s s0 Z S S' : State} {h h' : Heap} {m : MethodId} {args a0 : Array Value} {below : List Frame} {meth : Method} {c : Code} {T : State} {locs : List Loc} {cells slots : Nat} {Q : Option Value → Heap → List Loc → Prop} {own : String}
theorem own_byW (st : ∀ t, Steps p.tables e below S' t → Steps p.tables e below S t) (k : own_GoW p e below s Q rm S') : own_GoW p e below s Q rm S := by
  obtain ⟨t, o, h, r⟩ := k
  exact ⟨t, o, st _ h, r⟩
theorem own_viaW (st : Steps p.tables e below S S') (k : own_GoW p e below s Q rm S') : own_GoW p e below s Q rm S := own_byW (fun _ h => st.trans h) k
theorem own_At.up (A : own_At s0 s h) (q : h.size ≤ h'.size) : own_At s0 s h' := by
  obtain ⟨vm, k, e1, e2, e3⟩ := A
  exact ⟨vm, k, e1, e2, Nat.le_trans e3 q⟩
theorem own_first (h : Heap) (X : Stand p l e R s m args below meth c T locs cells slots) (hZ : Z.Warmed39 s.vm) (hown : s.vm.findClass own = some m.cls) :
    ∃ s', own_At s s' h ∧ Z.Warmed39 s'.vm ∧ s'.vm.findClass own = some m.cls ∧ Stand p l e R s' m args below meth c T locs cells slots :=
  ⟨s, ⟨s.vm, 0, rfl, (State.WarmedH.refl s).since 0, Nat.zero_le _⟩, hZ, hown, X⟩
theorem own_next {U : State} (X : Stand p l e R (s.setVm U.vm) m args below meth c U locs cells slots) (hS : s.Since U.vm U.heap.size) (hg : T.heap.size ≤ U.heap.size) (eT : T.heap = h) (A : own_At s0 s h) (hZ : Z.Warmed39 s.vm) (hown : s.vm.findClass own = some m.cls) :
    ∃ s', own_At s0 s' U.heap ∧ Z.Warmed39 s'.vm ∧ s'.vm.findClass own = some m.cls ∧ Stand p l e R s' m args below meth c U locs cells slots := by
  refine ⟨s.setVm U.vm, ?_, State.Warmed39.trans (t := s) hZ hS.1, by rw [show (s.setVm U.vm).vm = U.vm from rfl, hS.1.alike.findClass]; exact hown, X⟩
  obtain ⟨vm, k, rfl, e2, e3⟩ := A
  subst eT
  exact ⟨U.vm, _, rfl, e2.trans hS (Nat.le_trans e3 hg), Nat.le_refl _⟩
theorem own_ldc (X : Stand p l e R s m args below meth c T locs cells slots) (hx : p.tables.exec = Jvm.exec) (hZ : Z.Warmed39 s.vm) {text : String} {index : Nat} (hown : s.vm.findClass own = some m.cls) (w : (Jvm.Cond.stringLink own index text).before a0 Z = true) (wS : ∀ a ∈ Bundle.stringAtoms, a.before a0 Z = true)
    (eT : T.heap = h) (A : own_At s0 s h) {g : JFrame} (hg : g.method = m) (hd : decode c.code g.pc = .ok (.ldc index, 2)) {n : Nat} (hn : 4 * text.toList.length ≤ n) (hbig : n ≤ 536870912) (hc : cells + 2 ≤ R.cells) (hl : slots + (n + 4) ≤ R.slots) :
    ∃ (a : Addr) (s' T' : State) (h' : Heap), T'.heap = h' ∧ Ext h h' ∧ own_At s0 s' h' ∧ Z.Warmed39 s'.vm ∧ s'.vm.findClass own = some m.cls ∧ Stand p l e R s' m args below meth c T' locs (cells + 2) (slots + (n + 4)) ∧
      ∀ target, Steps p.tables e below (T'.setTop { g with pc := g.pc + 2, stack := .ref a :: g.stack }) target → Steps p.tables e below (T.setTop g) target := by
  obtain ⟨vm, k, rfl, e2, e3⟩ := A
  obtain ⟨a, T', h', k1, X', q1, q2, q3, q4, q5, q6, q7⟩ := ldcS X hx hZ hown w wS eT e2 e3 hg hd hn hbig hc hl
  exact ⟨a, s0.setVm T'.vm, T', h', q1, q2, ⟨_, k1, rfl, q3, q4⟩, q5, q6, X', q7⟩
theorem own_outW {v : Option Value} {pc : Nat} {Ls : Array Slot} {st : List Value} (X : Stand p l e rm s m args below meth c T locs cells slots) (eT : T.heap = h) (A : own_At s0 s h) (hlk : meth.locks = false) (hv : meth.sig.returnType = none → v = none) (hc : cells ≤ rm.cells) (hs : slots ≤ rm.slots)
    (step : ∀ fs, (∀ (f : JFrame) (acts : List Action), f.method = m → f.locked = none → f.entered = [] → (doReturn e (T.setTop f) acts v).1 = T.setFrames fs) → Steps p.tables e below (T.setTop (mkF m pc Ls st)) (T.setFrames fs)) (hQ : Q v T.heap locs) : own_GoW p e below s0 Q rm (T.setTop (mkF m pc Ls st)) := by
  obtain ⟨vm, k, rfl, hS, hk⟩ := A
  obtain ⟨fs, hr, hrun, hended, h1, h2, h3, h4⟩ := X.leaveW hS (by rw [eT]; exact hk) (v := v) hv hlk
  exact ⟨_, _, step fs hr, hrun, hended, v, locs, rfl, hQ, h1, h2, h3, h4.mono hc hs⟩
theorem own_retVW (X : Stand p l e rm s m args below meth c T locs cells slots) (eT : T.heap = h) (A : own_At s0 s h) (hx : p.tables.exec = Jvm.exec) (hlk : meth.locks = false) {pc : Nat} {Ls : Array Slot} (hret : meth.sig.returnType = none) (hd : decode c.code pc = .ok (.return_, 1)) (hQ : Q none T.heap locs) (hc : cells ≤ rm.cells) (hs : slots ≤ rm.slots) :
    own_GoW p e below s0 Q rm (T.setTop (mkF m pc Ls [])) := own_outW X eT A hlk (fun _ => rfl) hc hs (fun fs hr => X.returnOut hx hret hd hr) hQ
theorem own_retIW (X : Stand p l e rm s m args below meth c T locs cells slots) (eT : T.heap = h) (A : own_At s0 s h) (hx : p.tables.exec = Jvm.exec) (hlk : meth.locks = false) {pc : Nat} {Ls : Array Slot} {z : Int32} {t : FieldType} {rest : List Value} (hret : meth.sig.returnType = some t) (ht : t = .int ∨ t = .boolean ∨ t = .byte ∨ t = .char ∨ t = .short) (hn : narrow t (.int z) = .int z) (hd : decode c.code pc = .ok (.ireturn, 1)) (hQ : Q (some (.int z)) T.heap locs) (hc : cells ≤ rm.cells) (hs : slots ≤ rm.slots) :
    own_GoW p e below s0 Q rm (T.setTop (mkF m pc Ls (.int z :: rest))) := own_outW X eT A hlk (fun h => by rw [hret] at h; cases h) hc hs (fun fs hr => retOut X hx hret hn (Or.inl ⟨rfl, ht, z, rfl⟩) hd hr) hQ
theorem own_retAW (X : Stand p l e rm s m args below meth c T locs cells slots) (eT : T.heap = h) (A : own_At s0 s h) (hx : p.tables.exec = Jvm.exec) (hlk : meth.locks = false) {pc : Nat} {Ls : Array Slot} {w : Value} {t : FieldType} {rest : List Value} (hret : meth.sig.returnType = some t) (ht : t.isReference = true) (hw : w.isRef = true) (hd : decode c.code pc = .ok (.areturn, 1)) (hQ : Q (some w) T.heap locs) (hc : cells ≤ rm.cells) (hs : slots ≤ rm.slots) :
    own_GoW p e below s0 Q rm (T.setTop (mkF m pc Ls (w :: rest))) := by
  have hn : narrow t w = w := by cases w <;> first | (simp [Value.isRef] at hw; done) | (cases t <;> first | (simp [FieldType.isReference] at ht; done) | rfl)
  exact own_outW X eT A hlk (fun h => by rw [hret] at h; cases h) hc hs (fun fs hr => retOut X hx hret hn (Or.inr (Or.inr (Or.inr (Or.inr ⟨rfl, ht, hw⟩)))) hd hr) hQ
theorem own_enterW {h0 : Heap} {y : MethodName} {bytes : ByteArray} {maxL : Nat} {ret : Option FieldType} {ws : List Jvm.Cond} {as : Array Value} (hp : plainFor y = true)
    (body : ∀ p e s m below meth c s₁, Stand p l e rm s m as below meth c s₁ [] 0 0 → p.tables.exec = Jvm.exec → Z.Warmed39 s.vm → c.code = bytes → c.maxLocals = maxL → s.vm.findClass y.cls = some m.cls → meth.name = y.name → meth.sig.returnType = ret → meth.locks = false → s₁.heap = h0 → s.methodNamed? y = some m →
      own_GoW p e below s Q rm (s₁.setTop (entryFrame m as maxL))) :
    MetFree l y (head1 (Jvm.Cond.code y bytes maxL ret :: ws) rm) (fun a U => a = as ∧ Z.Warmed39 U.vm ∧ U.heap = h0) (fun _ _ _ _ _ => True) (fun _ U o U' => ∃ v L, o = .returned v ∧ Q v U'.heap L ∧ ReturnedEndW U o U' L rm.cells rm.slots) := by
  refine MetFree.of_bodySF hp hisR ?_
  intro p e s m args below meth c s₁ Bd hml0 hP hK
  obtain ⟨rfl, hZ, hh⟩ := hP
  have X0 : Stand p l e rm s m args below meth c s₁ [] 0 0 := Stand.of_body Bd
  exact body p e s m below meth c s₁ X0 Bd.exec hZ Bd.bytes hml0 (findClass_of_methodNamed Bd.named) (name_of_methodNamed Bd.named Bd.method).1 Bd.returns (BodyLoose.notSynchronized Bd) (by rw [← hh, Bd.state]; rfl) Bd.named
end OwnKitW
/-- the table: slot -> the job there -/
def own_val : Option Addr → Value | none => .null | some b => .ref b
def own_tab (g : Nat → Option Addr) : List Value := (List.range 16).map fun i => own_val (g i)
def own_g0 : Nat → Option Addr := fun _ => none
def own_set (g : Nat → Option Addr) (k : Nat) (j : Addr) : Nat → Option Addr := fun i => if i = k then some j else g i
def own_home (x : Int64) : Int32 := (((x * (-7046029254386353131 : Int64)).toUInt64 >>> (((64 : Int32) - (4 : Int32)) &&& 0x3f).toInt64.toUInt64).toInt64).toInt32
theorem own_tab_len (g : Nat → Option Addr) : (own_tab g).length = 16 := by simp [own_tab]
theorem own_tab_at (g : Nat → Option Addr) {i : Nat} (h : i < 16) : (own_tab g).getD i .null = own_val (g i) := by
  simp [own_tab, List.getD_eq_getElem?_getD, h]
theorem own_tab_set (g : Nat → Option Addr) (k : Nat) (j : Addr) : (own_tab g).set k (.ref j) = own_tab (own_set g k j) := by
  apply List.ext_getElem
  · simp [own_tab]
  · intro i h1 h2
    simp only [own_tab, own_set, List.getElem_set, List.getElem_map, List.getElem_range]
    by_cases q : k = i
    · subst q; simp [own_val]
    · rw [if_neg q, if_neg (Ne.symm q)]
theorem own_tab_none : [Value.null, .null, .null, .null, .null, .null, .null, .null, .null, .null, .null, .null, .null, .null, .null, .null] = own_tab own_g0 := rfl
theorem own_home_in (x : Int64) : 0 ≤ (own_home x).toInt ∧ (own_home x).toInt < 16 := by
  unfold own_home
  generalize (x * (-7046029254386353131 : Int64)).toUInt64 = u
  rw [show (((64 : Int32) - (4 : Int32)) &&& 0x3f).toInt64.toUInt64 = (60 : UInt64) by decide]
  have hq : (u >>> 60).toNat < 16 := by
    rw [UInt64.toNat_shiftRight]
    have := u.toNat_lt
    rw [show (60 : UInt64).toNat % 64 = 60 by decide, Nat.shiftRight_eq_div_pow]
    omega
  generalize u >>> 60 = w at hq
  have e : w = UInt64.ofNat w.toNat := by simp
  generalize w.toNat = n at hq e
  subst e
  have : ∀ n : Nat, n < 16 → 0 ≤ ((UInt64.ofNat n).toInt64.toInt32).toInt ∧ ((UInt64.ofNat n).toInt64.toInt32).toInt < 16 := by decide
  exact this n hq
theorem own_small (i : Int32) (h : 0 ≤ i.toInt ∧ i.toInt < 16) : i.toNatClampNeg < 16 ∧ i = Int32.ofNat i.toNatClampNeg := by
  have e : i.toNatClampNeg = i.toInt.toNat := rfl
  refine ⟨by omega, ?_⟩
  apply Int32.toInt_inj.mp
  rw [Int32.toInt_ofNat_of_lt (by omega)]
  omega
theorem own_nx (i : Int32) (h : 0 ≤ i.toInt ∧ i.toInt < 16) : (0 ≤ ((i + (1 : Int32)) &&& ((16 : Int32) - (1 : Int32))).toInt ∧ ((i + (1 : Int32)) &&& ((16 : Int32) - (1 : Int32))).toInt < 16) ∧ ((i + (1 : Int32)) &&& ((16 : Int32) - (1 : Int32))).toNatClampNeg = (i.toNatClampNeg + 1) % 16 := by
  obtain ⟨q, e⟩ := own_small i h
  generalize i.toNatClampNeg = n at q e
  subst e
  have : ∀ n : Nat, n < 16 → (0 ≤ ((Int32.ofNat n + (1 : Int32)) &&& ((16 : Int32) - (1 : Int32))).toInt ∧ ((Int32.ofNat n + (1 : Int32)) &&& ((16 : Int32) - (1 : Int32))).toInt < 16) ∧ ((Int32.ofNat n + (1 : Int32)) &&& ((16 : Int32) - (1 : Int32))).toNatClampNeg = (n + 1) % 16 := by decide
  exact this n q
theorem own_idx (i : Int32) (h : 0 ≤ i.toInt ∧ i.toInt < 16) : ¬ i < 0 ∧ i < (16 : Int32) := by
  have e1 : (0 : Int32).toInt = 0 := by decide
  have e2 : (16 : Int32).toInt = 16 := by decide
  rw [Int32.lt_iff_toInt_lt, Int32.lt_iff_toInt_lt]
  omega
/-- the road of place's probe from slot k to the free slot k' -/
def own_Free (g : Nat → Option Addr) (k' k : Nat) : Prop := ∀ P : Nat → Prop, (g k' = none → P k') → (∀ k b, g k = some b → P ((k + 1) % 16) → P k) → P k
theorem own_Free.here {g : Nat → Option Addr} {k' : Nat} (h : g k' = none) : own_Free g k' k' := fun _ p _ => p h
theorem own_Free.step {g : Nat → Option Addr} {k' k : Nat} {b : Addr} (h : g k = some b) (F : own_Free g k' ((k + 1) % 16)) : own_Free g k' k := fun P p q => q k b h (F P p q)
/-- the road of get's probe from slot k, and its answer r -/
def own_Find (g : Nat → Option Addr) (num : Addr → Int64) (x : Int64) (r : Option Addr) (k : Nat) : Prop :=
  ∀ P : Nat → Prop, (∀ k, g k = none → r = none → P k) → (∀ k b, g k = some b → num b = x → r = some b → P k) → (∀ k b, g k = some b → ¬ num b = x → P ((k + 1) % 16) → P k) → P k
section OwnFind
variable {g : Nat → Option Addr} {num : Addr → Int64} {x : Int64} {r : Option Addr} {k k' : Nat} {b : Addr}
theorem own_Find.miss (h : g k = none) (e : r = none) : own_Find g num x r k := fun _ p _ _ => p k h e
theorem own_Find.hit (h : g k = some b) (n : num b = x) (e : r = some b) : own_Find g num x r k := fun _ _ p _ => p k b h n e
theorem own_Find.step (h : g k = some b) (n : ¬ num b = x) (F : own_Find g num x r ((k + 1) % 16)) : own_Find g num x r k := fun P p q s => s k b h n (F P p q s)
theorem own_Free.nul (F : own_Free g k' k) : g k' = none := F (fun _ => g k' = none) (fun h => h) (fun _ _ _ h => h)
end OwnFind
theorem own_Free.of {g : Nat → Option Addr} : ∀ (d k : Nat), g ((k + d) % 16) = none → k < 16 → ∃ k', own_Free g k' k
  | 0, k, h, hk => ⟨k, .here (by rwa [Nat.add_zero, Nat.mod_eq_of_lt hk] at h)⟩
  | d + 1, k, h, hk => by
    cases e : g k with
    | none => exact ⟨k, .here e⟩
    | some b =>
      obtain ⟨k', F⟩ := own_Free.of d ((k + 1) % 16) (by rw [show ((k + 1) % 16 + d) % 16 = (k + (d + 1)) % 16 by omega]; exact h) (Nat.mod_lt _ (by decide))
      exact ⟨k', .step e F⟩
/-- a table of the jobs js, at most the slots ks filled -/
def own_T (g : Nat → Option Addr) (num : Addr → Int64) (H : Int64 → Nat) (js : List Addr) (ks : List Nat) : Prop :=
  (∀ k b, g k = some b → b ∈ js) ∧ (∀ b ∈ js, own_Find g num (num b) (some b) (H (num b))) ∧ (∀ k b, g k = some b → k ∈ ks)
section OwnT
variable {g : Nat → Option Addr} {num : Addr → Int64} {H : Int64 → Nat} {js : List Addr} {ks : List Nat} {k' : Nat} {j : Addr}
theorem own_T.all (T : own_T g num H js ks) : ∀ k b, g k = some b → b ∈ js := T.1
theorem own_T.path (T : own_T g num H js ks) : ∀ b ∈ js, own_Find g num (num b) (some b) (H (num b)) := T.2.1
theorem own_T.fil (T : own_T g num H js ks) : ∀ k b, g k = some b → k ∈ ks := T.2.2
theorem own_T.nil (num : Addr → Int64) (H : Int64 → Nat) : own_T own_g0 num H [] [] := ⟨nofun, nofun, nofun⟩
theorem own_T.put (T : own_T g num H js ks) (F : own_Free g k' (H (num j))) (hn : ∀ b ∈ js, ¬ num b = num j) : own_T (own_set g k' j) num H (j :: js) (k' :: ks) := by
  have h0 := F.nul
  have same : ∀ {k b}, g k = some b → own_set g k' j k = some b := by
    intro k b h
    have : k ≠ k' := by intro e; rw [e, h0] at h; cases h
    simp [own_set, this, h]
  refine ⟨?_, ?_, ?_⟩
  · intro k b h
    by_cases q : k = k'
    · simp [own_set, q] at h; simp [h]
    · simp [own_set, q] at h; exact List.mem_cons_of_mem _ (T.all k b h)
  · intro b hb
    rcases List.mem_cons.mp hb with rfl | hb
    · exact F (fun k => own_Find (own_set g k' b) num (num b) (some b) k) (fun _ => .hit (by simp [own_set]) rfl rfl) (fun k y h ih => .step (same h) (hn _ (T.all _ _ h)) ih)
    · exact T.path b hb (fun k => own_Find (own_set g k' j) num (num b) (some b) k) (fun _ _ h => nomatch h) (fun k y h1 h2 h3 => .hit (same h1) h2 h3) (fun k y h1 h2 ih => .step (same h1) h2 ih)
  · intro k b h
    by_cases q : k = k'
    · simp [q]
    · simp [own_set, q] at h; exact List.mem_cons_of_mem _ (T.fil k b h)
theorem own_T.free (T : own_T g num H js ks) (hl : ks.length ≤ 3) {k : Nat} (hk : k < 16) : ∃ k', own_Free g k' k := by
  obtain ⟨p, q, r, h⟩ : ∃ p q r, ∀ y ∈ ks, y = p ∨ y = q ∨ y = r := by
    match ks, hl with
    | [], _ => exact ⟨0, 0, 0, nofun⟩
    | [a], _ => exact ⟨a, a, a, by simp⟩
    | [a, b], _ => exact ⟨a, b, b, by simp⟩
    | [a, b, c], _ => exact ⟨a, b, c, by simp⟩
  have F : ∀ d, (∃ k', own_Free g k' k) ∨ ((k + d) % 16 = p ∨ (k + d) % 16 = q ∨ (k + d) % 16 = r) := by
    intro d
    cases e : g ((k + d) % 16) with
    | none => exact Or.inl (own_Free.of d k e hk)
    | some b => exact Or.inr (h _ (T.fil _ _ e))
  rcases F 0 with h | h0
  · exact h
  rcases F 1 with h | h1
  · exact h
  rcases F 2 with h | h2
  · exact h
  rcases F 3 with h | h3
  · exact h
  omega
theorem own_T.miss (T : own_T g num H js ks) (hl : ks.length ≤ 3) {x : Int64} (hk : H x < 16) (hn : ∀ b ∈ js, ¬ num b = x) : own_Find g num x none (H x) := by
  obtain ⟨k', F⟩ := T.free hl hk
  exact F (fun k => own_Find g num x none k) (fun h => .miss h rfl) (fun k b h ih => .step h (hn _ (T.all _ _ h)) ih)
end OwnT
theorem own_str {Z : State} {a0 : Array Value} (hw : ∀ d ∈ tables_1, d.before a0 Z = true) : ∀ d ∈ Bundle.stringAtoms, d.before a0 Z = true := by
  intro d hd
  simp only [Bundle.stringAtoms, List.mem_cons, List.not_mem_nil, or_false] at hd
  rcases hd with rfl | rfl | rfl | rfl | rfl | rfl | rfl
  · first | exact (hw _ (List.mem_of_getElem? (i := 2) rfl)) | exact (hw _ (List.mem_of_getElem? (i := 3) rfl)) | exact (hw _ (List.mem_of_getElem? (i := 0) rfl)) | exact (hw _ (List.mem_of_getElem? (i := 4) rfl)) | exact (hw _ (List.mem_of_getElem? (i := 5) rfl)) | exact (hw _ (List.mem_of_getElem? (i := 6) rfl)) | exact (hw _ (List.mem_of_getElem? (i := 7) rfl))
  · first | exact (hw _ (List.mem_of_getElem? (i := 2) rfl)) | exact (hw _ (List.mem_of_getElem? (i := 3) rfl)) | exact (hw _ (List.mem_of_getElem? (i := 0) rfl)) | exact (hw _ (List.mem_of_getElem? (i := 4) rfl)) | exact (hw _ (List.mem_of_getElem? (i := 5) rfl)) | exact (hw _ (List.mem_of_getElem? (i := 6) rfl)) | exact (hw _ (List.mem_of_getElem? (i := 7) rfl))
  · first | exact (hw _ (List.mem_of_getElem? (i := 2) rfl)) | exact (hw _ (List.mem_of_getElem? (i := 3) rfl)) | exact (hw _ (List.mem_of_getElem? (i := 0) rfl)) | exact (hw _ (List.mem_of_getElem? (i := 4) rfl)) | exact (hw _ (List.mem_of_getElem? (i := 5) rfl)) | exact (hw _ (List.mem_of_getElem? (i := 6) rfl)) | exact (hw _ (List.mem_of_getElem? (i := 7) rfl))
  · first | exact (hw _ (List.mem_of_getElem? (i := 2) rfl)) | exact (hw _ (List.mem_of_getElem? (i := 3) rfl)) | exact (hw _ (List.mem_of_getElem? (i := 0) rfl)) | exact (hw _ (List.mem_of_getElem? (i := 4) rfl)) | exact (hw _ (List.mem_of_getElem? (i := 5) rfl)) | exact (hw _ (List.mem_of_getElem? (i := 6) rfl)) | exact (hw _ (List.mem_of_getElem? (i := 7) rfl))
  · first | exact (hw _ (List.mem_of_getElem? (i := 2) rfl)) | exact (hw _ (List.mem_of_getElem? (i := 3) rfl)) | exact (hw _ (List.mem_of_getElem? (i := 0) rfl)) | exact (hw _ (List.mem_of_getElem? (i := 4) rfl)) | exact (hw _ (List.mem_of_getElem? (i := 5) rfl)) | exact (hw _ (List.mem_of_getElem? (i := 6) rfl)) | exact (hw _ (List.mem_of_getElem? (i := 7) rfl))
  · first | exact (hw _ (List.mem_of_getElem? (i := 2) rfl)) | exact (hw _ (List.mem_of_getElem? (i := 3) rfl)) | exact (hw _ (List.mem_of_getElem? (i := 0) rfl)) | exact (hw _ (List.mem_of_getElem? (i := 4) rfl)) | exact (hw _ (List.mem_of_getElem? (i := 5) rfl)) | exact (hw _ (List.mem_of_getElem? (i := 6) rfl)) | exact (hw _ (List.mem_of_getElem? (i := 7) rfl))
  · first | exact (hw _ (List.mem_of_getElem? (i := 2) rfl)) | exact (hw _ (List.mem_of_getElem? (i := 3) rfl)) | exact (hw _ (List.mem_of_getElem? (i := 0) rfl)) | exact (hw _ (List.mem_of_getElem? (i := 4) rfl)) | exact (hw _ (List.mem_of_getElem? (i := 5) rfl)) | exact (hw _ (List.mem_of_getElem? (i := 6) rfl)) | exact (hw _ (List.mem_of_getElem? (i := 7) rfl))
def own_H (x : Int64) : Nat := (own_home x).toNatClampNeg
theorem own_H_lt (x : Int64) : own_H x < 16 := (own_small _ (own_home_in x)).1
theorem own_at_no {g : Nat → Option Addr} {i : Int32} {k : Nat} (hi : 0 ≤ i.toInt ∧ i.toInt < 16) (hk : i.toNatClampNeg = k) (hg : g k = none) : (own_tab g).getD i.toNatClampNeg .null = .null := by
  rw [own_tab_at g (own_small i hi).1, hk, hg]; rfl
theorem own_at_so {g : Nat → Option Addr} {i : Int32} {k : Nat} {b : Addr} (hi : 0 ≤ i.toInt ∧ i.toInt < 16) (hk : i.toNatClampNeg = k) (hg : g k = some b) : (own_tab g).getD i.toNatClampNeg .null = .ref b := by
  rw [own_tab_at g (own_small i hi).1, hk, hg]; rfl
theorem own_cnt (x : Int32) : (x &&& (3 : Int32)) = (0 : Int32) ∨ (x &&& (3 : Int32)) = (1 : Int32) ∨ (x &&& (3 : Int32)) = (2 : Int32) ∨ (x &&& (3 : Int32)) = (3 : Int32) := by
  obtain ⟨h1, h2⟩ := c_and x 3 (by decide)
  have e : (3 : Int32).toInt = 3 := by decide
  have q : (x &&& (3 : Int32)).toInt = 0 ∨ (x &&& (3 : Int32)).toInt = 1 ∨ (x &&& (3 : Int32)).toInt = 2 ∨ (x &&& (3 : Int32)).toInt = 3 := by omega
  rcases q with q | q | q | q
  · exact Or.inl (Int32.toInt_inj.mp (q.trans (by decide)))
  · exact Or.inr (Or.inl (Int32.toInt_inj.mp (q.trans (by decide))))
  · exact Or.inr (Or.inr (Or.inl (Int32.toInt_inj.mp (q.trans (by decide)))))
  · exact Or.inr (Or.inr (Or.inr ((Int32.toInt_inj.mp (q.trans (by decide))))))
def Q_rm_ntz (Z : State)  (h0 : Heap) (n0 : Nat) (v : Option Value) (h : Heap) (L : List Loc) : Prop := v = some (.int (4 : Int32)) ∧ Fr n0 L ∧ h = h0
set_option maxRecDepth 65536 in
set_option maxHeartbeats 40000000 in
theorem rm_ntz (l : Launch) (Z : State) (a0 : Array Value) (hw : ∀ d ∈ tables_1, d.before a0 Z = true) (ws : List Jvm.Cond)  (h0 : Heap) (n0 : Nat)  :
    MetFree l (⟨"java/lang/Integer", "numberOfTrailingZeros", "(I)I"⟩ : MethodName) (head1 (Jvm.Cond.code (⟨"java/lang/Integer", "numberOfTrailingZeros", "(I)I"⟩ : MethodName) jdk_33_method_48_code 2 (some .int) :: ws) ({ frames := 0, cells := 0, slots := 0, locals := 0 } : Room)) (fun ar U => ar = #[(.int (16 : Int32))] ∧ Z.Warmed39 U.vm ∧ U.heap = h0) (fun _ _ _ _ _ => True) (fun _ U o U' => ∃ v L, o = .returned v ∧ Q_rm_ntz Z  h0 n0 v U'.heap L ∧ FrameEnd U o U' L ({ frames := 0, cells := 0, slots := 0, locals := 0 } : Room).cells ({ frames := 0, cells := 0, slots := 0, locals := 0 } : Room).slots) := by
  refine own_enter (Q := (Q_rm_ntz Z  h0 n0)) pl_8 ?_
  intro p e s m below meth c s₁ X0 hx hZ hby hml hown hnm hret hlk e0 hnamed
  have N0 := Fr.nil n0
  refine own_by (fun tz kz => castTop (g' := (mkF m 0 #[.val (.int (16 : Int32)), .unset] [])) (by first | (simp [entryFrame, mkF, argsToLocals, Value.category]; done) | rfl) kz) ?_
  show own_Go p e below s _ _ (s₁.setTop (mkF m 0 #[.val (.int (16 : Int32)), .unset] []))
  refine own_by (fun tz kz => XS.iloadN X0.here hx rfl (hb hby d8_0) rfl  kz) ?_
  show own_Go p e below s _ _ (s₁.setTop (mkF m 1 #[.val (.int (16 : Int32)), .unset] [(.int (16 : Int32))]))
  refine own_by (fun tz kz => XS.iconst X0.here hx rfl (hb hby d8_1) kz) ?_
  show own_Go p e below s _ _ (s₁.setTop (mkF m 2 #[.val (.int (16 : Int32)), .unset] [(.int (-1 : Int32)), (.int (16 : Int32))]))
  refine own_by (fun tz kz => XS.ixor X0.here hx rfl (hb hby d8_2) rfl kz) ?_
  show own_Go p e below s _ _ (s₁.setTop (mkF m 3 #[.val (.int (16 : Int32)), .unset] [(.int ((16 : Int32) ^^^ (-1 : Int32)))]))
  refine own_by (fun tz kz => XS.iloadN X0.here hx rfl (hb hby d8_3) rfl  kz) ?_
  show own_Go p e below s _ _ (s₁.setTop (mkF m 4 #[.val (.int (16 : Int32)), .unset] [(.int (16 : Int32)), (.int ((16 : Int32) ^^^ (-1 : Int32)))]))
  refine own_by (fun tz kz => XS.iconst X0.here hx rfl (hb hby d8_4) kz) ?_
  show own_Go p e below s _ _ (s₁.setTop (mkF m 5 #[.val (.int (16 : Int32)), .unset] [(.int (1 : Int32)), (.int (16 : Int32)), (.int ((16 : Int32) ^^^ (-1 : Int32)))]))
  refine own_by (fun tz kz => XS.isub X0.here hx rfl (hb hby d8_5) rfl kz) ?_
  show own_Go p e below s _ _ (s₁.setTop (mkF m 6 #[.val (.int (16 : Int32)), .unset] [(.int ((16 : Int32) - (1 : Int32))), (.int ((16 : Int32) ^^^ (-1 : Int32)))]))
  refine own_by (fun tz kz => XS.iand X0.here hx rfl (hb hby d8_6) rfl kz) ?_
  show own_Go p e below s _ _ (s₁.setTop (mkF m 7 #[.val (.int (16 : Int32)), .unset] [(.int (((16 : Int32) ^^^ (-1 : Int32)) &&& ((16 : Int32) - (1 : Int32))))]))
  refine own_by (fun tz kz => XS.istoreN X0.here hx rfl (hb hby d8_7) rfl (l' := #[.val (.int (((16 : Int32) ^^^ (-1 : Int32)) &&& ((16 : Int32) - (1 : Int32)))), .unset]) rfl kz) ?_
  show own_Go p e below s _ _ (s₁.setTop (mkF m 8 #[.val (.int (((16 : Int32) ^^^ (-1 : Int32)) &&& ((16 : Int32) - (1 : Int32)))), .unset] []))
  refine own_by (fun tz kz => XS.iloadN X0.here hx rfl (hb hby d8_8) rfl  kz) ?_
  show own_Go p e below s _ _ (s₁.setTop (mkF m 9 #[.val (.int (((16 : Int32) ^^^ (-1 : Int32)) &&& ((16 : Int32) - (1 : Int32)))), .unset] [(.int (((16 : Int32) ^^^ (-1 : Int32)) &&& ((16 : Int32) - (1 : Int32))))]))
  refine own_by (fun tz kz => XS.ifYes X0.here hx rfl (pc0 := 9) (pc' := 17) rfl (hb hby d8_9) rfl ((if0 _ _).trans (tlt (by decide : (0 : Int32) < (((16 : Int32) ^^^ (-1 : Int32)) &&& ((16 : Int32) - (1 : Int32))))).2.2.1) (by decide) (by decide) kz) ?_
  show own_Go p e below s _ _ (s₁.setTop (mkF m 17 #[.val (.int (((16 : Int32) ^^^ (-1 : Int32)) &&& ((16 : Int32) - (1 : Int32)))), .unset] []))
  refine own_by (fun tz kz => XS.iconst X0.here hx rfl (hb hby d8_17) kz) ?_
  show own_Go p e below s _ _ (s₁.setTop (mkF m 18 #[.val (.int (((16 : Int32) ^^^ (-1 : Int32)) &&& ((16 : Int32) - (1 : Int32)))), .unset] [(.int (1 : Int32))]))
  refine own_by (fun tz kz => XS.istoreN X0.here hx rfl (hb hby d8_18) rfl (l' := #[.val (.int (((16 : Int32) ^^^ (-1 : Int32)) &&& ((16 : Int32) - (1 : Int32)))), .val (.int (1 : Int32))]) rfl kz) ?_
  show own_Go p e below s _ _ (s₁.setTop (mkF m 19 #[.val (.int (((16 : Int32) ^^^ (-1 : Int32)) &&& ((16 : Int32) - (1 : Int32)))), .val (.int (1 : Int32))] []))
  refine own_by (fun tz kz => XS.iloadN X0.here hx rfl (hb hby d8_19) rfl  kz) ?_
  show own_Go p e below s _ _ (s₁.setTop (mkF m 20 #[.val (.int (((16 : Int32) ^^^ (-1 : Int32)) &&& ((16 : Int32) - (1 : Int32)))), .val (.int (1 : Int32))] [(.int (((16 : Int32) ^^^ (-1 : Int32)) &&& ((16 : Int32) - (1 : Int32))))]))
  refine own_by (fun tz kz => X0.ldcwInt hx hown (mvT hZ (hw _ (List.mem_of_getElem? (i := 78) rfl))) (g := (mkF m 20 #[.val (.int (((16 : Int32) ^^^ (-1 : Int32)) &&& ((16 : Int32) - (1 : Int32)))), .val (.int (1 : Int32))] [(.int (((16 : Int32) ^^^ (-1 : Int32)) &&& ((16 : Int32) - (1 : Int32))))])) rfl (hb hby d8_20) _ kz) ?_
  show own_Go p e below s _ _ (s₁.setTop (mkF m 23 #[.val (.int (((16 : Int32) ^^^ (-1 : Int32)) &&& ((16 : Int32) - (1 : Int32)))), .val (.int (1 : Int32))] [(.int (65536 : Int32)), (.int (((16 : Int32) ^^^ (-1 : Int32)) &&& ((16 : Int32) - (1 : Int32))))]))
  refine own_by (fun tz kz => XS.icmpYes X0.here hx rfl (pc0 := 23) (pc' := 34) rfl (hb hby d8_23) rfl (flt (by decide : ¬ (65536 : Int32) < (((16 : Int32) ^^^ (-1 : Int32)) &&& ((16 : Int32) - (1 : Int32))))).2.2.2 (by decide) (by decide) kz) ?_
  show own_Go p e below s _ _ (s₁.setTop (mkF m 34 #[.val (.int (((16 : Int32) ^^^ (-1 : Int32)) &&& ((16 : Int32) - (1 : Int32)))), .val (.int (1 : Int32))] []))
  refine own_by (fun tz kz => XS.iloadN X0.here hx rfl (hb hby d8_34) rfl  kz) ?_
  show own_Go p e below s _ _ (s₁.setTop (mkF m 35 #[.val (.int (((16 : Int32) ^^^ (-1 : Int32)) &&& ((16 : Int32) - (1 : Int32)))), .val (.int (1 : Int32))] [(.int (((16 : Int32) ^^^ (-1 : Int32)) &&& ((16 : Int32) - (1 : Int32))))]))
  refine own_by (fun tz kz => XS.sipush X0.here hx rfl (hb hby d8_35) kz) ?_
  show own_Go p e below s _ _ (s₁.setTop (mkF m 38 #[.val (.int (((16 : Int32) ^^^ (-1 : Int32)) &&& ((16 : Int32) - (1 : Int32)))), .val (.int (1 : Int32))] [(.int (256 : Int32)), (.int (((16 : Int32) ^^^ (-1 : Int32)) &&& ((16 : Int32) - (1 : Int32))))]))
  refine own_by (fun tz kz => XS.icmpYes X0.here hx rfl (pc0 := 38) (pc' := 49) rfl (hb hby d8_38) rfl (flt (by decide : ¬ (256 : Int32) < (((16 : Int32) ^^^ (-1 : Int32)) &&& ((16 : Int32) - (1 : Int32))))).2.2.2 (by decide) (by decide) kz) ?_
  show own_Go p e below s _ _ (s₁.setTop (mkF m 49 #[.val (.int (((16 : Int32) ^^^ (-1 : Int32)) &&& ((16 : Int32) - (1 : Int32)))), .val (.int (1 : Int32))] []))
  refine own_by (fun tz kz => XS.iloadN X0.here hx rfl (hb hby d8_49) rfl  kz) ?_
  show own_Go p e below s _ _ (s₁.setTop (mkF m 50 #[.val (.int (((16 : Int32) ^^^ (-1 : Int32)) &&& ((16 : Int32) - (1 : Int32)))), .val (.int (1 : Int32))] [(.int (((16 : Int32) ^^^ (-1 : Int32)) &&& ((16 : Int32) - (1 : Int32))))]))
  refine own_by (fun tz kz => XS.bipush X0.here hx rfl (hb hby d8_50) kz) ?_
  show own_Go p e below s _ _ (s₁.setTop (mkF m 52 #[.val (.int (((16 : Int32) ^^^ (-1 : Int32)) &&& ((16 : Int32) - (1 : Int32)))), .val (.int (1 : Int32))] [(.int (16 : Int32)), (.int (((16 : Int32) ^^^ (-1 : Int32)) &&& ((16 : Int32) - (1 : Int32))))]))
  refine own_by (fun tz kz => XS.icmpYes X0.here hx rfl (pc0 := 52) (pc' := 62) rfl (hb hby d8_52) rfl (flt (by decide : ¬ (16 : Int32) < (((16 : Int32) ^^^ (-1 : Int32)) &&& ((16 : Int32) - (1 : Int32))))).2.2.2 (by decide) (by decide) kz) ?_
  show own_Go p e below s _ _ (s₁.setTop (mkF m 62 #[.val (.int (((16 : Int32) ^^^ (-1 : Int32)) &&& ((16 : Int32) - (1 : Int32)))), .val (.int (1 : Int32))] []))
  refine own_by (fun tz kz => XS.iloadN X0.here hx rfl (hb hby d8_62) rfl  kz) ?_
  show own_Go p e below s _ _ (s₁.setTop (mkF m 63 #[.val (.int (((16 : Int32) ^^^ (-1 : Int32)) &&& ((16 : Int32) - (1 : Int32)))), .val (.int (1 : Int32))] [(.int (((16 : Int32) ^^^ (-1 : Int32)) &&& ((16 : Int32) - (1 : Int32))))]))
  refine own_by (fun tz kz => XS.iconst X0.here hx rfl (hb hby d8_63) kz) ?_
  show own_Go p e below s _ _ (s₁.setTop (mkF m 64 #[.val (.int (((16 : Int32) ^^^ (-1 : Int32)) &&& ((16 : Int32) - (1 : Int32)))), .val (.int (1 : Int32))] [(.int (4 : Int32)), (.int (((16 : Int32) ^^^ (-1 : Int32)) &&& ((16 : Int32) - (1 : Int32))))]))
  refine own_by (fun tz kz => XS.icmpNo X0.here hx rfl (hb hby d8_64) rfl (tlt (by decide : (4 : Int32) < (((16 : Int32) ^^^ (-1 : Int32)) &&& ((16 : Int32) - (1 : Int32))))).2.2.2 kz) ?_
  show own_Go p e below s _ _ (s₁.setTop (mkF m 67 #[.val (.int (((16 : Int32) ^^^ (-1 : Int32)) &&& ((16 : Int32) - (1 : Int32)))), .val (.int (1 : Int32))] []))
  refine own_by (fun tz kz => XS.iinc X0.here hx rfl (hb hby d8_67) rfl (l' := #[.val (.int (((16 : Int32) ^^^ (-1 : Int32)) &&& ((16 : Int32) - (1 : Int32)))), .val (.int ((1 : Int32) + (2 : Int32)))]) rfl kz) ?_
  show own_Go p e below s _ _ (s₁.setTop (mkF m 70 #[.val (.int (((16 : Int32) ^^^ (-1 : Int32)) &&& ((16 : Int32) - (1 : Int32)))), .val (.int ((1 : Int32) + (2 : Int32)))] []))
  refine own_by (fun tz kz => XS.iloadN X0.here hx rfl (hb hby d8_70) rfl  kz) ?_
  show own_Go p e below s _ _ (s₁.setTop (mkF m 71 #[.val (.int (((16 : Int32) ^^^ (-1 : Int32)) &&& ((16 : Int32) - (1 : Int32)))), .val (.int ((1 : Int32) + (2 : Int32)))] [(.int (((16 : Int32) ^^^ (-1 : Int32)) &&& ((16 : Int32) - (1 : Int32))))]))
  refine own_by (fun tz kz => XS.iconst X0.here hx rfl (hb hby d8_71) kz) ?_
  show own_Go p e below s _ _ (s₁.setTop (mkF m 72 #[.val (.int (((16 : Int32) ^^^ (-1 : Int32)) &&& ((16 : Int32) - (1 : Int32)))), .val (.int ((1 : Int32) + (2 : Int32)))] [(.int (2 : Int32)), (.int (((16 : Int32) ^^^ (-1 : Int32)) &&& ((16 : Int32) - (1 : Int32))))]))
  refine own_by (fun tz kz => XS.iushr X0.here hx rfl (hb hby d8_72) rfl kz) ?_
  show own_Go p e below s _ _ (s₁.setTop (mkF m 73 #[.val (.int (((16 : Int32) ^^^ (-1 : Int32)) &&& ((16 : Int32) - (1 : Int32)))), .val (.int ((1 : Int32) + (2 : Int32)))] [(.int (((((16 : Int32) ^^^ (-1 : Int32)) &&& ((16 : Int32) - (1 : Int32))).toUInt32 >>> ((2 : Int32) &&& 31).toUInt32).toInt32))]))
  refine own_by (fun tz kz => XS.istoreN X0.here hx rfl (hb hby d8_73) rfl (l' := #[.val (.int (((((16 : Int32) ^^^ (-1 : Int32)) &&& ((16 : Int32) - (1 : Int32))).toUInt32 >>> ((2 : Int32) &&& 31).toUInt32).toInt32)), .val (.int ((1 : Int32) + (2 : Int32)))]) rfl kz) ?_
  show own_Go p e below s _ _ (s₁.setTop (mkF m 74 #[.val (.int (((((16 : Int32) ^^^ (-1 : Int32)) &&& ((16 : Int32) - (1 : Int32))).toUInt32 >>> ((2 : Int32) &&& 31).toUInt32).toInt32)), .val (.int ((1 : Int32) + (2 : Int32)))] []))
  refine own_by (fun tz kz => XS.iloadN X0.here hx rfl (hb hby d8_74) rfl  kz) ?_
  show own_Go p e below s _ _ (s₁.setTop (mkF m 75 #[.val (.int (((((16 : Int32) ^^^ (-1 : Int32)) &&& ((16 : Int32) - (1 : Int32))).toUInt32 >>> ((2 : Int32) &&& 31).toUInt32).toInt32)), .val (.int ((1 : Int32) + (2 : Int32)))] [(.int ((1 : Int32) + (2 : Int32)))]))
  refine own_by (fun tz kz => XS.iloadN X0.here hx rfl (hb hby d8_75) rfl  kz) ?_
  show own_Go p e below s _ _ (s₁.setTop (mkF m 76 #[.val (.int (((((16 : Int32) ^^^ (-1 : Int32)) &&& ((16 : Int32) - (1 : Int32))).toUInt32 >>> ((2 : Int32) &&& 31).toUInt32).toInt32)), .val (.int ((1 : Int32) + (2 : Int32)))] [(.int (((((16 : Int32) ^^^ (-1 : Int32)) &&& ((16 : Int32) - (1 : Int32))).toUInt32 >>> ((2 : Int32) &&& 31).toUInt32).toInt32)), (.int ((1 : Int32) + (2 : Int32)))]))
  refine own_by (fun tz kz => XS.iconst X0.here hx rfl (hb hby d8_76) kz) ?_
  show own_Go p e below s _ _ (s₁.setTop (mkF m 77 #[.val (.int (((((16 : Int32) ^^^ (-1 : Int32)) &&& ((16 : Int32) - (1 : Int32))).toUInt32 >>> ((2 : Int32) &&& 31).toUInt32).toInt32)), .val (.int ((1 : Int32) + (2 : Int32)))] [(.int (1 : Int32)), (.int (((((16 : Int32) ^^^ (-1 : Int32)) &&& ((16 : Int32) - (1 : Int32))).toUInt32 >>> ((2 : Int32) &&& 31).toUInt32).toInt32)), (.int ((1 : Int32) + (2 : Int32)))]))
  refine own_by (fun tz kz => XS.iushr X0.here hx rfl (hb hby d8_77) rfl kz) ?_
  show own_Go p e below s _ _ (s₁.setTop (mkF m 78 #[.val (.int (((((16 : Int32) ^^^ (-1 : Int32)) &&& ((16 : Int32) - (1 : Int32))).toUInt32 >>> ((2 : Int32) &&& 31).toUInt32).toInt32)), .val (.int ((1 : Int32) + (2 : Int32)))] [(.int (((((((16 : Int32) ^^^ (-1 : Int32)) &&& ((16 : Int32) - (1 : Int32))).toUInt32 >>> ((2 : Int32) &&& 31).toUInt32).toInt32).toUInt32 >>> ((1 : Int32) &&& 31).toUInt32).toInt32)), (.int ((1 : Int32) + (2 : Int32)))]))
  refine own_by (fun tz kz => XS.iadd X0.here hx rfl (hb hby d8_78) rfl kz) ?_
  show own_Go p e below s _ _ (s₁.setTop (mkF m 79 #[.val (.int (((((16 : Int32) ^^^ (-1 : Int32)) &&& ((16 : Int32) - (1 : Int32))).toUInt32 >>> ((2 : Int32) &&& 31).toUInt32).toInt32)), .val (.int ((1 : Int32) + (2 : Int32)))] [(.int (((1 : Int32) + (2 : Int32)) + (((((((16 : Int32) ^^^ (-1 : Int32)) &&& ((16 : Int32) - (1 : Int32))).toUInt32 >>> ((2 : Int32) &&& 31).toUInt32).toInt32).toUInt32 >>> ((1 : Int32) &&& 31).toUInt32).toInt32)))]))
  refine own_retI X0 hx hlk (t := .int) hret (by simp) rfl (hb hby d8_79) ?_ (by decide) (by decide)
  exact ⟨congrArg (fun i => some (Value.int i)) (by decide), N0, e0⟩
def Q_rm_home (Z : State) (nu : Int64) (h0 : Heap) (n0 : Nat) (v : Option Value) (h : Heap) (L : List Loc) : Prop := v = some (.int (own_home nu)) ∧ Fr n0 L ∧ h = h0
set_option maxRecDepth 65536 in
set_option maxHeartbeats 40000000 in
theorem rm_home (l : Launch) (Z : State) (a0 : Array Value) (hw : ∀ d ∈ tables_1, d.before a0 Z = true) (ws : List Jvm.Cond) (nu : Int64) (h0 : Heap) (n0 : Nat)  :
    MetFree l (⟨"com/example/ajenda/ajenda/core/JobsByNumber", "home", "(JI)I"⟩ : MethodName) (head1 (Jvm.Cond.code (⟨"com/example/ajenda/ajenda/core/JobsByNumber", "home", "(JI)I"⟩ : MethodName) prog_11_method_9_code 3 (some .int) :: ws) ({ frames := 1, cells := 0, slots := 0, locals := 16 } : Room)) (fun ar U => ar = #[(.long nu), (.int (16 : Int32))] ∧ Z.Warmed39 U.vm ∧ U.heap = h0) (fun _ _ _ _ _ => True) (fun _ U o U' => ∃ v L, o = .returned v ∧ Q_rm_home Z nu h0 n0 v U'.heap L ∧ FrameEnd U o U' L ({ frames := 1, cells := 0, slots := 0, locals := 16 } : Room).cells ({ frames := 1, cells := 0, slots := 0, locals := 16 } : Room).slots) := by
  refine own_enter (Q := (Q_rm_home Z nu h0 n0)) pl_7 ?_
  intro p e s m below meth c s₁ X0 hx hZ hby hml hown hnm hret hlk e0 hnamed
  have N0 := Fr.nil n0
  refine own_by (fun tz kz => castTop (g' := (mkF m 0 #[.val (.long nu), .second, .val (.int (16 : Int32))] [])) (by first | (simp [entryFrame, mkF, argsToLocals, Value.category]; done) | rfl) kz) ?_
  show own_Go p e below s _ _ (s₁.setTop (mkF m 0 #[.val (.long nu), .second, .val (.int (16 : Int32))] []))
  refine own_by (fun tz kz => XS.lloadN X0.here hx rfl (hb hby d7_0) rfl kz) ?_
  show own_Go p e below s _ _ (s₁.setTop (mkF m 1 #[.val (.long nu), .second, .val (.int (16 : Int32))] [(.long nu)]))
  refine own_by (fun tz kz => X0.ldc2Long hx hown (mvT hZ (hw _ (List.mem_of_getElem? (i := 73) rfl))) (g := (mkF m 1 #[.val (.long nu), .second, .val (.int (16 : Int32))] [(.long nu)])) rfl (hb hby d7_1) _ kz) ?_
  show own_Go p e below s _ _ (s₁.setTop (mkF m 4 #[.val (.long nu), .second, .val (.int (16 : Int32))] [(.long (-7046029254386353131 : Int64)), (.long nu)]))
  refine own_by (fun tz kz => XS.lmul X0.here hx rfl (hb hby d7_4) rfl kz) ?_
  show own_Go p e below s _ _ (s₁.setTop (mkF m 5 #[.val (.long nu), .second, .val (.int (16 : Int32))] [(.long (nu * (-7046029254386353131 : Int64)))]))
  refine own_by (fun tz kz => XS.bipush X0.here hx rfl (hb hby d7_5) kz) ?_
  show own_Go p e below s _ _ (s₁.setTop (mkF m 7 #[.val (.long nu), .second, .val (.int (16 : Int32))] [(.int (64 : Int32)), (.long (nu * (-7046029254386353131 : Int64)))]))
  refine own_by (fun tz kz => XS.iloadN X0.here hx rfl (hb hby d7_7) rfl  kz) ?_
  show own_Go p e below s _ _ (s₁.setTop (mkF m 8 #[.val (.long nu), .second, .val (.int (16 : Int32))] [(.int (16 : Int32)), (.int (64 : Int32)), (.long (nu * (-7046029254386353131 : Int64)))]))
  obtain ⟨_, _, ⟨T1, L1, k1, n1⟩, -, X1, ⟨Lc1, hQ1, l1, y1, z1⟩, st1⟩ := Jvm.LawKit.callS X0 hx (y := (⟨"java/lang/Integer", "numberOfTrailingZeros", "(I)I"⟩ : MethodName)) hown (mvT hZ (hw _ (List.mem_of_getElem? (i := 74) rfl))) (mvT hZ (hw _ (List.mem_of_getElem? (i := 75) rfl))) (mvT hZ (hw _ (List.mem_of_getElem? (i := 76) rfl))) (mvT hZ (hw _ (List.mem_of_getElem? (i := 77) rfl))) (by decide) (backOf (W := 3) (rm_ntz l Z a0 hw [] h0 n0) hZ (hw _ (List.mem_of_getElem? (i := 77) rfl)) (hw _ (List.mem_of_getElem? (i := 76) rfl)) (by decide) (by decide)) (g := (mkF m 8 #[.val (.long nu), .second, .val (.int (16 : Int32))] [(.int (16 : Int32)), (.int (64 : Int32)), (.long (nu * (-7046029254386353131 : Int64)))])) rfl (by rw [hml]; rfl) (argsL := [(.int (16 : Int32))]) (rest := [(.int (64 : Int32)), (.long (nu * (-7046029254386353131 : Int64)))]) (lenOf pd_6 rfl) rfl (by show 2 * 0 + _ ≤ _; exact Nat.le_of_eq rfl) (hb hby d7_8) (fun _ _ => ⟨rfl, e0, (by decide : 0 + 0 ≤ _), (by decide : 0 + 0 ≤ _)⟩)
  dsimp only [Pt.U, Pt.locs, Pt.cells, Pt.slots] at X1 l1 y1 z1 st1 hQ1
  rw [l1, y1, z1] at X1
  obtain ⟨rfl, Nq1, e1⟩ := hQ1
  have N1 := Fr.app N0 Nq1
  refine own_by st1 ?_
  show own_Go p e below s _ _ (T1.setTop (mkF m 11 #[.val (.long nu), .second, .val (.int (16 : Int32))] [(.int (4 : Int32)), (.int (64 : Int32)), (.long (nu * (-7046029254386353131 : Int64)))]))
  refine own_by (fun tz kz => XS.isub X1.here hx rfl (hb hby d7_11) rfl kz) ?_
  show own_Go p e below s _ _ (T1.setTop (mkF m 12 #[.val (.long nu), .second, .val (.int (16 : Int32))] [(.int ((64 : Int32) - (4 : Int32))), (.long (nu * (-7046029254386353131 : Int64)))]))
  refine own_by (fun tz kz => XS.lushr X1.here hx rfl (hb hby d7_12) rfl kz) ?_
  show own_Go p e below s _ _ (T1.setTop (mkF m 13 #[.val (.long nu), .second, .val (.int (16 : Int32))] [(.long (((nu * (-7046029254386353131 : Int64)).toUInt64 >>> (((64 : Int32) - (4 : Int32)) &&& 0x3f).toInt64.toUInt64).toInt64))]))
  refine own_by (fun tz kz => XS.l2i X1.here hx rfl (hb hby d7_13) rfl kz) ?_
  show own_Go p e below s _ _ (T1.setTop (mkF m 14 #[.val (.long nu), .second, .val (.int (16 : Int32))] [(.int ((((nu * (-7046029254386353131 : Int64)).toUInt64 >>> (((64 : Int32) - (4 : Int32)) &&& 0x3f).toInt64.toUInt64).toInt64).toInt32))]))
  refine own_retI X1 hx hlk (t := .int) hret (by simp) rfl (hb hby d7_14) ?_ (by decide) (by decide)
  exact ⟨rfl, N1, e1⟩
def Q_rm_place (Z : State) (arr jo : Addr) (kk : ClassId) (g : Nat → Option Addr) (nu : Int64) (kf : Nat) (h0 : Heap) (n0 : Nat) (v : Option Value) (h : Heap) (L : List Loc) : Prop := v = none ∧ Fr n0 L ∧ Keep h0 h [arr] ∧ Arv Z h arr kk (.object "com/example/ajenda/ajenda/core/Job") (16 : Int32) (own_tab (own_set g kf jo)) .null
set_option maxRecDepth 65536 in
set_option maxHeartbeats 40000000 in
theorem rm_place (l : Launch) (Z : State) (a0 : Array Value) (hw : ∀ d ∈ tables_1, d.before a0 Z = true) (ws : List Jvm.Cond) (arr jo : Addr) (kk : ClassId) (g : Nat → Option Addr) (nu : Int64) (kf : Nat) (h0 : Heap) (n0 : Nat) (O0 : Old Z n0 h0) (V_a : Arv Z h0 arr kk (.object "com/example/ajenda/ajenda/core/Job") (16 : Int32) (own_tab g) .null) (V_o : Ovr Z kk "com/example/ajenda/ajenda/core/Job") (E_j : Exa Z h0 jo "com/example/ajenda/ajenda/core/Job") (F_j : Fld Z h0 jo "com/example/ajenda/ajenda/core/Job" "number" "J" (.long nu)) (hF : own_Free g kf (own_H nu)) (g_arr : n0 ≤ arr) :
    MetFree l (⟨"com/example/ajenda/ajenda/core/JobsByNumber", "place", "([Lcom/example/ajenda/ajenda/core/Job;Lcom/example/ajenda/ajenda/core/Job;)V"⟩ : MethodName) (head1 (Jvm.Cond.code (⟨"com/example/ajenda/ajenda/core/JobsByNumber", "place", "([Lcom/example/ajenda/ajenda/core/Job;Lcom/example/ajenda/ajenda/core/Job;)V"⟩ : MethodName) prog_11_method_8_code 3 none :: ws) ({ frames := 2, cells := 0, slots := 0, locals := 30 } : Room)) (fun ar U => ar = #[(.ref arr), (.ref jo)] ∧ Z.Warmed39 U.vm ∧ U.heap = h0) (fun _ _ _ _ _ => True) (fun _ U o U' => ∃ v L, o = .returned v ∧ Q_rm_place Z arr jo kk g nu kf h0 n0 v U'.heap L ∧ FrameEnd U o U' L ({ frames := 2, cells := 0, slots := 0, locals := 30 } : Room).cells ({ frames := 2, cells := 0, slots := 0, locals := 30 } : Room).slots) := by
  refine own_enter (Q := (Q_rm_place Z arr jo kk g nu kf h0 n0)) pl_6 ?_
  intro p e s m below meth c s₁ X0 hx hZ hby hml hown hnm hret hlk e0 hnamed
  have N0 := Fr.nil n0
  refine own_by (fun tz kz => castTop (g' := (mkF m 0 #[.val (.ref arr), .val (.ref jo), .unset] [])) (by first | (simp [entryFrame, mkF, argsToLocals, Value.category]; done) | rfl) kz) ?_
  have K0 := Keep.refl h0 [arr]
  have JP : ∀ k, own_Free g kf k → ∀ i : Int32, (0 ≤ i.toInt ∧ i.toInt < 16) → i.toNatClampNeg = k → ∀ (Tj : State) (Lj : List Loc), Stand p l e ({ frames := 2, cells := 0, slots := 0, locals := 30 } : Room) s m #[(.ref arr), (.ref jo)] below meth c Tj Lj 0 0 → Tj.heap = h0 → Fr n0 Lj → own_Go p e below s (Q_rm_place Z arr jo kk g nu kf h0 n0) ({ frames := 2, cells := 0, slots := 0, locals := 30 } : Room) (Tj.setTop (mkF m 10 #[.val (.ref arr), .val (.ref jo), .val (.int i)] [])) := by
    intro k hF
    refine hF (fun k => ∀ i : Int32, (0 ≤ i.toInt ∧ i.toInt < 16) → i.toNatClampNeg = k → ∀ (Tj : State) (Lj : List Loc), Stand p l e ({ frames := 2, cells := 0, slots := 0, locals := 30 } : Room) s m #[(.ref arr), (.ref jo)] below meth c Tj Lj 0 0 → Tj.heap = h0 → Fr n0 Lj → own_Go p e below s (Q_rm_place Z arr jo kk g nu kf h0 n0) ({ frames := 2, cells := 0, slots := 0, locals := 30 } : Room) (Tj.setTop (mkF m 10 #[.val (.ref arr), .val (.ref jo), .val (.int i)] []))) ?_ ?_
    · intro hg i hi hik Tj Lj Xj ej Nj
      show own_Go p e below s _ _ (Tj.setTop (mkF m 10 #[.val (.ref arr), .val (.ref jo), .val (.int i)] []))
      refine own_by (fun tz kz => XS.aloadN Xj.here hx rfl (hb hby d6_10) rfl rfl kz) ?_
      show own_Go p e below s _ _ (Tj.setTop (mkF m 11 #[.val (.ref arr), .val (.ref jo), .val (.int i)] [(.ref arr)]))
      refine own_by (fun tz kz => XS.iloadN Xj.here hx rfl (hb hby d6_11) rfl  kz) ?_
      show own_Go p e below s _ _ (Tj.setTop (mkF m 12 #[.val (.ref arr), .val (.ref jo), .val (.int i)] [(.int i), (.ref arr)]))
      obtain ⟨c1, Ar1, q1, S1, M1, Hh1, G1⟩ := id V_a
      have hin1 : ¬ (i < 0 ∨ c1.slots.size ≤ (i).toNatClampNeg) := inb_of S1 (own_idx i hi)
      have hat1 := Has.at Hh1 hin1 (v := .null) (own_at_no hi hik hg)
      refine own_by (fun tz kz => Xj.aaload hx (j := i) (v := .null) (by rw [ej]; exact Ar1.1) (State.isArrayOf_alike hZ.alike Ar1.2.1) rfl Ar1.2.2 hin1 hat1 (g := (mkF m 12 #[.val (.ref arr), .val (.ref jo), .val (.int i)] [(.int i), (.ref arr)])) rfl rfl (hb hby d6_12) _ kz) ?_
      show own_Go p e below s _ _ (Tj.setTop (mkF m 13 #[.val (.ref arr), .val (.ref jo), .val (.int i)] [.null]))
      refine own_by (fun tz kz => XS.ifnullYes Xj.here hx rfl (pc0 := 13) (pc' := 28) rfl (hb hby d6_13) rfl (by decide) (by decide) kz) ?_
      show own_Go p e below s _ _ (Tj.setTop (mkF m 28 #[.val (.ref arr), .val (.ref jo), .val (.int i)] []))
      refine own_by (fun tz kz => XS.aloadN Xj.here hx rfl (hb hby d6_28) rfl rfl kz) ?_
      show own_Go p e below s _ _ (Tj.setTop (mkF m 29 #[.val (.ref arr), .val (.ref jo), .val (.int i)] [(.ref arr)]))
      refine own_by (fun tz kz => XS.iloadN Xj.here hx rfl (hb hby d6_29) rfl  kz) ?_
      show own_Go p e below s _ _ (Tj.setTop (mkF m 30 #[.val (.ref arr), .val (.ref jo), .val (.int i)] [(.int i), (.ref arr)]))
      refine own_by (fun tz kz => XS.aloadN Xj.here hx rfl (hb hby d6_30) rfl rfl kz) ?_
      show own_Go p e below s _ _ (Tj.setTop (mkF m 31 #[.val (.ref arr), .val (.ref jo), .val (.int i)] [(.ref jo), (.int i), (.ref arr)]))
      obtain ⟨c2, Ar2, q2, S2, M2, Hh2, G2⟩ := id V_a
      have hin2 : ¬ (i < 0 ∨ c2.slots.size ≤ (i).toNatClampNeg) := inb_of S2 (own_idx i hi)
      obtain ⟨T2, h2, X2, e2, W2, st2⟩ := stR Xj hx hZ ej Ar2 (j := i) hin2 rfl (Sto.ofV Ar2 q2 V_o (Ins.self E_j)) (g := (mkF m 31 #[.val (.ref arr), .val (.ref jo), .val (.int i)] [(.ref jo), (.int i), (.ref arr)])) rfl rfl (hb hby d6_31)
      have V2 : Arv Z h2 arr kk (.object "com/example/ajenda/ajenda/core/Job") (16 : Int32) (own_tab (own_set g kf jo)) .null := by have q := Arv.set Ar2 q2 S2 M2 Hh2 G2 (v := (.ref jo)) rfl W2 kf hik (by rw [own_tab_len, ← hik]; exact (own_small i hi).1); rw [own_tab_set] at q; exact q
      have O2 := O0.wr W2 g_arr
      have N2 := Fr.snoc X2 Nj g_arr
      have K2 := K0.wr W2 (Or.inl (List.mem_of_getElem? (i := 0) rfl))
      refine own_by st2 ?_
      show own_Go p e below s _ _ (T2.setTop (mkF m 32 #[.val (.ref arr), .val (.ref jo), .val (.int i)] []))
      refine own_retV X2 hx hlk hret (hb hby d6_32) ?_ (by decide) (by decide)
      exact ⟨rfl, N2, by rw [e2]; exact K2, by rw [e2]; exact V2⟩
    · intro k b hg ih i hi hik Tj Lj Xj ej Nj
      show own_Go p e below s _ _ (Tj.setTop (mkF m 10 #[.val (.ref arr), .val (.ref jo), .val (.int i)] []))
      refine own_by (fun tz kz => XS.aloadN Xj.here hx rfl (hb hby d6_10) rfl rfl kz) ?_
      show own_Go p e below s _ _ (Tj.setTop (mkF m 11 #[.val (.ref arr), .val (.ref jo), .val (.int i)] [(.ref arr)]))
      refine own_by (fun tz kz => XS.iloadN Xj.here hx rfl (hb hby d6_11) rfl  kz) ?_
      show own_Go p e below s _ _ (Tj.setTop (mkF m 12 #[.val (.ref arr), .val (.ref jo), .val (.int i)] [(.int i), (.ref arr)]))
      obtain ⟨c3, Ar3, q3, S3, M3, Hh3, G3⟩ := id V_a
      have hin3 : ¬ (i < 0 ∨ c3.slots.size ≤ (i).toNatClampNeg) := inb_of S3 (own_idx i hi)
      have hat3 := Has.at Hh3 hin3 (v := (.ref b)) (own_at_so hi hik hg)
      refine own_by (fun tz kz => Xj.aaload hx (j := i) (v := (.ref b)) (by rw [ej]; exact Ar3.1) (State.isArrayOf_alike hZ.alike Ar3.2.1) rfl Ar3.2.2 hin3 hat3 (g := (mkF m 12 #[.val (.ref arr), .val (.ref jo), .val (.int i)] [(.int i), (.ref arr)])) rfl rfl (hb hby d6_12) _ kz) ?_
      show own_Go p e below s _ _ (Tj.setTop (mkF m 13 #[.val (.ref arr), .val (.ref jo), .val (.int i)] [(.ref b)]))
      refine own_by (fun tz kz => XS.ifnullNo Xj.here hx rfl (hb hby d6_13) rfl kz) ?_
      show own_Go p e below s _ _ (Tj.setTop (mkF m 16 #[.val (.ref arr), .val (.ref jo), .val (.int i)] []))
      refine own_by (fun tz kz => XS.iloadN Xj.here hx rfl (hb hby d6_16) rfl  kz) ?_
      show own_Go p e below s _ _ (Tj.setTop (mkF m 17 #[.val (.ref arr), .val (.ref jo), .val (.int i)] [(.int i)]))
      refine own_by (fun tz kz => XS.iconst Xj.here hx rfl (hb hby d6_17) kz) ?_
      show own_Go p e below s _ _ (Tj.setTop (mkF m 18 #[.val (.ref arr), .val (.ref jo), .val (.int i)] [(.int (1 : Int32)), (.int i)]))
      refine own_by (fun tz kz => XS.iadd Xj.here hx rfl (hb hby d6_18) rfl kz) ?_
      show own_Go p e below s _ _ (Tj.setTop (mkF m 19 #[.val (.ref arr), .val (.ref jo), .val (.int i)] [(.int (i + (1 : Int32)))]))
      refine own_by (fun tz kz => XS.aloadN Xj.here hx rfl (hb hby d6_19) rfl rfl kz) ?_
      show own_Go p e below s _ _ (Tj.setTop (mkF m 20 #[.val (.ref arr), .val (.ref jo), .val (.int i)] [(.ref arr), (.int (i + (1 : Int32)))]))
      obtain ⟨c4, Ar4, q4, S4, M4, Hh4, G4⟩ := id V_a
      refine own_by (fun tz kz => Xj.arraylength hx (by rw [ej]; exact Ar4.1) (State.isArrayOf_alike hZ.alike Ar4.2.1) (g := (mkF m 20 #[.val (.ref arr), .val (.ref jo), .val (.int i)] [(.ref arr), (.int (i + (1 : Int32)))])) rfl rfl (hb hby d6_20) _ kz) ?_
      rw [len_of S4 M4]
      show own_Go p e below s _ _ (Tj.setTop (mkF m 21 #[.val (.ref arr), .val (.ref jo), .val (.int i)] [(.int (16 : Int32)), (.int (i + (1 : Int32)))]))
      refine own_by (fun tz kz => XS.iconst Xj.here hx rfl (hb hby d6_21) kz) ?_
      show own_Go p e below s _ _ (Tj.setTop (mkF m 22 #[.val (.ref arr), .val (.ref jo), .val (.int i)] [(.int (1 : Int32)), (.int (16 : Int32)), (.int (i + (1 : Int32)))]))
      refine own_by (fun tz kz => XS.isub Xj.here hx rfl (hb hby d6_22) rfl kz) ?_
      show own_Go p e below s _ _ (Tj.setTop (mkF m 23 #[.val (.ref arr), .val (.ref jo), .val (.int i)] [(.int ((16 : Int32) - (1 : Int32))), (.int (i + (1 : Int32)))]))
      refine own_by (fun tz kz => XS.iand Xj.here hx rfl (hb hby d6_23) rfl kz) ?_
      show own_Go p e below s _ _ (Tj.setTop (mkF m 24 #[.val (.ref arr), .val (.ref jo), .val (.int i)] [(.int ((i + (1 : Int32)) &&& ((16 : Int32) - (1 : Int32))))]))
      refine own_by (fun tz kz => XS.istoreN Xj.here hx rfl (hb hby d6_24) rfl (l' := #[.val (.ref arr), .val (.ref jo), .val (.int ((i + (1 : Int32)) &&& ((16 : Int32) - (1 : Int32))))]) rfl kz) ?_
      show own_Go p e below s _ _ (Tj.setTop (mkF m 25 #[.val (.ref arr), .val (.ref jo), .val (.int ((i + (1 : Int32)) &&& ((16 : Int32) - (1 : Int32))))] []))
      refine own_by (fun tz kz => XS.goto Xj.here hx rfl (pc0 := 25) (pc' := 10) rfl (hb hby d6_25) (by decide) (by decide) kz) ?_
      exact ih _ (own_nx i hi).1 ((own_nx i hi).2.trans (by rw [hik])) _ _ Xj ej Nj
  show own_Go p e below s _ _ (s₁.setTop (mkF m 0 #[.val (.ref arr), .val (.ref jo), .unset] []))
  refine own_by (fun tz kz => XS.aloadN X0.here hx rfl (hb hby d6_0) rfl rfl kz) ?_
  show own_Go p e below s _ _ (s₁.setTop (mkF m 1 #[.val (.ref arr), .val (.ref jo), .unset] [(.ref jo)]))
  obtain ⟨T5, X5, e5, st5⟩ := getF X0 hx hZ hown (host := "") (Or.inl (hw _ (List.mem_of_getElem? (i := 69) rfl))) Via.refl e0 F_j (g := (mkF m 1 #[.val (.ref arr), .val (.ref jo), .unset] [(.ref jo)])) rfl rfl (hb hby d6_1)
  refine own_by st5 ?_
  show own_Go p e below s _ _ (T5.setTop (mkF m 4 #[.val (.ref arr), .val (.ref jo), .unset] [(.long nu)]))
  refine own_by (fun tz kz => XS.aloadN X5.here hx rfl (hb hby d6_4) rfl rfl kz) ?_
  show own_Go p e below s _ _ (T5.setTop (mkF m 5 #[.val (.ref arr), .val (.ref jo), .unset] [(.ref arr), (.long nu)]))
  obtain ⟨c6, Ar6, q6, S6, M6, Hh6, G6⟩ := id V_a
  refine own_by (fun tz kz => X5.arraylength hx (by rw [e5]; exact Ar6.1) (State.isArrayOf_alike hZ.alike Ar6.2.1) (g := (mkF m 5 #[.val (.ref arr), .val (.ref jo), .unset] [(.ref arr), (.long nu)])) rfl rfl (hb hby d6_5) _ kz) ?_
  rw [len_of S6 M6]
  show own_Go p e below s _ _ (T5.setTop (mkF m 6 #[.val (.ref arr), .val (.ref jo), .unset] [(.int (16 : Int32)), (.long nu)]))
  obtain ⟨_, _, ⟨T7, L7, k7, n7⟩, -, X7, ⟨Lc7, hQ7, l7, y7, z7⟩, st7⟩ := Jvm.LawKit.callS X5 hx (y := (⟨"com/example/ajenda/ajenda/core/JobsByNumber", "home", "(JI)I"⟩ : MethodName)) hown (mvT hZ (hw _ (List.mem_of_getElem? (i := 70) rfl))) (mvT hZ (hw _ (List.mem_of_getElem? (i := 71) rfl))) (mvT hZ (hw _ (List.mem_of_getElem? (i := 50) rfl))) (mvT hZ (hw _ (List.mem_of_getElem? (i := 72) rfl))) (by decide) (backOf (W := 0) (rm_home l Z a0 hw [] nu h0 n0) hZ (hw _ (List.mem_of_getElem? (i := 72) rfl)) (hw _ (List.mem_of_getElem? (i := 50) rfl)) (by decide) (by decide)) (g := (mkF m 6 #[.val (.ref arr), .val (.ref jo), .unset] [(.int (16 : Int32)), (.long nu)])) rfl (by rw [hml]; rfl) (argsL := [(.long nu), (.int (16 : Int32))]) (rest := []) (lenOf pd_5 rfl) rfl (by show 2 * 0 + _ ≤ _; exact Nat.le_of_eq rfl) (hb hby d6_6) (fun _ _ => ⟨rfl, e5, (by decide : 0 + 0 ≤ _), (by decide : 0 + 0 ≤ _)⟩)
  dsimp only [Pt.U, Pt.locs, Pt.cells, Pt.slots] at X7 l7 y7 z7 st7 hQ7
  rw [l7, y7, z7] at X7
  obtain ⟨rfl, Nq7, e7⟩ := hQ7
  have N7 := Fr.app N0 Nq7
  refine own_by st7 ?_
  show own_Go p e below s _ _ (T7.setTop (mkF m 9 #[.val (.ref arr), .val (.ref jo), .unset] [(.int (own_home nu))]))
  refine own_by (fun tz kz => XS.istoreN X7.here hx rfl (hb hby d6_9) rfl (l' := #[.val (.ref arr), .val (.ref jo), .val (.int (own_home nu))]) rfl kz) ?_
  exact JP _ hF _ (own_home_in nu) rfl _ _ X7 e7 N7
def Q_rm_add (Z : State) (t arr jo : Addr) (kk : ClassId) (g : Nat → Option Addr) (nu : Int64) (kf : Nat) (sz : Int32) (h0 : Heap) (n0 : Nat) (v : Option Value) (h : Heap) (L : List Loc) : Prop := v = none ∧ Fr n0 L ∧ Keep h0 h [t, arr] ∧ Arv Z h arr kk (.object "com/example/ajenda/ajenda/core/Job") (16 : Int32) (own_tab (own_set g kf jo)) .null ∧ Fld Z h t "com/example/ajenda/ajenda/core/JobsByNumber" "slots" "[Lcom/example/ajenda/ajenda/core/Job;" (.ref arr) ∧ Fld Z h t "com/example/ajenda/ajenda/core/JobsByNumber" "size" "I" (.int (sz + (1 : Int32)))
set_option maxRecDepth 65536 in
set_option maxHeartbeats 40000000 in
theorem rm_add (l : Launch) (Z : State) (a0 : Array Value) (hw : ∀ d ∈ tables_1, d.before a0 Z = true) (ws : List Jvm.Cond) (t arr jo : Addr) (kk : ClassId) (g : Nat → Option Addr) (nu : Int64) (kf : Nat) (sz : Int32) (h0 : Heap) (n0 : Nat) (O0 : Old Z n0 h0) (V_a : Arv Z h0 arr kk (.object "com/example/ajenda/ajenda/core/Job") (16 : Int32) (own_tab g) .null) (V_o : Ovr Z kk "com/example/ajenda/ajenda/core/Job") (E_j : Exa Z h0 jo "com/example/ajenda/ajenda/core/Job") (F_j : Fld Z h0 jo "com/example/ajenda/ajenda/core/Job" "number" "J" (.long nu)) (hF : own_Free g kf (own_H nu)) (g_arr : n0 ≤ arr) (E_t : Exa Z h0 t "com/example/ajenda/ajenda/core/JobsByNumber") (F_t : Fld Z h0 t "com/example/ajenda/ajenda/core/JobsByNumber" "slots" "[Lcom/example/ajenda/ajenda/core/Job;" (.ref arr)) (F_s : Fld Z h0 t "com/example/ajenda/ajenda/core/JobsByNumber" "size" "I" (.int sz)) (g_t : n0 ≤ t) (ne_t : t ≠ arr) (ne_j : jo ≠ arr) (ne_jt : jo ≠ t) (hsz : sz < (((16 : Int32) / (4 : Int32)) * (3 : Int32))) :
    MetFree l (⟨"com/example/ajenda/ajenda/core/JobsByNumber", "add", "(Lcom/example/ajenda/ajenda/core/Job;)V"⟩ : MethodName) (head1 (Jvm.Cond.code (⟨"com/example/ajenda/ajenda/core/JobsByNumber", "add", "(Lcom/example/ajenda/ajenda/core/Job;)V"⟩ : MethodName) prog_11_method_2_code 2 none :: ws) ({ frames := 3, cells := 0, slots := 0, locals := 44 } : Room)) (fun ar U => ar = #[(.ref t), (.ref jo)] ∧ Z.Warmed39 U.vm ∧ U.heap = h0) (fun _ _ _ _ _ => True) (fun _ U o U' => ∃ v L, o = .returned v ∧ Q_rm_add Z t arr jo kk g nu kf sz h0 n0 v U'.heap L ∧ FrameEnd U o U' L ({ frames := 3, cells := 0, slots := 0, locals := 44 } : Room).cells ({ frames := 3, cells := 0, slots := 0, locals := 44 } : Room).slots) := by
  refine own_enter (Q := (Q_rm_add Z t arr jo kk g nu kf sz h0 n0)) pl_5 ?_
  intro p e s m below meth c s₁ X0 hx hZ hby hml hown hnm hret hlk e0 hnamed
  have N0 := Fr.nil n0
  refine own_by (fun tz kz => castTop (g' := (mkF m 0 #[.val (.ref t), .val (.ref jo)] [])) (by first | (simp [entryFrame, mkF, argsToLocals, Value.category]; done) | rfl) kz) ?_
  have K0 := Keep.refl h0 [t, arr]
  show own_Go p e below s _ _ (s₁.setTop (mkF m 0 #[.val (.ref t), .val (.ref jo)] []))
  refine own_by (fun tz kz => XS.aloadN X0.here hx rfl (hb hby d5_0) rfl rfl kz) ?_
  show own_Go p e below s _ _ (s₁.setTop (mkF m 1 #[.val (.ref t), .val (.ref jo)] [(.ref t)]))
  obtain ⟨T1, X1, e1, st1⟩ := getF X0 hx hZ hown (host := "") (Or.inl (hw _ (List.mem_of_getElem? (i := 64) rfl))) Via.refl e0 F_s (g := (mkF m 1 #[.val (.ref t), .val (.ref jo)] [(.ref t)])) rfl rfl (hb hby d5_1)
  refine own_by st1 ?_
  show own_Go p e below s _ _ (T1.setTop (mkF m 4 #[.val (.ref t), .val (.ref jo)] [(.int sz)]))
  refine own_by (fun tz kz => XS.aloadN X1.here hx rfl (hb hby d5_4) rfl rfl kz) ?_
  show own_Go p e below s _ _ (T1.setTop (mkF m 5 #[.val (.ref t), .val (.ref jo)] [(.ref t), (.int sz)]))
  obtain ⟨T2, X2, e2, st2⟩ := getF X1 hx hZ hown (host := "") (Or.inl (hw _ (List.mem_of_getElem? (i := 57) rfl))) Via.refl e1 F_t (g := (mkF m 5 #[.val (.ref t), .val (.ref jo)] [(.ref t), (.int sz)])) rfl rfl (hb hby d5_5)
  refine own_by st2 ?_
  show own_Go p e below s _ _ (T2.setTop (mkF m 8 #[.val (.ref t), .val (.ref jo)] [(.ref arr), (.int sz)]))
  obtain ⟨c3, Ar3, q3, S3, M3, Hh3, G3⟩ := id V_a
  refine own_by (fun tz kz => X2.arraylength hx (by rw [e2]; exact Ar3.1) (State.isArrayOf_alike hZ.alike Ar3.2.1) (g := (mkF m 8 #[.val (.ref t), .val (.ref jo)] [(.ref arr), (.int sz)])) rfl rfl (hb hby d5_8) _ kz) ?_
  rw [len_of S3 M3]
  show own_Go p e below s _ _ (T2.setTop (mkF m 9 #[.val (.ref t), .val (.ref jo)] [(.int (16 : Int32)), (.int sz)]))
  refine own_by (fun tz kz => XS.iconst X2.here hx rfl (hb hby d5_9) kz) ?_
  show own_Go p e below s _ _ (T2.setTop (mkF m 10 #[.val (.ref t), .val (.ref jo)] [(.int (4 : Int32)), (.int (16 : Int32)), (.int sz)]))
  refine own_by (fun tz kz => XS.idiv X2.here hx rfl (hb hby d5_10) rfl (by decide) kz) ?_
  show own_Go p e below s _ _ (T2.setTop (mkF m 11 #[.val (.ref t), .val (.ref jo)] [(.int ((16 : Int32) / (4 : Int32))), (.int sz)]))
  refine own_by (fun tz kz => XS.iconst X2.here hx rfl (hb hby d5_11) kz) ?_
  show own_Go p e below s _ _ (T2.setTop (mkF m 12 #[.val (.ref t), .val (.ref jo)] [(.int (3 : Int32)), (.int ((16 : Int32) / (4 : Int32))), (.int sz)]))
  refine own_by (fun tz kz => XS.imul X2.here hx rfl (hb hby d5_12) rfl kz) ?_
  show own_Go p e below s _ _ (T2.setTop (mkF m 13 #[.val (.ref t), .val (.ref jo)] [(.int (((16 : Int32) / (4 : Int32)) * (3 : Int32))), (.int sz)]))
  refine own_by (fun tz kz => XS.icmpYes X2.here hx rfl (pc0 := 13) (pc' := 54) rfl (hb hby d5_13) rfl (tlt hsz).1 (by decide) (by decide) kz) ?_
  show own_Go p e below s _ _ (T2.setTop (mkF m 54 #[.val (.ref t), .val (.ref jo)] []))
  refine own_by (fun tz kz => XS.aloadN X2.here hx rfl (hb hby d5_54) rfl rfl kz) ?_
  show own_Go p e below s _ _ (T2.setTop (mkF m 55 #[.val (.ref t), .val (.ref jo)] [(.ref t)]))
  obtain ⟨T4, X4, e4, st4⟩ := getF X2 hx hZ hown (host := "") (Or.inl (hw _ (List.mem_of_getElem? (i := 57) rfl))) Via.refl e2 F_t (g := (mkF m 55 #[.val (.ref t), .val (.ref jo)] [(.ref t)])) rfl rfl (hb hby d5_55)
  refine own_by st4 ?_
  show own_Go p e below s _ _ (T4.setTop (mkF m 58 #[.val (.ref t), .val (.ref jo)] [(.ref arr)]))
  refine own_by (fun tz kz => XS.aloadN X4.here hx rfl (hb hby d5_58) rfl rfl kz) ?_
  show own_Go p e below s _ _ (T4.setTop (mkF m 59 #[.val (.ref t), .val (.ref jo)] [(.ref jo), (.ref arr)]))
  obtain ⟨_, _, ⟨T5, L5, k5, n5⟩, -, X5, ⟨Lc5, hQ5, l5, y5, z5⟩, st5⟩ := Jvm.LawKit.callS X4 hx (y := (⟨"com/example/ajenda/ajenda/core/JobsByNumber", "place", "([Lcom/example/ajenda/ajenda/core/Job;Lcom/example/ajenda/ajenda/core/Job;)V"⟩ : MethodName)) hown (mvT hZ (hw _ (List.mem_of_getElem? (i := 66) rfl))) (mvT hZ (hw _ (List.mem_of_getElem? (i := 67) rfl))) (mvT hZ (hw _ (List.mem_of_getElem? (i := 50) rfl))) (mvT hZ (hw _ (List.mem_of_getElem? (i := 68) rfl))) (by decide) (backOf (W := 0) (rm_place l Z a0 hw [] arr jo kk g nu kf h0 n0 O0 V_a V_o E_j F_j hF g_arr) hZ (hw _ (List.mem_of_getElem? (i := 68) rfl)) (hw _ (List.mem_of_getElem? (i := 50) rfl)) (by decide) (by decide)) (g := (mkF m 59 #[.val (.ref t), .val (.ref jo)] [(.ref jo), (.ref arr)])) rfl (by rw [hml]; rfl) (argsL := [(.ref arr), (.ref jo)]) (rest := []) (lenOf pd_4 rfl) rfl (by show 2 * 0 + _ ≤ _; exact Nat.le_of_eq rfl) (hb hby d5_59) (fun _ _ => ⟨rfl, e4, (by decide : 0 + 0 ≤ _), (by decide : 0 + 0 ≤ _)⟩)
  dsimp only [Pt.U, Pt.locs, Pt.cells, Pt.slots] at X5 l5 y5 z5 st5 hQ5
  rw [l5, y5, z5] at X5
  obtain ⟨rfl, Nq5, Kq5, Vq5⟩ := hQ5
  have N5 := Fr.app N0 Nq5
  have e5 : T5.heap = T5.heap := rfl
  refine own_by st5 ?_
  have O5 := O0.keep Kq5 (allS g_arr all0)
  have K5 := K0.trans Kq5 (allS (Or.inl (List.mem_of_getElem? (i := 1) rfl)) all0)
  show own_Go p e below s _ _ (T5.setTop (mkF m 62 #[.val (.ref t), .val (.ref jo)] []))
  refine own_by (fun tz kz => XS.aloadN X5.here hx rfl (hb hby d5_62) rfl rfl kz) ?_
  show own_Go p e below s _ _ (T5.setTop (mkF m 63 #[.val (.ref t), .val (.ref jo)] [(.ref t)]))
  refine own_by (fun tz kz => XS.dup X5.here hx rfl (hb hby d5_63) rfl rfl kz) ?_
  show own_Go p e below s _ _ (T5.setTop (mkF m 64 #[.val (.ref t), .val (.ref jo)] [(.ref t), (.ref t)]))
  have f6 := (F_s.keep Kq5 (ninS ne_t nin0))
  obtain ⟨T7, X7, e7, st7⟩ := getF X5 hx hZ hown (host := "") (Or.inl (hw _ (List.mem_of_getElem? (i := 64) rfl))) Via.refl e5 f6 (g := (mkF m 64 #[.val (.ref t), .val (.ref jo)] [(.ref t), (.ref t)])) rfl rfl (hb hby d5_64)
  refine own_by st7 ?_
  show own_Go p e below s _ _ (T7.setTop (mkF m 67 #[.val (.ref t), .val (.ref jo)] [(.int sz), (.ref t)]))
  refine own_by (fun tz kz => XS.iconst X7.here hx rfl (hb hby d5_67) kz) ?_
  show own_Go p e below s _ _ (T7.setTop (mkF m 68 #[.val (.ref t), .val (.ref jo)] [(.int (1 : Int32)), (.int sz), (.ref t)]))
  refine own_by (fun tz kz => XS.iadd X7.here hx rfl (hb hby d5_68) rfl kz) ?_
  show own_Go p e below s _ _ (T7.setTop (mkF m 69 #[.val (.ref t), .val (.ref jo)] [(.int (sz + (1 : Int32))), (.ref t)]))
  have f8 := (E_t.keep Kq5)
  obtain ⟨T9, h9, X9, e9, W9, st9⟩ := putF X7 hx hZ hown (host := "") (Or.inl (hw _ (List.mem_of_getElem? (i := 64) rfl))) Via.refl e7 f6 f8 (Or.inl (hw _ (List.mem_of_getElem? (i := 65) rfl))) (hw _ (List.mem_of_getElem? (i := 49) rfl)) (ty := .int) (by decide) rfl rfl (g := (mkF m 69 #[.val (.ref t), .val (.ref jo)] [(.int (sz + (1 : Int32))), (.ref t)])) rfl rfl (hb hby d5_69)
  have Fw9 := f6.same W9
  have O9 := O5.wr W9 g_t
  have N9 := Fr.snoc X9 N5 g_t
  have K9 := K5.wr W9 (Or.inl (List.mem_of_getElem? (i := 0) rfl))
  refine own_by st9 ?_
  show own_Go p e below s _ _ (T9.setTop (mkF m 72 #[.val (.ref t), .val (.ref jo)] []))
  have f10 := (Vq5.other W9 (Ne.symm ne_t))
  have f11 := ((F_t.keep Kq5 (ninS ne_t nin0)).other W9 (Or.inr (slot_ne (Or.inl (hw _ (List.mem_of_getElem? (i := 58) rfl))) (Or.inl (hw _ (List.mem_of_getElem? (i := 65) rfl))) (by decide) (t := (.array (.object "com/example/ajenda/ajenda/core/Job"))) (t' := .int) (by decide) (by decide))))
  refine own_retV X9 hx hlk hret (hb hby d5_72) ?_ (by decide) (by decide)
  exact ⟨rfl, N9, by rw [e9]; exact K9, by rw [e9]; exact f10, by rw [e9]; exact f11, by rw [e9]; exact Fw9⟩
def Q_rm_get (Z : State) (t arr : Addr) (kk : ClassId) (g : Nat → Option Addr) (num : Addr → Int64) (nu : Int64) (r : Option Addr) (h0 : Heap) (n0 : Nat) (v : Option Value) (h : Heap) (L : List Loc) : Prop := v = some (own_val r) ∧ Fr n0 L ∧ h = h0
set_option maxRecDepth 65536 in
set_option maxHeartbeats 40000000 in
theorem rm_get (l : Launch) (Z : State) (a0 : Array Value) (hw : ∀ d ∈ tables_1, d.before a0 Z = true) (ws : List Jvm.Cond) (t arr : Addr) (kk : ClassId) (g : Nat → Option Addr) (num : Addr → Int64) (nu : Int64) (r : Option Addr) (h0 : Heap) (n0 : Nat) (V_a : Arv Z h0 arr kk (.object "com/example/ajenda/ajenda/core/Job") (16 : Int32) (own_tab g) .null) (F_t : Fld Z h0 t "com/example/ajenda/ajenda/core/JobsByNumber" "slots" "[Lcom/example/ajenda/ajenda/core/Job;" (.ref arr)) (hnum : ∀ k b, g k = some b → Fld Z h0 b "com/example/ajenda/ajenda/core/Job" "number" "J" (.long (num b))) (hF : own_Find g num nu r (own_H nu)) :
    MetFree l (⟨"com/example/ajenda/ajenda/core/JobsByNumber", "get", "(J)Lcom/example/ajenda/ajenda/core/Job;"⟩ : MethodName) (head1 (Jvm.Cond.code (⟨"com/example/ajenda/ajenda/core/JobsByNumber", "get", "(J)Lcom/example/ajenda/ajenda/core/Job;"⟩ : MethodName) prog_11_method_3_code 5 (some (.object "com/example/ajenda/ajenda/core/Job")) :: ws) ({ frames := 2, cells := 0, slots := 0, locals := 30 } : Room)) (fun ar U => ar = #[(.ref t), (.long nu)] ∧ Z.Warmed39 U.vm ∧ U.heap = h0) (fun _ _ _ _ _ => True) (fun _ U o U' => ∃ v L, o = .returned v ∧ Q_rm_get Z t arr kk g num nu r h0 n0 v U'.heap L ∧ FrameEnd U o U' L ({ frames := 2, cells := 0, slots := 0, locals := 30 } : Room).cells ({ frames := 2, cells := 0, slots := 0, locals := 30 } : Room).slots) := by
  refine own_enter (Q := (Q_rm_get Z t arr kk g num nu r h0 n0)) pl_9 ?_
  intro p e s m below meth c s₁ X0 hx hZ hby hml hown hnm hret hlk e0 hnamed
  have N0 := Fr.nil n0
  refine own_by (fun tz kz => castTop (g' := (mkF m 0 #[.val (.ref t), .val (.long nu), .second, .unset, .unset] [])) (by first | (simp [entryFrame, mkF, argsToLocals, Value.category]; done) | rfl) kz) ?_
  have K0 := Keep.refl h0 []
  have JG : ∀ k, own_Find g num nu r k → ∀ i : Int32, (0 ≤ i.toInt ∧ i.toInt < 16) → i.toNatClampNeg = k → ∀ (Tj : State) (Lj : List Loc), Stand p l e ({ frames := 2, cells := 0, slots := 0, locals := 30 } : Room) s m #[(.ref t), (.long nu)] below meth c Tj Lj 0 0 → Tj.heap = h0 → Fr n0 Lj → own_Go p e below s (Q_rm_get Z t arr kk g num nu r h0 n0) ({ frames := 2, cells := 0, slots := 0, locals := 30 } : Room) (Tj.setTop (mkF m 19 #[.val (.ref t), .val (.long nu), .second, .val (.int ((16 : Int32) - (1 : Int32))), .val (.int i)] [])) := by
    intro k hF
    refine hF (fun k => ∀ i : Int32, (0 ≤ i.toInt ∧ i.toInt < 16) → i.toNatClampNeg = k → ∀ (Tj : State) (Lj : List Loc), Stand p l e ({ frames := 2, cells := 0, slots := 0, locals := 30 } : Room) s m #[(.ref t), (.long nu)] below meth c Tj Lj 0 0 → Tj.heap = h0 → Fr n0 Lj → own_Go p e below s (Q_rm_get Z t arr kk g num nu r h0 n0) ({ frames := 2, cells := 0, slots := 0, locals := 30 } : Room) (Tj.setTop (mkF m 19 #[.val (.ref t), .val (.long nu), .second, .val (.int ((16 : Int32) - (1 : Int32))), .val (.int i)] []))) ?_ ?_ ?_
    · intro k hg hr i hi hik Tj Lj Xj ej Nj
      show own_Go p e below s _ _ (Tj.setTop (mkF m 19 #[.val (.ref t), .val (.long nu), .second, .val (.int ((16 : Int32) - (1 : Int32))), .val (.int i)] []))
      refine own_by (fun tz kz => XS.aloadN Xj.here hx rfl (hb hby d9_19) rfl rfl kz) ?_
      show own_Go p e below s _ _ (Tj.setTop (mkF m 20 #[.val (.ref t), .val (.long nu), .second, .val (.int ((16 : Int32) - (1 : Int32))), .val (.int i)] [(.ref t)]))
      obtain ⟨T1, X1, e1, st1⟩ := getF Xj hx hZ hown (host := "") (Or.inl (hw _ (List.mem_of_getElem? (i := 57) rfl))) Via.refl ej F_t (g := (mkF m 20 #[.val (.ref t), .val (.long nu), .second, .val (.int ((16 : Int32) - (1 : Int32))), .val (.int i)] [(.ref t)])) rfl rfl (hb hby d9_20)
      refine own_by st1 ?_
      show own_Go p e below s _ _ (T1.setTop (mkF m 23 #[.val (.ref t), .val (.long nu), .second, .val (.int ((16 : Int32) - (1 : Int32))), .val (.int i)] [(.ref arr)]))
      refine own_by (fun tz kz => XS.iload X1.here hx rfl (hb hby d9_23) rfl  kz) ?_
      show own_Go p e below s _ _ (T1.setTop (mkF m 25 #[.val (.ref t), .val (.long nu), .second, .val (.int ((16 : Int32) - (1 : Int32))), .val (.int i)] [(.int i), (.ref arr)]))
      obtain ⟨c2, Ar2, q2, S2, M2, Hh2, G2⟩ := id V_a
      have hin2 : ¬ (i < 0 ∨ c2.slots.size ≤ (i).toNatClampNeg) := inb_of S2 (own_idx i hi)
      have hat2 := Has.at Hh2 hin2 (v := .null) (own_at_no hi hik hg)
      refine own_by (fun tz kz => X1.aaload hx (j := i) (v := .null) (by rw [e1]; exact Ar2.1) (State.isArrayOf_alike hZ.alike Ar2.2.1) rfl Ar2.2.2 hin2 hat2 (g := (mkF m 25 #[.val (.ref t), .val (.long nu), .second, .val (.int ((16 : Int32) - (1 : Int32))), .val (.int i)] [(.int i), (.ref arr)])) rfl rfl (hb hby d9_25) _ kz) ?_
      show own_Go p e below s _ _ (T1.setTop (mkF m 26 #[.val (.ref t), .val (.long nu), .second, .val (.int ((16 : Int32) - (1 : Int32))), .val (.int i)] [.null]))
      refine own_by (fun tz kz => XS.ifnullYes X1.here hx rfl (pc0 := 26) (pc' := 63) rfl (hb hby d9_26) rfl (by decide) (by decide) kz) ?_
      show own_Go p e below s _ _ (T1.setTop (mkF m 63 #[.val (.ref t), .val (.long nu), .second, .val (.int ((16 : Int32) - (1 : Int32))), .val (.int i)] []))
      refine own_by (fun tz kz => XS.aconstNull X1.here hx rfl (hb hby d9_63) kz) ?_
      show own_Go p e below s _ _ (T1.setTop (mkF m 64 #[.val (.ref t), .val (.long nu), .second, .val (.int ((16 : Int32) - (1 : Int32))), .val (.int i)] [.null]))
      refine own_retA X1 hx hlk (t := (.object "com/example/ajenda/ajenda/core/Job")) hret rfl rfl (hb hby d9_64) ?_ (by decide) (by decide)
      exact ⟨by rw [hr]; rfl, Nj, e1⟩
    · intro k b hg hn hr i hi hik Tj Lj Xj ej Nj
      show own_Go p e below s _ _ (Tj.setTop (mkF m 19 #[.val (.ref t), .val (.long nu), .second, .val (.int ((16 : Int32) - (1 : Int32))), .val (.int i)] []))
      refine own_by (fun tz kz => XS.aloadN Xj.here hx rfl (hb hby d9_19) rfl rfl kz) ?_
      show own_Go p e below s _ _ (Tj.setTop (mkF m 20 #[.val (.ref t), .val (.long nu), .second, .val (.int ((16 : Int32) - (1 : Int32))), .val (.int i)] [(.ref t)]))
      obtain ⟨T3, X3, e3, st3⟩ := getF Xj hx hZ hown (host := "") (Or.inl (hw _ (List.mem_of_getElem? (i := 57) rfl))) Via.refl ej F_t (g := (mkF m 20 #[.val (.ref t), .val (.long nu), .second, .val (.int ((16 : Int32) - (1 : Int32))), .val (.int i)] [(.ref t)])) rfl rfl (hb hby d9_20)
      refine own_by st3 ?_
      show own_Go p e below s _ _ (T3.setTop (mkF m 23 #[.val (.ref t), .val (.long nu), .second, .val (.int ((16 : Int32) - (1 : Int32))), .val (.int i)] [(.ref arr)]))
      refine own_by (fun tz kz => XS.iload X3.here hx rfl (hb hby d9_23) rfl  kz) ?_
      show own_Go p e below s _ _ (T3.setTop (mkF m 25 #[.val (.ref t), .val (.long nu), .second, .val (.int ((16 : Int32) - (1 : Int32))), .val (.int i)] [(.int i), (.ref arr)]))
      obtain ⟨c4, Ar4, q4, S4, M4, Hh4, G4⟩ := id V_a
      have hin4 : ¬ (i < 0 ∨ c4.slots.size ≤ (i).toNatClampNeg) := inb_of S4 (own_idx i hi)
      have hat4 := Has.at Hh4 hin4 (v := (.ref b)) (own_at_so hi hik hg)
      refine own_by (fun tz kz => X3.aaload hx (j := i) (v := (.ref b)) (by rw [e3]; exact Ar4.1) (State.isArrayOf_alike hZ.alike Ar4.2.1) rfl Ar4.2.2 hin4 hat4 (g := (mkF m 25 #[.val (.ref t), .val (.long nu), .second, .val (.int ((16 : Int32) - (1 : Int32))), .val (.int i)] [(.int i), (.ref arr)])) rfl rfl (hb hby d9_25) _ kz) ?_
      show own_Go p e below s _ _ (T3.setTop (mkF m 26 #[.val (.ref t), .val (.long nu), .second, .val (.int ((16 : Int32) - (1 : Int32))), .val (.int i)] [(.ref b)]))
      refine own_by (fun tz kz => XS.ifnullNo X3.here hx rfl (hb hby d9_26) rfl kz) ?_
      show own_Go p e below s _ _ (T3.setTop (mkF m 29 #[.val (.ref t), .val (.long nu), .second, .val (.int ((16 : Int32) - (1 : Int32))), .val (.int i)] []))
      refine own_by (fun tz kz => XS.aloadN X3.here hx rfl (hb hby d9_29) rfl rfl kz) ?_
      show own_Go p e below s _ _ (T3.setTop (mkF m 30 #[.val (.ref t), .val (.long nu), .second, .val (.int ((16 : Int32) - (1 : Int32))), .val (.int i)] [(.ref t)]))
      obtain ⟨T5, X5, e5, st5⟩ := getF X3 hx hZ hown (host := "") (Or.inl (hw _ (List.mem_of_getElem? (i := 57) rfl))) Via.refl e3 F_t (g := (mkF m 30 #[.val (.ref t), .val (.long nu), .second, .val (.int ((16 : Int32) - (1 : Int32))), .val (.int i)] [(.ref t)])) rfl rfl (hb hby d9_30)
      refine own_by st5 ?_
      show own_Go p e below s _ _ (T5.setTop (mkF m 33 #[.val (.ref t), .val (.long nu), .second, .val (.int ((16 : Int32) - (1 : Int32))), .val (.int i)] [(.ref arr)]))
      refine own_by (fun tz kz => XS.iload X5.here hx rfl (hb hby d9_33) rfl  kz) ?_
      show own_Go p e below s _ _ (T5.setTop (mkF m 35 #[.val (.ref t), .val (.long nu), .second, .val (.int ((16 : Int32) - (1 : Int32))), .val (.int i)] [(.int i), (.ref arr)]))
      obtain ⟨c6, Ar6, q6, S6, M6, Hh6, G6⟩ := id V_a
      have hin6 : ¬ (i < 0 ∨ c6.slots.size ≤ (i).toNatClampNeg) := inb_of S6 (own_idx i hi)
      have hat6 := Has.at Hh6 hin6 (v := (.ref b)) (own_at_so hi hik hg)
      refine own_by (fun tz kz => X5.aaload hx (j := i) (v := (.ref b)) (by rw [e5]; exact Ar6.1) (State.isArrayOf_alike hZ.alike Ar6.2.1) rfl Ar6.2.2 hin6 hat6 (g := (mkF m 35 #[.val (.ref t), .val (.long nu), .second, .val (.int ((16 : Int32) - (1 : Int32))), .val (.int i)] [(.int i), (.ref arr)])) rfl rfl (hb hby d9_35) _ kz) ?_
      show own_Go p e below s _ _ (T5.setTop (mkF m 36 #[.val (.ref t), .val (.long nu), .second, .val (.int ((16 : Int32) - (1 : Int32))), .val (.int i)] [(.ref b)]))
      obtain ⟨T7, X7, e7, st7⟩ := getF X5 hx hZ hown (host := "") (Or.inl (hw _ (List.mem_of_getElem? (i := 69) rfl))) Via.refl e5 (hnum _ _ hg) (g := (mkF m 36 #[.val (.ref t), .val (.long nu), .second, .val (.int ((16 : Int32) - (1 : Int32))), .val (.int i)] [(.ref b)])) rfl rfl (hb hby d9_36)
      refine own_by st7 ?_
      show own_Go p e below s _ _ (T7.setTop (mkF m 39 #[.val (.ref t), .val (.long nu), .second, .val (.int ((16 : Int32) - (1 : Int32))), .val (.int i)] [(.long (num b))]))
      refine own_by (fun tz kz => XS.lloadN X7.here hx rfl (hb hby d9_39) rfl kz) ?_
      show own_Go p e below s _ _ (T7.setTop (mkF m 40 #[.val (.ref t), .val (.long nu), .second, .val (.int ((16 : Int32) - (1 : Int32))), .val (.int i)] [(.long nu), (.long (num b))]))
      refine own_by (fun tz kz => XS.lcmp X7.here hx rfl (hb hby d9_40) rfl kz) ?_
      show own_Go p e below s _ _ (T7.setTop (mkF m 41 #[.val (.ref t), .val (.long nu), .second, .val (.int ((16 : Int32) - (1 : Int32))), .val (.int i)] [(.int (lcmpW (num b) nu))]))
      refine own_by (fun tz kz => XS.ifNo X7.here hx rfl (hb hby d9_41) rfl ((if0 _ _).trans (teq ((lw_eq (num b) nu).mpr hn)).2) kz) ?_
      show own_Go p e below s _ _ (T7.setTop (mkF m 44 #[.val (.ref t), .val (.long nu), .second, .val (.int ((16 : Int32) - (1 : Int32))), .val (.int i)] []))
      refine own_by (fun tz kz => XS.aloadN X7.here hx rfl (hb hby d9_44) rfl rfl kz) ?_
      show own_Go p e below s _ _ (T7.setTop (mkF m 45 #[.val (.ref t), .val (.long nu), .second, .val (.int ((16 : Int32) - (1 : Int32))), .val (.int i)] [(.ref t)]))
      obtain ⟨T8, X8, e8, st8⟩ := getF X7 hx hZ hown (host := "") (Or.inl (hw _ (List.mem_of_getElem? (i := 57) rfl))) Via.refl e7 F_t (g := (mkF m 45 #[.val (.ref t), .val (.long nu), .second, .val (.int ((16 : Int32) - (1 : Int32))), .val (.int i)] [(.ref t)])) rfl rfl (hb hby d9_45)
      refine own_by st8 ?_
      show own_Go p e below s _ _ (T8.setTop (mkF m 48 #[.val (.ref t), .val (.long nu), .second, .val (.int ((16 : Int32) - (1 : Int32))), .val (.int i)] [(.ref arr)]))
      refine own_by (fun tz kz => XS.iload X8.here hx rfl (hb hby d9_48) rfl  kz) ?_
      show own_Go p e below s _ _ (T8.setTop (mkF m 50 #[.val (.ref t), .val (.long nu), .second, .val (.int ((16 : Int32) - (1 : Int32))), .val (.int i)] [(.int i), (.ref arr)]))
      obtain ⟨c9, Ar9, q9, S9, M9, Hh9, G9⟩ := id V_a
      have hin9 : ¬ (i < 0 ∨ c9.slots.size ≤ (i).toNatClampNeg) := inb_of S9 (own_idx i hi)
      have hat9 := Has.at Hh9 hin9 (v := (.ref b)) (own_at_so hi hik hg)
      refine own_by (fun tz kz => X8.aaload hx (j := i) (v := (.ref b)) (by rw [e8]; exact Ar9.1) (State.isArrayOf_alike hZ.alike Ar9.2.1) rfl Ar9.2.2 hin9 hat9 (g := (mkF m 50 #[.val (.ref t), .val (.long nu), .second, .val (.int ((16 : Int32) - (1 : Int32))), .val (.int i)] [(.int i), (.ref arr)])) rfl rfl (hb hby d9_50) _ kz) ?_
      show own_Go p e below s _ _ (T8.setTop (mkF m 51 #[.val (.ref t), .val (.long nu), .second, .val (.int ((16 : Int32) - (1 : Int32))), .val (.int i)] [(.ref b)]))
      refine own_retA X8 hx hlk (t := (.object "com/example/ajenda/ajenda/core/Job")) hret rfl rfl (hb hby d9_51) ?_ (by decide) (by decide)
      exact ⟨by rw [hr]; rfl, Nj, e8⟩
    · intro k b hg hn ih i hi hik Tj Lj Xj ej Nj
      show own_Go p e below s _ _ (Tj.setTop (mkF m 19 #[.val (.ref t), .val (.long nu), .second, .val (.int ((16 : Int32) - (1 : Int32))), .val (.int i)] []))
      refine own_by (fun tz kz => XS.aloadN Xj.here hx rfl (hb hby d9_19) rfl rfl kz) ?_
      show own_Go p e below s _ _ (Tj.setTop (mkF m 20 #[.val (.ref t), .val (.long nu), .second, .val (.int ((16 : Int32) - (1 : Int32))), .val (.int i)] [(.ref t)]))
      obtain ⟨T10, X10, e10, st10⟩ := getF Xj hx hZ hown (host := "") (Or.inl (hw _ (List.mem_of_getElem? (i := 57) rfl))) Via.refl ej F_t (g := (mkF m 20 #[.val (.ref t), .val (.long nu), .second, .val (.int ((16 : Int32) - (1 : Int32))), .val (.int i)] [(.ref t)])) rfl rfl (hb hby d9_20)
      refine own_by st10 ?_
      show own_Go p e below s _ _ (T10.setTop (mkF m 23 #[.val (.ref t), .val (.long nu), .second, .val (.int ((16 : Int32) - (1 : Int32))), .val (.int i)] [(.ref arr)]))
      refine own_by (fun tz kz => XS.iload X10.here hx rfl (hb hby d9_23) rfl  kz) ?_
      show own_Go p e below s _ _ (T10.setTop (mkF m 25 #[.val (.ref t), .val (.long nu), .second, .val (.int ((16 : Int32) - (1 : Int32))), .val (.int i)] [(.int i), (.ref arr)]))
      obtain ⟨c11, Ar11, q11, S11, M11, Hh11, G11⟩ := id V_a
      have hin11 : ¬ (i < 0 ∨ c11.slots.size ≤ (i).toNatClampNeg) := inb_of S11 (own_idx i hi)
      have hat11 := Has.at Hh11 hin11 (v := (.ref b)) (own_at_so hi hik hg)
      refine own_by (fun tz kz => X10.aaload hx (j := i) (v := (.ref b)) (by rw [e10]; exact Ar11.1) (State.isArrayOf_alike hZ.alike Ar11.2.1) rfl Ar11.2.2 hin11 hat11 (g := (mkF m 25 #[.val (.ref t), .val (.long nu), .second, .val (.int ((16 : Int32) - (1 : Int32))), .val (.int i)] [(.int i), (.ref arr)])) rfl rfl (hb hby d9_25) _ kz) ?_
      show own_Go p e below s _ _ (T10.setTop (mkF m 26 #[.val (.ref t), .val (.long nu), .second, .val (.int ((16 : Int32) - (1 : Int32))), .val (.int i)] [(.ref b)]))
      refine own_by (fun tz kz => XS.ifnullNo X10.here hx rfl (hb hby d9_26) rfl kz) ?_
      show own_Go p e below s _ _ (T10.setTop (mkF m 29 #[.val (.ref t), .val (.long nu), .second, .val (.int ((16 : Int32) - (1 : Int32))), .val (.int i)] []))
      refine own_by (fun tz kz => XS.aloadN X10.here hx rfl (hb hby d9_29) rfl rfl kz) ?_
      show own_Go p e below s _ _ (T10.setTop (mkF m 30 #[.val (.ref t), .val (.long nu), .second, .val (.int ((16 : Int32) - (1 : Int32))), .val (.int i)] [(.ref t)]))
      obtain ⟨T12, X12, e12, st12⟩ := getF X10 hx hZ hown (host := "") (Or.inl (hw _ (List.mem_of_getElem? (i := 57) rfl))) Via.refl e10 F_t (g := (mkF m 30 #[.val (.ref t), .val (.long nu), .second, .val (.int ((16 : Int32) - (1 : Int32))), .val (.int i)] [(.ref t)])) rfl rfl (hb hby d9_30)
      refine own_by st12 ?_
      show own_Go p e below s _ _ (T12.setTop (mkF m 33 #[.val (.ref t), .val (.long nu), .second, .val (.int ((16 : Int32) - (1 : Int32))), .val (.int i)] [(.ref arr)]))
      refine own_by (fun tz kz => XS.iload X12.here hx rfl (hb hby d9_33) rfl  kz) ?_
      show own_Go p e below s _ _ (T12.setTop (mkF m 35 #[.val (.ref t), .val (.long nu), .second, .val (.int ((16 : Int32) - (1 : Int32))), .val (.int i)] [(.int i), (.ref arr)]))
      obtain ⟨c13, Ar13, q13, S13, M13, Hh13, G13⟩ := id V_a
      have hin13 : ¬ (i < 0 ∨ c13.slots.size ≤ (i).toNatClampNeg) := inb_of S13 (own_idx i hi)
      have hat13 := Has.at Hh13 hin13 (v := (.ref b)) (own_at_so hi hik hg)
      refine own_by (fun tz kz => X12.aaload hx (j := i) (v := (.ref b)) (by rw [e12]; exact Ar13.1) (State.isArrayOf_alike hZ.alike Ar13.2.1) rfl Ar13.2.2 hin13 hat13 (g := (mkF m 35 #[.val (.ref t), .val (.long nu), .second, .val (.int ((16 : Int32) - (1 : Int32))), .val (.int i)] [(.int i), (.ref arr)])) rfl rfl (hb hby d9_35) _ kz) ?_
      show own_Go p e below s _ _ (T12.setTop (mkF m 36 #[.val (.ref t), .val (.long nu), .second, .val (.int ((16 : Int32) - (1 : Int32))), .val (.int i)] [(.ref b)]))
      obtain ⟨T14, X14, e14, st14⟩ := getF X12 hx hZ hown (host := "") (Or.inl (hw _ (List.mem_of_getElem? (i := 69) rfl))) Via.refl e12 (hnum _ _ hg) (g := (mkF m 36 #[.val (.ref t), .val (.long nu), .second, .val (.int ((16 : Int32) - (1 : Int32))), .val (.int i)] [(.ref b)])) rfl rfl (hb hby d9_36)
      refine own_by st14 ?_
      show own_Go p e below s _ _ (T14.setTop (mkF m 39 #[.val (.ref t), .val (.long nu), .second, .val (.int ((16 : Int32) - (1 : Int32))), .val (.int i)] [(.long (num b))]))
      refine own_by (fun tz kz => XS.lloadN X14.here hx rfl (hb hby d9_39) rfl kz) ?_
      show own_Go p e below s _ _ (T14.setTop (mkF m 40 #[.val (.ref t), .val (.long nu), .second, .val (.int ((16 : Int32) - (1 : Int32))), .val (.int i)] [(.long nu), (.long (num b))]))
      refine own_by (fun tz kz => XS.lcmp X14.here hx rfl (hb hby d9_40) rfl kz) ?_
      show own_Go p e below s _ _ (T14.setTop (mkF m 41 #[.val (.ref t), .val (.long nu), .second, .val (.int ((16 : Int32) - (1 : Int32))), .val (.int i)] [(.int (lcmpW (num b) nu))]))
      refine own_by (fun tz kz => XS.ifYes X14.here hx rfl (pc0 := 41) (pc' := 52) rfl (hb hby d9_41) rfl ((if0 _ _).trans (feq (fun q => hn ((lw_eq (num b) nu).mp q))).2) (by decide) (by decide) kz) ?_
      show own_Go p e below s _ _ (T14.setTop (mkF m 52 #[.val (.ref t), .val (.long nu), .second, .val (.int ((16 : Int32) - (1 : Int32))), .val (.int i)] []))
      refine own_by (fun tz kz => XS.iload X14.here hx rfl (hb hby d9_52) rfl  kz) ?_
      show own_Go p e below s _ _ (T14.setTop (mkF m 54 #[.val (.ref t), .val (.long nu), .second, .val (.int ((16 : Int32) - (1 : Int32))), .val (.int i)] [(.int i)]))
      refine own_by (fun tz kz => XS.iconst X14.here hx rfl (hb hby d9_54) kz) ?_
      show own_Go p e below s _ _ (T14.setTop (mkF m 55 #[.val (.ref t), .val (.long nu), .second, .val (.int ((16 : Int32) - (1 : Int32))), .val (.int i)] [(.int (1 : Int32)), (.int i)]))
      refine own_by (fun tz kz => XS.iadd X14.here hx rfl (hb hby d9_55) rfl kz) ?_
      show own_Go p e below s _ _ (T14.setTop (mkF m 56 #[.val (.ref t), .val (.long nu), .second, .val (.int ((16 : Int32) - (1 : Int32))), .val (.int i)] [(.int (i + (1 : Int32)))]))
      refine own_by (fun tz kz => XS.iloadN X14.here hx rfl (hb hby d9_56) rfl  kz) ?_
      show own_Go p e below s _ _ (T14.setTop (mkF m 57 #[.val (.ref t), .val (.long nu), .second, .val (.int ((16 : Int32) - (1 : Int32))), .val (.int i)] [(.int ((16 : Int32) - (1 : Int32))), (.int (i + (1 : Int32)))]))
      refine own_by (fun tz kz => XS.iand X14.here hx rfl (hb hby d9_57) rfl kz) ?_
      show own_Go p e below s _ _ (T14.setTop (mkF m 58 #[.val (.ref t), .val (.long nu), .second, .val (.int ((16 : Int32) - (1 : Int32))), .val (.int i)] [(.int ((i + (1 : Int32)) &&& ((16 : Int32) - (1 : Int32))))]))
      refine own_by (fun tz kz => XS.istore X14.here hx rfl (hb hby d9_58) rfl (l' := #[.val (.ref t), .val (.long nu), .second, .val (.int ((16 : Int32) - (1 : Int32))), .val (.int ((i + (1 : Int32)) &&& ((16 : Int32) - (1 : Int32))))]) rfl kz) ?_
      show own_Go p e below s _ _ (T14.setTop (mkF m 60 #[.val (.ref t), .val (.long nu), .second, .val (.int ((16 : Int32) - (1 : Int32))), .val (.int ((i + (1 : Int32)) &&& ((16 : Int32) - (1 : Int32))))] []))
      refine own_by (fun tz kz => XS.goto X14.here hx rfl (pc0 := 60) (pc' := 19) rfl (hb hby d9_60) (by decide) (by decide) kz) ?_
      exact ih _ (own_nx i hi).1 ((own_nx i hi).2.trans (by rw [hik])) _ _ X14 e14 Nj
  show own_Go p e below s _ _ (s₁.setTop (mkF m 0 #[.val (.ref t), .val (.long nu), .second, .unset, .unset] []))
  refine own_by (fun tz kz => XS.aloadN X0.here hx rfl (hb hby d9_0) rfl rfl kz) ?_
  show own_Go p e below s _ _ (s₁.setTop (mkF m 1 #[.val (.ref t), .val (.long nu), .second, .unset, .unset] [(.ref t)]))
  obtain ⟨T15, X15, e15, st15⟩ := getF X0 hx hZ hown (host := "") (Or.inl (hw _ (List.mem_of_getElem? (i := 57) rfl))) Via.refl e0 F_t (g := (mkF m 1 #[.val (.ref t), .val (.long nu), .second, .unset, .unset] [(.ref t)])) rfl rfl (hb hby d9_1)
  refine own_by st15 ?_
  show own_Go p e below s _ _ (T15.setTop (mkF m 4 #[.val (.ref t), .val (.long nu), .second, .unset, .unset] [(.ref arr)]))
  obtain ⟨c16, Ar16, q16, S16, M16, Hh16, G16⟩ := id V_a
  refine own_by (fun tz kz => X15.arraylength hx (by rw [e15]; exact Ar16.1) (State.isArrayOf_alike hZ.alike Ar16.2.1) (g := (mkF m 4 #[.val (.ref t), .val (.long nu), .second, .unset, .unset] [(.ref arr)])) rfl rfl (hb hby d9_4) _ kz) ?_
  rw [len_of S16 M16]
  show own_Go p e below s _ _ (T15.setTop (mkF m 5 #[.val (.ref t), .val (.long nu), .second, .unset, .unset] [(.int (16 : Int32))]))
  refine own_by (fun tz kz => XS.iconst X15.here hx rfl (hb hby d9_5) kz) ?_
  show own_Go p e below s _ _ (T15.setTop (mkF m 6 #[.val (.ref t), .val (.long nu), .second, .unset, .unset] [(.int (1 : Int32)), (.int (16 : Int32))]))
  refine own_by (fun tz kz => XS.isub X15.here hx rfl (hb hby d9_6) rfl kz) ?_
  show own_Go p e below s _ _ (T15.setTop (mkF m 7 #[.val (.ref t), .val (.long nu), .second, .unset, .unset] [(.int ((16 : Int32) - (1 : Int32)))]))
  refine own_by (fun tz kz => XS.istoreN X15.here hx rfl (hb hby d9_7) rfl (l' := #[.val (.ref t), .val (.long nu), .second, .val (.int ((16 : Int32) - (1 : Int32))), .unset]) rfl kz) ?_
  show own_Go p e below s _ _ (T15.setTop (mkF m 8 #[.val (.ref t), .val (.long nu), .second, .val (.int ((16 : Int32) - (1 : Int32))), .unset] []))
  refine own_by (fun tz kz => XS.lloadN X15.here hx rfl (hb hby d9_8) rfl kz) ?_
  show own_Go p e below s _ _ (T15.setTop (mkF m 9 #[.val (.ref t), .val (.long nu), .second, .val (.int ((16 : Int32) - (1 : Int32))), .unset] [(.long nu)]))
  refine own_by (fun tz kz => XS.aloadN X15.here hx rfl (hb hby d9_9) rfl rfl kz) ?_
  show own_Go p e below s _ _ (T15.setTop (mkF m 10 #[.val (.ref t), .val (.long nu), .second, .val (.int ((16 : Int32) - (1 : Int32))), .unset] [(.ref t), (.long nu)]))
  obtain ⟨T17, X17, e17, st17⟩ := getF X15 hx hZ hown (host := "") (Or.inl (hw _ (List.mem_of_getElem? (i := 57) rfl))) Via.refl e15 F_t (g := (mkF m 10 #[.val (.ref t), .val (.long nu), .second, .val (.int ((16 : Int32) - (1 : Int32))), .unset] [(.ref t), (.long nu)])) rfl rfl (hb hby d9_10)
  refine own_by st17 ?_
  show own_Go p e below s _ _ (T17.setTop (mkF m 13 #[.val (.ref t), .val (.long nu), .second, .val (.int ((16 : Int32) - (1 : Int32))), .unset] [(.ref arr), (.long nu)]))
  obtain ⟨c18, Ar18, q18, S18, M18, Hh18, G18⟩ := id V_a
  refine own_by (fun tz kz => X17.arraylength hx (by rw [e17]; exact Ar18.1) (State.isArrayOf_alike hZ.alike Ar18.2.1) (g := (mkF m 13 #[.val (.ref t), .val (.long nu), .second, .val (.int ((16 : Int32) - (1 : Int32))), .unset] [(.ref arr), (.long nu)])) rfl rfl (hb hby d9_13) _ kz) ?_
  rw [len_of S18 M18]
  show own_Go p e below s _ _ (T17.setTop (mkF m 14 #[.val (.ref t), .val (.long nu), .second, .val (.int ((16 : Int32) - (1 : Int32))), .unset] [(.int (16 : Int32)), (.long nu)]))
  obtain ⟨_, _, ⟨T19, L19, k19, n19⟩, -, X19, ⟨Lc19, hQ19, l19, y19, z19⟩, st19⟩ := Jvm.LawKit.callS X17 hx (y := (⟨"com/example/ajenda/ajenda/core/JobsByNumber", "home", "(JI)I"⟩ : MethodName)) hown (mvT hZ (hw _ (List.mem_of_getElem? (i := 70) rfl))) (mvT hZ (hw _ (List.mem_of_getElem? (i := 71) rfl))) (mvT hZ (hw _ (List.mem_of_getElem? (i := 50) rfl))) (mvT hZ (hw _ (List.mem_of_getElem? (i := 72) rfl))) (by decide) (backOf (W := 0) (rm_home l Z a0 hw [] nu h0 n0) hZ (hw _ (List.mem_of_getElem? (i := 72) rfl)) (hw _ (List.mem_of_getElem? (i := 50) rfl)) (by decide) (by decide)) (g := (mkF m 14 #[.val (.ref t), .val (.long nu), .second, .val (.int ((16 : Int32) - (1 : Int32))), .unset] [(.int (16 : Int32)), (.long nu)])) rfl (by rw [hml]; rfl) (argsL := [(.long nu), (.int (16 : Int32))]) (rest := []) (lenOf pd_5 rfl) rfl (by show 2 * 0 + _ ≤ _; exact Nat.le_of_eq rfl) (hb hby d9_14) (fun _ _ => ⟨rfl, e17, (by decide : 0 + 0 ≤ _), (by decide : 0 + 0 ≤ _)⟩)
  dsimp only [Pt.U, Pt.locs, Pt.cells, Pt.slots] at X19 l19 y19 z19 st19 hQ19
  rw [l19, y19, z19] at X19
  obtain ⟨rfl, Nq19, e19⟩ := hQ19
  have N19 := Fr.app N0 Nq19
  refine own_by st19 ?_
  show own_Go p e below s _ _ (T19.setTop (mkF m 17 #[.val (.ref t), .val (.long nu), .second, .val (.int ((16 : Int32) - (1 : Int32))), .unset] [(.int (own_home nu))]))
  refine own_by (fun tz kz => XS.istore X19.here hx rfl (hb hby d9_17) rfl (l' := #[.val (.ref t), .val (.long nu), .second, .val (.int ((16 : Int32) - (1 : Int32))), .val (.int (own_home nu))]) rfl kz) ?_
  exact JG _ hF _ (own_home_in nu) rfl _ _ X19 e19 N19
def Q_rm_B (Z : State) (t : Addr) (h0 : Heap) (n0 : Nat) (v : Option Value) (h : Heap) (L : List Loc) : Prop := ∃ arr kk, v = none ∧ Fr n0 L ∧ h0.size ≤ arr ∧ Keep h0 h [t] ∧ Arv Z h arr kk (.object "com/example/ajenda/ajenda/core/Job") (16 : Int32) (own_tab own_g0) .null ∧ Fld Z h t "com/example/ajenda/ajenda/core/JobsByNumber" "slots" "[Lcom/example/ajenda/ajenda/core/Job;" (.ref arr) ∧ Fld Z h t "com/example/ajenda/ajenda/core/JobsByNumber" "size" "I" (.int (0 : Int32)) ∧ Ovr Z kk "com/example/ajenda/ajenda/core/Job"
set_option maxRecDepth 65536 in
set_option maxHeartbeats 40000000 in
theorem rm_B (l : Launch) (Z : State) (a0 : Array Value) (hw : ∀ d ∈ tables_1, d.before a0 Z = true) (ws : List Jvm.Cond) (t : Addr) (h0 : Heap) (n0 : Nat) (O0 : Old Z n0 h0) (E_t : Exa Z h0 t "com/example/ajenda/ajenda/core/JobsByNumber") (F_t : Fld Z h0 t "com/example/ajenda/ajenda/core/JobsByNumber" "slots" "[Lcom/example/ajenda/ajenda/core/Job;" .null) (F_s : Fld Z h0 t "com/example/ajenda/ajenda/core/JobsByNumber" "size" "I" (.int (0 : Int32))) (g_t : n0 ≤ t) :
    MetFree l (⟨"com/example/ajenda/ajenda/core/JobsByNumber", "<init>", "()V"⟩ : MethodName) (head1 (Jvm.Cond.code (⟨"com/example/ajenda/ajenda/core/JobsByNumber", "<init>", "()V"⟩ : MethodName) prog_11_method_1_code 1 none :: ws) ({ frames := 1, cells := 1, slots := 16, locals := 12 } : Room)) (fun ar U => ar = #[(.ref t)] ∧ Z.Warmed39 U.vm ∧ U.heap = h0) (fun _ _ _ _ _ => True) (fun _ U o U' => ∃ v L, o = .returned v ∧ Q_rm_B Z t h0 n0 v U'.heap L ∧ FrameEnd U o U' L ({ frames := 1, cells := 1, slots := 16, locals := 12 } : Room).cells ({ frames := 1, cells := 1, slots := 16, locals := 12 } : Room).slots) := by
  refine own_enter (Q := (Q_rm_B Z t h0 n0)) pl_4 ?_
  intro p e s m below meth c s₁ X0 hx hZ hby hml hown hnm hret hlk e0 hnamed
  have N0 := Fr.nil n0
  refine own_by (fun tz kz => castTop (g' := (mkF m 0 #[.val (.ref t)] [])) (by first | (simp [entryFrame, mkF, argsToLocals, Value.category]; done) | rfl) kz) ?_
  have K0 := Keep.refl h0 [t]
  show own_Go p e below s _ _ (s₁.setTop (mkF m 0 #[.val (.ref t)] []))
  refine own_by (fun tz kz => XS.aloadN X0.here hx rfl (hb hby d4_0) rfl rfl kz) ?_
  show own_Go p e below s _ _ (s₁.setTop (mkF m 1 #[.val (.ref t)] [(.ref t)]))
  obtain ⟨T1, X1, e1, st1⟩ := initO X0 hx hZ hown (hw _ (List.mem_of_getElem? (i := 54) rfl)) (hw _ (List.mem_of_getElem? (i := 21) rfl)) (hw _ (List.mem_of_getElem? (i := 22) rfl)) e0 (g := (mkF m 1 #[.val (.ref t)] [(.ref t)])) rfl (by rw [hml]; rfl) rfl (hb hby d4_1) (by decide) (W := 0) (by show 2 * 0 + _ ≤ _; exact Nat.le_of_eq rfl) (by decide)
  refine own_by st1 ?_
  show own_Go p e below s _ _ (T1.setTop (mkF m 4 #[.val (.ref t)] []))
  refine own_by (fun tz kz => XS.aloadN X1.here hx rfl (hb hby d4_4) rfl rfl kz) ?_
  show own_Go p e below s _ _ (T1.setTop (mkF m 5 #[.val (.ref t)] [(.ref t)]))
  refine own_by (fun tz kz => XS.bipush X1.here hx rfl (hb hby d4_5) kz) ?_
  show own_Go p e below s _ _ (T1.setTop (mkF m 7 #[.val (.ref t)] [(.int (16 : Int32)), (.ref t)]))
  obtain ⟨T2, h2, k2, X2, e2, E2, A2, Q2, st2⟩ := newR X1 hx hZ hown (hw _ (List.mem_of_getElem? (i := 55) rfl)) (hw _ (List.mem_of_getElem? (i := 56) rfl)) e1 (g := (mkF m 7 #[.val (.ref t)] [(.int (16 : Int32)), (.ref t)])) rfl (hb hby d4_7) rfl (by decide) (cap := 16) (by decide) (by decide) (by decide) (by decide)
  obtain ⟨b2, g2⟩ : ∃ z, z = h0.size := ⟨_, rfl⟩
  have ne_t_b2 : t ≠ b2 := by rw [g2]; exact Nat.ne_of_lt E_t.lt
  rw [← g2] at A2 st2
  have g_b2 : n0 ≤ b2 := by rw [g2]; exact O0.1 ▸ O0.2.1
  have sz_b2 : h0.size ≤ b2 := by rw [g2]; exact K0.1
  have O2 := O0.ext E2
  have K2 := K0.ext E2
  refine own_by st2 ?_
  have V2 : Arv Z h2 b2 k2 (.object "com/example/ajenda/ajenda/core/Job") (16 : Int32) [.null, .null, .null, .null, .null, .null, .null, .null, .null, .null, .null, .null, .null, .null, .null, .null] .null := (Arv.new A2 (by decide)).pad (pad_rep [] .null 16)
  show own_Go p e below s _ _ (T2.setTop (mkF m 10 #[.val (.ref t)] [(.ref b2), (.ref t)]))
  have f3 := (F_t.ext E2)
  have f4 := (E_t.ext E2)
  obtain ⟨T5, h5, X5, e5, W5, st5⟩ := putF X2 hx hZ hown (host := "") (Or.inl (hw _ (List.mem_of_getElem? (i := 57) rfl))) Via.refl e2 f3 f4 (Or.inl (hw _ (List.mem_of_getElem? (i := 58) rfl))) (hw _ (List.mem_of_getElem? (i := 49) rfl)) (ty := (.array (.object "com/example/ajenda/ajenda/core/Job"))) (by decide) rfl rfl (g := (mkF m 10 #[.val (.ref t)] [(.ref b2), (.ref t)])) rfl rfl (hb hby d4_10)
  have Fw5 := f3.same W5
  have O5 := O2.wr W5 g_t
  have N5 := Fr.snoc X5 N0 g_t
  have K5 := K2.wr W5 (Or.inl (List.mem_of_getElem? (i := 0) rfl))
  refine own_by st5 ?_
  show own_Go p e below s _ _ (T5.setTop (mkF m 13 #[.val (.ref t)] []))
  have f6 := (V2.other W5 (Ne.symm ne_t_b2))
  have f7 := ((F_s.ext E2).other W5 (Or.inr (slot_ne (Or.inl (hw _ (List.mem_of_getElem? (i := 65) rfl))) (Or.inl (hw _ (List.mem_of_getElem? (i := 58) rfl))) (by decide) (t := .int) (t' := (.array (.object "com/example/ajenda/ajenda/core/Job"))) (by decide) (by decide))))
  refine own_retV X5 hx hlk hret (hb hby d4_13) ?_ (by decide) (by decide)
  exact ⟨b2, k2, rfl, N5, sz_b2, by rw [e5]; exact K5, by rw [e5, ← own_tab_none]; exact f6, by rw [e5]; exact Fw5, by rw [e5]; exact f7, Q2⟩
def Q_rm_Ji (Z : State) (jo : Addr) (nu : Int64) (sh pr u : Addr) (ku : ClassId) (em : Addr) (h0 : Heap) (n0 : Nat) (v : Option Value) (h : Heap) (L : List Loc) : Prop := v = none ∧ Fr n0 L ∧ Keep h0 h [jo] ∧ Fld Z h jo "com/example/ajenda/ajenda/core/Job" "number" "J" (.long nu)
set_option maxRecDepth 65536 in
set_option maxHeartbeats 40000000 in
theorem rm_Ji (l : Launch) (Z : State) (a0 : Array Value) (hw : ∀ d ∈ tables_1, d.before a0 Z = true) (ws : List Jvm.Cond) (jo : Addr) (nu : Int64) (sh pr u : Addr) (ku : ClassId) (em : Addr) (h0 : Heap) (n0 : Nat) (O0 : Old Z n0 h0) (E_j : Exa Z h0 jo "com/example/ajenda/ajenda/core/Job") (F_numerator : Fld Z h0 jo "com/example/ajenda/ajenda/core/Job" "numerator" "Ljava/lang/String;" .null) (F_denominator : Fld Z h0 jo "com/example/ajenda/ajenda/core/Job" "denominator" "Ljava/lang/String;" .null) (F_number : Fld Z h0 jo "com/example/ajenda/ajenda/core/Job" "number" "J" (.long (0 : Int64))) (F_restored : Fld Z h0 jo "com/example/ajenda/ajenda/core/Job" "restored" "Z" (.int (0 : Int32))) (F_handleStart : Fld Z h0 jo "com/example/ajenda/ajenda/core/Job" "handleStart" "Ljava/lang/String;" .null) (F_queue : Fld Z h0 jo "com/example/ajenda/ajenda/core/Job" "queue" "Lcom/example/ajenda/ajenda/core/FunctionQueue;" .null) (F_priority : Fld Z h0 jo "com/example/ajenda/ajenda/core/Job" "priority" "Lcom/example/ajenda/ajenda/core/Priority;" .null) (F_uniqueId : Fld Z h0 jo "com/example/ajenda/ajenda/core/Job" "uniqueId" "[B" .null) (F_data : Fld Z h0 jo "com/example/ajenda/ajenda/core/Job" "data" "[B" .null) (V_u : Arv Z h0 u ku .byte (0 : Int32) [] (.int (0 : Int32))) (ne_u : u ≠ jo) (S_em : Sta Z Z.heap "com/example/ajenda/ajenda/core/Job" "EMPTY" "[B" (.ref em)) (g_jo : n0 ≤ jo) :
    MetFree l (⟨"com/example/ajenda/ajenda/core/Job", "<init>", "(JZLjava/lang/String;Lcom/example/ajenda/ajenda/core/FunctionQueue;Lcom/example/ajenda/ajenda/core/Priority;[B[B)V"⟩ : MethodName) (head1 (Jvm.Cond.code (⟨"com/example/ajenda/ajenda/core/Job", "<init>", "(JZLjava/lang/String;Lcom/example/ajenda/ajenda/core/FunctionQueue;Lcom/example/ajenda/ajenda/core/Priority;[B[B)V"⟩ : MethodName) prog_3_method_1_code 9 none :: ws) ({ frames := 1, cells := 4, slots := 16, locals := 12 } : Room)) (fun ar U => ar = #[(.ref jo), (.long nu), (.int (0 : Int32)), (.ref sh), .null, (.ref pr), (.ref u), (.ref u)] ∧ Z.Warmed39 U.vm ∧ U.heap = h0) (fun _ _ _ _ _ => True) (fun _ U o U' => ∃ v L, o = .returned v ∧ Q_rm_Ji Z jo nu sh pr u ku em h0 n0 v U'.heap L ∧ ReturnedEndW U o U' L ({ frames := 1, cells := 4, slots := 16, locals := 12 } : Room).cells ({ frames := 1, cells := 4, slots := 16, locals := 12 } : Room).slots) := by
  refine own_enterW (Q := (Q_rm_Ji Z jo nu sh pr u ku em h0 n0)) pl_2 ?_
  intro p e s00 m below meth c s₁ X0 hx hZ hby hml hown hnm hret hlk e0 hnamed
  obtain ⟨s, A0, hZ, hown, X0⟩ := own_first h0 X0 hZ hown
  have N0 := Fr.nil n0
  refine own_byW (fun tz kz => castTop (g' := (mkF m 0 #[.val (.ref jo), .val (.long nu), .second, .val (.int (0 : Int32)), .val (.ref sh), .val .null, .val (.ref pr), .val (.ref u), .val (.ref u)] [])) (by first | (simp [entryFrame, mkF, argsToLocals, Value.category]; done) | rfl) kz) ?_
  have K0 := Keep.refl h0 [jo]
  show own_GoW p e below s00 _ _ (s₁.setTop (mkF m 0 #[.val (.ref jo), .val (.long nu), .second, .val (.int (0 : Int32)), .val (.ref sh), .val .null, .val (.ref pr), .val (.ref u), .val (.ref u)] []))
  refine own_byW (fun tz kz => XS.aloadN X0.here hx rfl (hb hby d2_0) rfl rfl kz) ?_
  show own_GoW p e below s00 _ _ (s₁.setTop (mkF m 1 #[.val (.ref jo), .val (.long nu), .second, .val (.int (0 : Int32)), .val (.ref sh), .val .null, .val (.ref pr), .val (.ref u), .val (.ref u)] [(.ref jo)]))
  obtain ⟨T1, X1, e1, st1⟩ := initO X0 hx hZ hown (hw _ (List.mem_of_getElem? (i := 20) rfl)) (hw _ (List.mem_of_getElem? (i := 21) rfl)) (hw _ (List.mem_of_getElem? (i := 22) rfl)) e0 (g := (mkF m 1 #[.val (.ref jo), .val (.long nu), .second, .val (.int (0 : Int32)), .val (.ref sh), .val .null, .val (.ref pr), .val (.ref u), .val (.ref u)] [(.ref jo)])) rfl (by rw [hml]; rfl) rfl (hb hby d2_1) (by decide) (W := 0) (by show 2 * 0 + _ ≤ _; exact Nat.le_of_eq rfl) (by decide)
  refine own_byW st1 ?_
  show own_GoW p e below s00 _ _ (T1.setTop (mkF m 4 #[.val (.ref jo), .val (.long nu), .second, .val (.int (0 : Int32)), .val (.ref sh), .val .null, .val (.ref pr), .val (.ref u), .val (.ref u)] []))
  refine own_byW (fun tz kz => XS.aloadN X1.here hx rfl (hb hby d2_4) rfl rfl kz) ?_
  show own_GoW p e below s00 _ _ (T1.setTop (mkF m 5 #[.val (.ref jo), .val (.long nu), .second, .val (.int (0 : Int32)), .val (.ref sh), .val .null, .val (.ref pr), .val (.ref u), .val (.ref u)] [(.ref jo)]))
  obtain ⟨sa2, s, T2, h2, e2, E2, A2, hZ, hown, X2, st2⟩ := own_ldc X1 hx hZ hown (hw _ (List.mem_of_getElem? (i := 23) rfl)) (own_str hw) e1 A0 (g := (mkF m 5 #[.val (.ref jo), .val (.long nu), .second, .val (.int (0 : Int32)), .val (.ref sh), .val .null, .val (.ref pr), .val (.ref u), .val (.ref u)] [(.ref jo)])) rfl (hb hby d2_5) (n := 4) (by first | decide | decide +kernel) (by decide) (by decide) (by decide)
  refine own_byW st2 ?_
  have O2 := O0.ext E2
  have K2 := K0.ext E2
  show own_GoW p e below s00 _ _ (T2.setTop (mkF m 7 #[.val (.ref jo), .val (.long nu), .second, .val (.int (0 : Int32)), .val (.ref sh), .val .null, .val (.ref pr), .val (.ref u), .val (.ref u)] [(.ref sa2), (.ref jo)]))
  have f3 := (F_numerator.ext E2)
  have f4 := (E_j.ext E2)
  obtain ⟨T5, h5, X5, e5, W5, st5⟩ := putF X2 hx hZ hown (host := "") (Or.inl (hw _ (List.mem_of_getElem? (i := 24) rfl))) Via.refl e2 f3 f4 (Or.inl (hw _ (List.mem_of_getElem? (i := 25) rfl))) (hw _ (List.mem_of_getElem? (i := 16) rfl)) (ty := (.object "java/lang/String")) (by decide) rfl rfl (g := (mkF m 7 #[.val (.ref jo), .val (.long nu), .second, .val (.int (0 : Int32)), .val (.ref sh), .val .null, .val (.ref pr), .val (.ref u), .val (.ref u)] [(.ref sa2), (.ref jo)])) rfl rfl (hb hby d2_7)
  have Fw5 := f3.same W5
  have O5 := O2.wr W5 g_jo
  have N5 := Fr.snoc X5 N0 g_jo
  have K5 := K2.wr W5 (Or.inl (List.mem_of_getElem? (i := 0) rfl))
  refine own_byW st5 ?_
  show own_GoW p e below s00 _ _ (T5.setTop (mkF m 10 #[.val (.ref jo), .val (.long nu), .second, .val (.int (0 : Int32)), .val (.ref sh), .val .null, .val (.ref pr), .val (.ref u), .val (.ref u)] []))
  refine own_byW (fun tz kz => XS.aloadN X5.here hx rfl (hb hby d2_10) rfl rfl kz) ?_
  show own_GoW p e below s00 _ _ (T5.setTop (mkF m 11 #[.val (.ref jo), .val (.long nu), .second, .val (.int (0 : Int32)), .val (.ref sh), .val .null, .val (.ref pr), .val (.ref u), .val (.ref u)] [(.ref jo)]))
  have A7 := (own_At.up A2 (Nat.le_of_eq W5.size.symm))
  obtain ⟨sa6, s, T6, h6, e6, E6, A6, hZ, hown, X6, st6⟩ := own_ldc X5 hx hZ hown (hw _ (List.mem_of_getElem? (i := 23) rfl)) (own_str hw) e5 A7 (g := (mkF m 11 #[.val (.ref jo), .val (.long nu), .second, .val (.int (0 : Int32)), .val (.ref sh), .val .null, .val (.ref pr), .val (.ref u), .val (.ref u)] [(.ref jo)])) rfl (hb hby d2_11) (n := 4) (by first | decide | decide +kernel) (by decide) (by decide) (by decide)
  refine own_byW st6 ?_
  have O6 := O5.ext E6
  have K6 := K5.ext E6
  show own_GoW p e below s00 _ _ (T6.setTop (mkF m 13 #[.val (.ref jo), .val (.long nu), .second, .val (.int (0 : Int32)), .val (.ref sh), .val .null, .val (.ref pr), .val (.ref u), .val (.ref u)] [(.ref sa6), (.ref jo)]))
  have f8 := (((F_denominator.ext E2).other W5 (Or.inr (slot_ne (Or.inl (hw _ (List.mem_of_getElem? (i := 27) rfl))) (Or.inl (hw _ (List.mem_of_getElem? (i := 25) rfl))) (by decide) (t := (.object "java/lang/String")) (t' := (.object "java/lang/String")) (by decide) (by decide)))).ext E6)
  have f9 := ((f4.wr W5).ext E6)
  obtain ⟨T10, h10, X10, e10, W10, st10⟩ := putF X6 hx hZ hown (host := "") (Or.inl (hw _ (List.mem_of_getElem? (i := 26) rfl))) Via.refl e6 f8 f9 (Or.inl (hw _ (List.mem_of_getElem? (i := 27) rfl))) (hw _ (List.mem_of_getElem? (i := 16) rfl)) (ty := (.object "java/lang/String")) (by decide) rfl rfl (g := (mkF m 13 #[.val (.ref jo), .val (.long nu), .second, .val (.int (0 : Int32)), .val (.ref sh), .val .null, .val (.ref pr), .val (.ref u), .val (.ref u)] [(.ref sa6), (.ref jo)])) rfl rfl (hb hby d2_13)
  have Fw10 := f8.same W10
  have O10 := O6.wr W10 g_jo
  have N10 := Fr.snoc X10 N5 g_jo
  have K10 := K6.wr W10 (Or.inl (List.mem_of_getElem? (i := 0) rfl))
  refine own_byW st10 ?_
  show own_GoW p e below s00 _ _ (T10.setTop (mkF m 16 #[.val (.ref jo), .val (.long nu), .second, .val (.int (0 : Int32)), .val (.ref sh), .val .null, .val (.ref pr), .val (.ref u), .val (.ref u)] []))
  refine own_byW (fun tz kz => XS.aloadN X10.here hx rfl (hb hby d2_16) rfl rfl kz) ?_
  show own_GoW p e below s00 _ _ (T10.setTop (mkF m 17 #[.val (.ref jo), .val (.long nu), .second, .val (.int (0 : Int32)), .val (.ref sh), .val .null, .val (.ref pr), .val (.ref u), .val (.ref u)] [(.ref jo)]))
  refine own_byW (fun tz kz => XS.lloadN X10.here hx rfl (hb hby d2_17) rfl kz) ?_
  show own_GoW p e below s00 _ _ (T10.setTop (mkF m 18 #[.val (.ref jo), .val (.long nu), .second, .val (.int (0 : Int32)), .val (.ref sh), .val .null, .val (.ref pr), .val (.ref u), .val (.ref u)] [(.long nu), (.ref jo)]))
  have f11 := ((((F_number.ext E2).other W5 (Or.inr (slot_ne (Or.inr (hw _ (List.mem_of_getElem? (i := 29) rfl))) (Or.inl (hw _ (List.mem_of_getElem? (i := 25) rfl))) (by decide) (t := .long) (t' := (.object "java/lang/String")) (by decide) (by decide)))).ext E6).other W10 (Or.inr (slot_ne (Or.inr (hw _ (List.mem_of_getElem? (i := 29) rfl))) (Or.inl (hw _ (List.mem_of_getElem? (i := 27) rfl))) (by decide) (t := .long) (t' := (.object "java/lang/String")) (by decide) (by decide))))
  have f12 := (f9.wr W10)
  obtain ⟨T13, h13, X13, e13, W13, st13⟩ := putF X10 hx hZ hown (host := "") (Or.inl (hw _ (List.mem_of_getElem? (i := 28) rfl))) Via.refl e10 f11 f12 (Or.inr ⟨(hw _ (List.mem_of_getElem? (i := 29) rfl)), rfl, hnm⟩) (hw _ (List.mem_of_getElem? (i := 16) rfl)) (ty := .long) (by decide) rfl rfl (g := (mkF m 18 #[.val (.ref jo), .val (.long nu), .second, .val (.int (0 : Int32)), .val (.ref sh), .val .null, .val (.ref pr), .val (.ref u), .val (.ref u)] [(.long nu), (.ref jo)])) rfl rfl (hb hby d2_18)
  have Fw13 := f11.same W13
  have O13 := O10.wr W13 g_jo
  have N13 := Fr.snoc X13 N10 g_jo
  have K13 := K10.wr W13 (Or.inl (List.mem_of_getElem? (i := 0) rfl))
  refine own_byW st13 ?_
  show own_GoW p e below s00 _ _ (T13.setTop (mkF m 21 #[.val (.ref jo), .val (.long nu), .second, .val (.int (0 : Int32)), .val (.ref sh), .val .null, .val (.ref pr), .val (.ref u), .val (.ref u)] []))
  refine own_byW (fun tz kz => XS.aloadN X13.here hx rfl (hb hby d2_21) rfl rfl kz) ?_
  show own_GoW p e below s00 _ _ (T13.setTop (mkF m 22 #[.val (.ref jo), .val (.long nu), .second, .val (.int (0 : Int32)), .val (.ref sh), .val .null, .val (.ref pr), .val (.ref u), .val (.ref u)] [(.ref jo)]))
  refine own_byW (fun tz kz => XS.iloadN X13.here hx rfl (hb hby d2_22) rfl  kz) ?_
  show own_GoW p e below s00 _ _ (T13.setTop (mkF m 23 #[.val (.ref jo), .val (.long nu), .second, .val (.int (0 : Int32)), .val (.ref sh), .val .null, .val (.ref pr), .val (.ref u), .val (.ref u)] [(.int (0 : Int32)), (.ref jo)]))
  have f14 := (((((F_restored.ext E2).other W5 (Or.inr (slot_ne (Or.inr (hw _ (List.mem_of_getElem? (i := 31) rfl))) (Or.inl (hw _ (List.mem_of_getElem? (i := 25) rfl))) (by decide) (t := .boolean) (t' := (.object "java/lang/String")) (by decide) (by decide)))).ext E6).other W10 (Or.inr (slot_ne (Or.inr (hw _ (List.mem_of_getElem? (i := 31) rfl))) (Or.inl (hw _ (List.mem_of_getElem? (i := 27) rfl))) (by decide) (t := .boolean) (t' := (.object "java/lang/String")) (by decide) (by decide)))).other W13 (Or.inr (slot_ne (Or.inr (hw _ (List.mem_of_getElem? (i := 31) rfl))) (Or.inr (hw _ (List.mem_of_getElem? (i := 29) rfl))) (by decide) (t := .boolean) (t' := .long) (by decide) (by decide))))
  have f15 := (f12.wr W13)
  obtain ⟨T16, h16, X16, e16, W16, st16⟩ := putFN X13 hx hZ hown (hw _ (List.mem_of_getElem? (i := 30) rfl)) Via.refl e13 f14 f15 (Or.inr ⟨(hw _ (List.mem_of_getElem? (i := 31) rfl)), rfl, hnm⟩) (hw _ (List.mem_of_getElem? (i := 16) rfl)) (ty := .boolean) (v' := (.int (0 : Int32))) (by decide) rfl rfl (g := (mkF m 23 #[.val (.ref jo), .val (.long nu), .second, .val (.int (0 : Int32)), .val (.ref sh), .val .null, .val (.ref pr), .val (.ref u), .val (.ref u)] [(.int (0 : Int32)), (.ref jo)])) rfl rfl (hb hby d2_23)
  have Fw16 := f14.same W16
  have O16 := O13.wr W16 g_jo
  have N16 := Fr.snoc X16 N13 g_jo
  have K16 := K13.wr W16 (Or.inl (List.mem_of_getElem? (i := 0) rfl))
  refine own_byW st16 ?_
  show own_GoW p e below s00 _ _ (T16.setTop (mkF m 26 #[.val (.ref jo), .val (.long nu), .second, .val (.int (0 : Int32)), .val (.ref sh), .val .null, .val (.ref pr), .val (.ref u), .val (.ref u)] []))
  refine own_byW (fun tz kz => XS.aloadN X16.here hx rfl (hb hby d2_26) rfl rfl kz) ?_
  show own_GoW p e below s00 _ _ (T16.setTop (mkF m 27 #[.val (.ref jo), .val (.long nu), .second, .val (.int (0 : Int32)), .val (.ref sh), .val .null, .val (.ref pr), .val (.ref u), .val (.ref u)] [(.ref jo)]))
  refine own_byW (fun tz kz => XS.aload X16.here hx rfl (hb hby d2_27) rfl rfl kz) ?_
  show own_GoW p e below s00 _ _ (T16.setTop (mkF m 29 #[.val (.ref jo), .val (.long nu), .second, .val (.int (0 : Int32)), .val (.ref sh), .val .null, .val (.ref pr), .val (.ref u), .val (.ref u)] [(.ref sh), (.ref jo)]))
  have f17 := ((((((F_handleStart.ext E2).other W5 (Or.inr (slot_ne (Or.inr (hw _ (List.mem_of_getElem? (i := 33) rfl))) (Or.inl (hw _ (List.mem_of_getElem? (i := 25) rfl))) (by decide) (t := (.object "java/lang/String")) (t' := (.object "java/lang/String")) (by decide) (by decide)))).ext E6).other W10 (Or.inr (slot_ne (Or.inr (hw _ (List.mem_of_getElem? (i := 33) rfl))) (Or.inl (hw _ (List.mem_of_getElem? (i := 27) rfl))) (by decide) (t := (.object "java/lang/String")) (t' := (.object "java/lang/String")) (by decide) (by decide)))).other W13 (Or.inr (slot_ne (Or.inr (hw _ (List.mem_of_getElem? (i := 33) rfl))) (Or.inr (hw _ (List.mem_of_getElem? (i := 29) rfl))) (by decide) (t := (.object "java/lang/String")) (t' := .long) (by decide) (by decide)))).other W16 (Or.inr (slot_ne (Or.inr (hw _ (List.mem_of_getElem? (i := 33) rfl))) (Or.inr (hw _ (List.mem_of_getElem? (i := 31) rfl))) (by decide) (t := (.object "java/lang/String")) (t' := .boolean) (by decide) (by decide))))
  have f18 := (f15.wr W16)
  obtain ⟨T19, h19, X19, e19, W19, st19⟩ := putF X16 hx hZ hown (host := "") (Or.inl (hw _ (List.mem_of_getElem? (i := 32) rfl))) Via.refl e16 f17 f18 (Or.inr ⟨(hw _ (List.mem_of_getElem? (i := 33) rfl)), rfl, hnm⟩) (hw _ (List.mem_of_getElem? (i := 16) rfl)) (ty := (.object "java/lang/String")) (by decide) rfl rfl (g := (mkF m 29 #[.val (.ref jo), .val (.long nu), .second, .val (.int (0 : Int32)), .val (.ref sh), .val .null, .val (.ref pr), .val (.ref u), .val (.ref u)] [(.ref sh), (.ref jo)])) rfl rfl (hb hby d2_29)
  have Fw19 := f17.same W19
  have O19 := O16.wr W19 g_jo
  have N19 := Fr.snoc X19 N16 g_jo
  have K19 := K16.wr W19 (Or.inl (List.mem_of_getElem? (i := 0) rfl))
  refine own_byW st19 ?_
  show own_GoW p e below s00 _ _ (T19.setTop (mkF m 32 #[.val (.ref jo), .val (.long nu), .second, .val (.int (0 : Int32)), .val (.ref sh), .val .null, .val (.ref pr), .val (.ref u), .val (.ref u)] []))
  refine own_byW (fun tz kz => XS.aloadN X19.here hx rfl (hb hby d2_32) rfl rfl kz) ?_
  show own_GoW p e below s00 _ _ (T19.setTop (mkF m 33 #[.val (.ref jo), .val (.long nu), .second, .val (.int (0 : Int32)), .val (.ref sh), .val .null, .val (.ref pr), .val (.ref u), .val (.ref u)] [(.ref jo)]))
  refine own_byW (fun tz kz => XS.aload X19.here hx rfl (hb hby d2_33) rfl rfl kz) ?_
  show own_GoW p e below s00 _ _ (T19.setTop (mkF m 35 #[.val (.ref jo), .val (.long nu), .second, .val (.int (0 : Int32)), .val (.ref sh), .val .null, .val (.ref pr), .val (.ref u), .val (.ref u)] [.null, (.ref jo)]))
  have f20 := (((((((F_queue.ext E2).other W5 (Or.inr (slot_ne (Or.inr (hw _ (List.mem_of_getElem? (i := 35) rfl))) (Or.inl (hw _ (List.mem_of_getElem? (i := 25) rfl))) (by decide) (t := (.object "com/example/ajenda/ajenda/core/FunctionQueue")) (t' := (.object "java/lang/String")) (by decide) (by decide)))).ext E6).other W10 (Or.inr (slot_ne (Or.inr (hw _ (List.mem_of_getElem? (i := 35) rfl))) (Or.inl (hw _ (List.mem_of_getElem? (i := 27) rfl))) (by decide) (t := (.object "com/example/ajenda/ajenda/core/FunctionQueue")) (t' := (.object "java/lang/String")) (by decide) (by decide)))).other W13 (Or.inr (slot_ne (Or.inr (hw _ (List.mem_of_getElem? (i := 35) rfl))) (Or.inr (hw _ (List.mem_of_getElem? (i := 29) rfl))) (by decide) (t := (.object "com/example/ajenda/ajenda/core/FunctionQueue")) (t' := .long) (by decide) (by decide)))).other W16 (Or.inr (slot_ne (Or.inr (hw _ (List.mem_of_getElem? (i := 35) rfl))) (Or.inr (hw _ (List.mem_of_getElem? (i := 31) rfl))) (by decide) (t := (.object "com/example/ajenda/ajenda/core/FunctionQueue")) (t' := .boolean) (by decide) (by decide)))).other W19 (Or.inr (slot_ne (Or.inr (hw _ (List.mem_of_getElem? (i := 35) rfl))) (Or.inr (hw _ (List.mem_of_getElem? (i := 33) rfl))) (by decide) (t := (.object "com/example/ajenda/ajenda/core/FunctionQueue")) (t' := (.object "java/lang/String")) (by decide) (by decide))))
  have f21 := (f18.wr W19)
  obtain ⟨T22, h22, X22, e22, W22, st22⟩ := putF X19 hx hZ hown (host := "") (Or.inl (hw _ (List.mem_of_getElem? (i := 34) rfl))) Via.refl e19 f20 f21 (Or.inr ⟨(hw _ (List.mem_of_getElem? (i := 35) rfl)), rfl, hnm⟩) (hw _ (List.mem_of_getElem? (i := 16) rfl)) (ty := (.object "com/example/ajenda/ajenda/core/FunctionQueue")) (by decide) rfl rfl (g := (mkF m 35 #[.val (.ref jo), .val (.long nu), .second, .val (.int (0 : Int32)), .val (.ref sh), .val .null, .val (.ref pr), .val (.ref u), .val (.ref u)] [.null, (.ref jo)])) rfl rfl (hb hby d2_35)
  have Fw22 := f20.same W22
  have O22 := O19.wr W22 g_jo
  have N22 := Fr.snoc X22 N19 g_jo
  have K22 := K19.wr W22 (Or.inl (List.mem_of_getElem? (i := 0) rfl))
  refine own_byW st22 ?_
  show own_GoW p e below s00 _ _ (T22.setTop (mkF m 38 #[.val (.ref jo), .val (.long nu), .second, .val (.int (0 : Int32)), .val (.ref sh), .val .null, .val (.ref pr), .val (.ref u), .val (.ref u)] []))
  refine own_byW (fun tz kz => XS.aloadN X22.here hx rfl (hb hby d2_38) rfl rfl kz) ?_
  show own_GoW p e below s00 _ _ (T22.setTop (mkF m 39 #[.val (.ref jo), .val (.long nu), .second, .val (.int (0 : Int32)), .val (.ref sh), .val .null, .val (.ref pr), .val (.ref u), .val (.ref u)] [(.ref jo)]))
  refine own_byW (fun tz kz => XS.aload X22.here hx rfl (hb hby d2_39) rfl rfl kz) ?_
  show own_GoW p e below s00 _ _ (T22.setTop (mkF m 41 #[.val (.ref jo), .val (.long nu), .second, .val (.int (0 : Int32)), .val (.ref sh), .val .null, .val (.ref pr), .val (.ref u), .val (.ref u)] [(.ref pr), (.ref jo)]))
  have f23 := ((((((((F_priority.ext E2).other W5 (Or.inr (slot_ne (Or.inr (hw _ (List.mem_of_getElem? (i := 37) rfl))) (Or.inl (hw _ (List.mem_of_getElem? (i := 25) rfl))) (by decide) (t := (.object "com/example/ajenda/ajenda/core/Priority")) (t' := (.object "java/lang/String")) (by decide) (by decide)))).ext E6).other W10 (Or.inr (slot_ne (Or.inr (hw _ (List.mem_of_getElem? (i := 37) rfl))) (Or.inl (hw _ (List.mem_of_getElem? (i := 27) rfl))) (by decide) (t := (.object "com/example/ajenda/ajenda/core/Priority")) (t' := (.object "java/lang/String")) (by decide) (by decide)))).other W13 (Or.inr (slot_ne (Or.inr (hw _ (List.mem_of_getElem? (i := 37) rfl))) (Or.inr (hw _ (List.mem_of_getElem? (i := 29) rfl))) (by decide) (t := (.object "com/example/ajenda/ajenda/core/Priority")) (t' := .long) (by decide) (by decide)))).other W16 (Or.inr (slot_ne (Or.inr (hw _ (List.mem_of_getElem? (i := 37) rfl))) (Or.inr (hw _ (List.mem_of_getElem? (i := 31) rfl))) (by decide) (t := (.object "com/example/ajenda/ajenda/core/Priority")) (t' := .boolean) (by decide) (by decide)))).other W19 (Or.inr (slot_ne (Or.inr (hw _ (List.mem_of_getElem? (i := 37) rfl))) (Or.inr (hw _ (List.mem_of_getElem? (i := 33) rfl))) (by decide) (t := (.object "com/example/ajenda/ajenda/core/Priority")) (t' := (.object "java/lang/String")) (by decide) (by decide)))).other W22 (Or.inr (slot_ne (Or.inr (hw _ (List.mem_of_getElem? (i := 37) rfl))) (Or.inr (hw _ (List.mem_of_getElem? (i := 35) rfl))) (by decide) (t := (.object "com/example/ajenda/ajenda/core/Priority")) (t' := (.object "com/example/ajenda/ajenda/core/FunctionQueue")) (by decide) (by decide))))
  have f24 := (f21.wr W22)
  obtain ⟨T25, h25, X25, e25, W25, st25⟩ := putF X22 hx hZ hown (host := "") (Or.inl (hw _ (List.mem_of_getElem? (i := 36) rfl))) Via.refl e22 f23 f24 (Or.inr ⟨(hw _ (List.mem_of_getElem? (i := 37) rfl)), rfl, hnm⟩) (hw _ (List.mem_of_getElem? (i := 16) rfl)) (ty := (.object "com/example/ajenda/ajenda/core/Priority")) (by decide) rfl rfl (g := (mkF m 41 #[.val (.ref jo), .val (.long nu), .second, .val (.int (0 : Int32)), .val (.ref sh), .val .null, .val (.ref pr), .val (.ref u), .val (.ref u)] [(.ref pr), (.ref jo)])) rfl rfl (hb hby d2_41)
  have Fw25 := f23.same W25
  have O25 := O22.wr W25 g_jo
  have N25 := Fr.snoc X25 N22 g_jo
  have K25 := K22.wr W25 (Or.inl (List.mem_of_getElem? (i := 0) rfl))
  refine own_byW st25 ?_
  show own_GoW p e below s00 _ _ (T25.setTop (mkF m 44 #[.val (.ref jo), .val (.long nu), .second, .val (.int (0 : Int32)), .val (.ref sh), .val .null, .val (.ref pr), .val (.ref u), .val (.ref u)] []))
  refine own_byW (fun tz kz => XS.aloadN X25.here hx rfl (hb hby d2_44) rfl rfl kz) ?_
  show own_GoW p e below s00 _ _ (T25.setTop (mkF m 45 #[.val (.ref jo), .val (.long nu), .second, .val (.int (0 : Int32)), .val (.ref sh), .val .null, .val (.ref pr), .val (.ref u), .val (.ref u)] [(.ref jo)]))
  refine own_byW (fun tz kz => XS.aload X25.here hx rfl (hb hby d2_45) rfl rfl kz) ?_
  show own_GoW p e below s00 _ _ (T25.setTop (mkF m 47 #[.val (.ref jo), .val (.long nu), .second, .val (.int (0 : Int32)), .val (.ref sh), .val .null, .val (.ref pr), .val (.ref u), .val (.ref u)] [(.ref u), (.ref jo)]))
  have f27 := (((((((Arv.ext ((Arv.ext V_u E2).other W5 ne_u) E6).other W10 ne_u).other W13 ne_u).other W16 ne_u).other W19 ne_u).other W22 ne_u).other W25 ne_u)
  obtain ⟨c26, Ar26, q26, S26, M26, Hh26, G26⟩ := id f27
  refine own_byW (fun tz kz => X25.arraylength hx (by rw [e25]; exact Ar26.1) (State.isArrayOf_alike hZ.alike Ar26.2.1) (g := (mkF m 47 #[.val (.ref jo), .val (.long nu), .second, .val (.int (0 : Int32)), .val (.ref sh), .val .null, .val (.ref pr), .val (.ref u), .val (.ref u)] [(.ref u), (.ref jo)])) rfl rfl (hb hby d2_47) _ kz) ?_
  rw [len_of S26 M26]
  show own_GoW p e below s00 _ _ (T25.setTop (mkF m 48 #[.val (.ref jo), .val (.long nu), .second, .val (.int (0 : Int32)), .val (.ref sh), .val .null, .val (.ref pr), .val (.ref u), .val (.ref u)] [(.int (0 : Int32)), (.ref jo)]))
  refine own_byW (fun tz kz => XS.ifNo X25.here hx rfl (hb hby d2_48) rfl ((if0 _ _).trans (teq (by decide : (0 : Int32) = (0 : Int32))).2) kz) ?_
  show own_GoW p e below s00 _ _ (T25.setTop (mkF m 51 #[.val (.ref jo), .val (.long nu), .second, .val (.int (0 : Int32)), .val (.ref sh), .val .null, .val (.ref pr), .val (.ref u), .val (.ref u)] [(.ref jo)]))
  obtain ⟨T28, X28, e28, st28⟩ := getS2 X25 hx hZ hown (host := "") (Or.inl (hw _ (List.mem_of_getElem? (i := 38) rfl))) Via.refl e25 (S_em.ext O25.2) (g := (mkF m 51 #[.val (.ref jo), .val (.long nu), .second, .val (.int (0 : Int32)), .val (.ref sh), .val .null, .val (.ref pr), .val (.ref u), .val (.ref u)] [(.ref jo)])) rfl (hb hby d2_51)
  refine own_byW st28 ?_
  show own_GoW p e below s00 _ _ (T28.setTop (mkF m 54 #[.val (.ref jo), .val (.long nu), .second, .val (.int (0 : Int32)), .val (.ref sh), .val .null, .val (.ref pr), .val (.ref u), .val (.ref u)] [(.ref em), (.ref jo)]))
  refine own_byW (fun tz kz => XS.goto X28.here hx rfl (pc0 := 54) (pc' := 59) rfl (hb hby d2_54) (by decide) (by decide) kz) ?_
  show own_GoW p e below s00 _ _ (T28.setTop (mkF m 59 #[.val (.ref jo), .val (.long nu), .second, .val (.int (0 : Int32)), .val (.ref sh), .val .null, .val (.ref pr), .val (.ref u), .val (.ref u)] [(.ref em), (.ref jo)]))
  have f29 := (((((((((F_uniqueId.ext E2).other W5 (Or.inr (slot_ne (Or.inr (hw _ (List.mem_of_getElem? (i := 41) rfl))) (Or.inl (hw _ (List.mem_of_getElem? (i := 25) rfl))) (by decide) (t := (.array .byte)) (t' := (.object "java/lang/String")) (by decide) (by decide)))).ext E6).other W10 (Or.inr (slot_ne (Or.inr (hw _ (List.mem_of_getElem? (i := 41) rfl))) (Or.inl (hw _ (List.mem_of_getElem? (i := 27) rfl))) (by decide) (t := (.array .byte)) (t' := (.object "java/lang/String")) (by decide) (by decide)))).other W13 (Or.inr (slot_ne (Or.inr (hw _ (List.mem_of_getElem? (i := 41) rfl))) (Or.inr (hw _ (List.mem_of_getElem? (i := 29) rfl))) (by decide) (t := (.array .byte)) (t' := .long) (by decide) (by decide)))).other W16 (Or.inr (slot_ne (Or.inr (hw _ (List.mem_of_getElem? (i := 41) rfl))) (Or.inr (hw _ (List.mem_of_getElem? (i := 31) rfl))) (by decide) (t := (.array .byte)) (t' := .boolean) (by decide) (by decide)))).other W19 (Or.inr (slot_ne (Or.inr (hw _ (List.mem_of_getElem? (i := 41) rfl))) (Or.inr (hw _ (List.mem_of_getElem? (i := 33) rfl))) (by decide) (t := (.array .byte)) (t' := (.object "java/lang/String")) (by decide) (by decide)))).other W22 (Or.inr (slot_ne (Or.inr (hw _ (List.mem_of_getElem? (i := 41) rfl))) (Or.inr (hw _ (List.mem_of_getElem? (i := 35) rfl))) (by decide) (t := (.array .byte)) (t' := (.object "com/example/ajenda/ajenda/core/FunctionQueue")) (by decide) (by decide)))).other W25 (Or.inr (slot_ne (Or.inr (hw _ (List.mem_of_getElem? (i := 41) rfl))) (Or.inr (hw _ (List.mem_of_getElem? (i := 37) rfl))) (by decide) (t := (.array .byte)) (t' := (.object "com/example/ajenda/ajenda/core/Priority")) (by decide) (by decide))))
  have f30 := (f24.wr W25)
  obtain ⟨T31, h31, X31, e31, W31, st31⟩ := putF X28 hx hZ hown (host := "") (Or.inl (hw _ (List.mem_of_getElem? (i := 40) rfl))) Via.refl e28 f29 f30 (Or.inr ⟨(hw _ (List.mem_of_getElem? (i := 41) rfl)), rfl, hnm⟩) (hw _ (List.mem_of_getElem? (i := 16) rfl)) (ty := (.array .byte)) (by decide) rfl rfl (g := (mkF m 59 #[.val (.ref jo), .val (.long nu), .second, .val (.int (0 : Int32)), .val (.ref sh), .val .null, .val (.ref pr), .val (.ref u), .val (.ref u)] [(.ref em), (.ref jo)])) rfl rfl (hb hby d2_59)
  have Fw31 := f29.same W31
  have O31 := O25.wr W31 g_jo
  have N31 := Fr.snoc X31 N25 g_jo
  have K31 := K25.wr W31 (Or.inl (List.mem_of_getElem? (i := 0) rfl))
  refine own_byW st31 ?_
  show own_GoW p e below s00 _ _ (T31.setTop (mkF m 62 #[.val (.ref jo), .val (.long nu), .second, .val (.int (0 : Int32)), .val (.ref sh), .val .null, .val (.ref pr), .val (.ref u), .val (.ref u)] []))
  refine own_byW (fun tz kz => XS.aloadN X31.here hx rfl (hb hby d2_62) rfl rfl kz) ?_
  show own_GoW p e below s00 _ _ (T31.setTop (mkF m 63 #[.val (.ref jo), .val (.long nu), .second, .val (.int (0 : Int32)), .val (.ref sh), .val .null, .val (.ref pr), .val (.ref u), .val (.ref u)] [(.ref jo)]))
  refine own_byW (fun tz kz => XS.aload X31.here hx rfl (hb hby d2_63) rfl rfl kz) ?_
  show own_GoW p e below s00 _ _ (T31.setTop (mkF m 65 #[.val (.ref jo), .val (.long nu), .second, .val (.int (0 : Int32)), .val (.ref sh), .val .null, .val (.ref pr), .val (.ref u), .val (.ref u)] [(.ref u), (.ref jo)]))
  have f33 := (f27.other W31 ne_u)
  obtain ⟨c32, Ar32, q32, S32, M32, Hh32, G32⟩ := id f33
  refine own_byW (fun tz kz => X31.arraylength hx (by rw [e31]; exact Ar32.1) (State.isArrayOf_alike hZ.alike Ar32.2.1) (g := (mkF m 65 #[.val (.ref jo), .val (.long nu), .second, .val (.int (0 : Int32)), .val (.ref sh), .val .null, .val (.ref pr), .val (.ref u), .val (.ref u)] [(.ref u), (.ref jo)])) rfl rfl (hb hby d2_65) _ kz) ?_
  rw [len_of S32 M32]
  show own_GoW p e below s00 _ _ (T31.setTop (mkF m 66 #[.val (.ref jo), .val (.long nu), .second, .val (.int (0 : Int32)), .val (.ref sh), .val .null, .val (.ref pr), .val (.ref u), .val (.ref u)] [(.int (0 : Int32)), (.ref jo)]))
  refine own_byW (fun tz kz => XS.ifNo X31.here hx rfl (hb hby d2_66) rfl ((if0 _ _).trans (teq (by decide : (0 : Int32) = (0 : Int32))).2) kz) ?_
  show own_GoW p e below s00 _ _ (T31.setTop (mkF m 69 #[.val (.ref jo), .val (.long nu), .second, .val (.int (0 : Int32)), .val (.ref sh), .val .null, .val (.ref pr), .val (.ref u), .val (.ref u)] [(.ref jo)]))
  obtain ⟨T34, X34, e34, st34⟩ := getS2 X31 hx hZ hown (host := "") (Or.inl (hw _ (List.mem_of_getElem? (i := 38) rfl))) Via.refl e31 (S_em.ext O31.2) (g := (mkF m 69 #[.val (.ref jo), .val (.long nu), .second, .val (.int (0 : Int32)), .val (.ref sh), .val .null, .val (.ref pr), .val (.ref u), .val (.ref u)] [(.ref jo)])) rfl (hb hby d2_69)
  refine own_byW st34 ?_
  show own_GoW p e below s00 _ _ (T34.setTop (mkF m 72 #[.val (.ref jo), .val (.long nu), .second, .val (.int (0 : Int32)), .val (.ref sh), .val .null, .val (.ref pr), .val (.ref u), .val (.ref u)] [(.ref em), (.ref jo)]))
  refine own_byW (fun tz kz => XS.goto X34.here hx rfl (pc0 := 72) (pc' := 77) rfl (hb hby d2_72) (by decide) (by decide) kz) ?_
  show own_GoW p e below s00 _ _ (T34.setTop (mkF m 77 #[.val (.ref jo), .val (.long nu), .second, .val (.int (0 : Int32)), .val (.ref sh), .val .null, .val (.ref pr), .val (.ref u), .val (.ref u)] [(.ref em), (.ref jo)]))
  have f35 := ((((((((((F_data.ext E2).other W5 (Or.inr (slot_ne (Or.inr (hw _ (List.mem_of_getElem? (i := 43) rfl))) (Or.inl (hw _ (List.mem_of_getElem? (i := 25) rfl))) (by decide) (t := (.array .byte)) (t' := (.object "java/lang/String")) (by decide) (by decide)))).ext E6).other W10 (Or.inr (slot_ne (Or.inr (hw _ (List.mem_of_getElem? (i := 43) rfl))) (Or.inl (hw _ (List.mem_of_getElem? (i := 27) rfl))) (by decide) (t := (.array .byte)) (t' := (.object "java/lang/String")) (by decide) (by decide)))).other W13 (Or.inr (slot_ne (Or.inr (hw _ (List.mem_of_getElem? (i := 43) rfl))) (Or.inr (hw _ (List.mem_of_getElem? (i := 29) rfl))) (by decide) (t := (.array .byte)) (t' := .long) (by decide) (by decide)))).other W16 (Or.inr (slot_ne (Or.inr (hw _ (List.mem_of_getElem? (i := 43) rfl))) (Or.inr (hw _ (List.mem_of_getElem? (i := 31) rfl))) (by decide) (t := (.array .byte)) (t' := .boolean) (by decide) (by decide)))).other W19 (Or.inr (slot_ne (Or.inr (hw _ (List.mem_of_getElem? (i := 43) rfl))) (Or.inr (hw _ (List.mem_of_getElem? (i := 33) rfl))) (by decide) (t := (.array .byte)) (t' := (.object "java/lang/String")) (by decide) (by decide)))).other W22 (Or.inr (slot_ne (Or.inr (hw _ (List.mem_of_getElem? (i := 43) rfl))) (Or.inr (hw _ (List.mem_of_getElem? (i := 35) rfl))) (by decide) (t := (.array .byte)) (t' := (.object "com/example/ajenda/ajenda/core/FunctionQueue")) (by decide) (by decide)))).other W25 (Or.inr (slot_ne (Or.inr (hw _ (List.mem_of_getElem? (i := 43) rfl))) (Or.inr (hw _ (List.mem_of_getElem? (i := 37) rfl))) (by decide) (t := (.array .byte)) (t' := (.object "com/example/ajenda/ajenda/core/Priority")) (by decide) (by decide)))).other W31 (Or.inr (slot_ne (Or.inr (hw _ (List.mem_of_getElem? (i := 43) rfl))) (Or.inr (hw _ (List.mem_of_getElem? (i := 41) rfl))) (by decide) (t := (.array .byte)) (t' := (.array .byte)) (by decide) (by decide))))
  have f36 := (f30.wr W31)
  obtain ⟨T37, h37, X37, e37, W37, st37⟩ := putF X34 hx hZ hown (host := "") (Or.inl (hw _ (List.mem_of_getElem? (i := 42) rfl))) Via.refl e34 f35 f36 (Or.inr ⟨(hw _ (List.mem_of_getElem? (i := 43) rfl)), rfl, hnm⟩) (hw _ (List.mem_of_getElem? (i := 16) rfl)) (ty := (.array .byte)) (by decide) rfl rfl (g := (mkF m 77 #[.val (.ref jo), .val (.long nu), .second, .val (.int (0 : Int32)), .val (.ref sh), .val .null, .val (.ref pr), .val (.ref u), .val (.ref u)] [(.ref em), (.ref jo)])) rfl rfl (hb hby d2_77)
  have Fw37 := f35.same W37
  have O37 := O31.wr W37 g_jo
  have N37 := Fr.snoc X37 N31 g_jo
  have K37 := K31.wr W37 (Or.inl (List.mem_of_getElem? (i := 0) rfl))
  refine own_byW st37 ?_
  show own_GoW p e below s00 _ _ (T37.setTop (mkF m 80 #[.val (.ref jo), .val (.long nu), .second, .val (.int (0 : Int32)), .val (.ref sh), .val .null, .val (.ref pr), .val (.ref u), .val (.ref u)] []))
  have f38 := ((((((Fw13.other W16 (Or.inr (slot_ne (Or.inr (hw _ (List.mem_of_getElem? (i := 29) rfl))) (Or.inr (hw _ (List.mem_of_getElem? (i := 31) rfl))) (by decide) (t := .long) (t' := .boolean) (by decide) (by decide)))).other W19 (Or.inr (slot_ne (Or.inr (hw _ (List.mem_of_getElem? (i := 29) rfl))) (Or.inr (hw _ (List.mem_of_getElem? (i := 33) rfl))) (by decide) (t := .long) (t' := (.object "java/lang/String")) (by decide) (by decide)))).other W22 (Or.inr (slot_ne (Or.inr (hw _ (List.mem_of_getElem? (i := 29) rfl))) (Or.inr (hw _ (List.mem_of_getElem? (i := 35) rfl))) (by decide) (t := .long) (t' := (.object "com/example/ajenda/ajenda/core/FunctionQueue")) (by decide) (by decide)))).other W25 (Or.inr (slot_ne (Or.inr (hw _ (List.mem_of_getElem? (i := 29) rfl))) (Or.inr (hw _ (List.mem_of_getElem? (i := 37) rfl))) (by decide) (t := .long) (t' := (.object "com/example/ajenda/ajenda/core/Priority")) (by decide) (by decide)))).other W31 (Or.inr (slot_ne (Or.inr (hw _ (List.mem_of_getElem? (i := 29) rfl))) (Or.inr (hw _ (List.mem_of_getElem? (i := 41) rfl))) (by decide) (t := .long) (t' := (.array .byte)) (by decide) (by decide)))).other W37 (Or.inr (slot_ne (Or.inr (hw _ (List.mem_of_getElem? (i := 29) rfl))) (Or.inr (hw _ (List.mem_of_getElem? (i := 43) rfl))) (by decide) (t := .long) (t' := (.array .byte)) (by decide) (by decide))))
  have A39 := (own_At.up (own_At.up (own_At.up (own_At.up (own_At.up (own_At.up (own_At.up (own_At.up A6 (Nat.le_of_eq W10.size.symm)) (Nat.le_of_eq W13.size.symm)) (Nat.le_of_eq W16.size.symm)) (Nat.le_of_eq W19.size.symm)) (Nat.le_of_eq W22.size.symm)) (Nat.le_of_eq W25.size.symm)) (Nat.le_of_eq W31.size.symm)) (Nat.le_of_eq W37.size.symm))
  refine own_retVW X37 e37 A39 hx hlk hret (hb hby d2_80) ?_ (by decide) (by decide)
  exact ⟨rfl, N37, by rw [e37]; exact K37, by rw [e37]; exact f38⟩
def Q_rm_made (Z : State) (nu : Int64) (sh pr u : Addr) (ku : ClassId) (em : Addr) (h0 : Heap) (n0 : Nat) (v : Option Value) (h : Heap) (L : List Loc) : Prop := ∃ b, v = some (.ref b) ∧ Fr n0 L ∧ h0.size ≤ b ∧ Keep h0 h [] ∧ Exa Z h b "com/example/ajenda/ajenda/core/Job" ∧ Fld Z h b "com/example/ajenda/ajenda/core/Job" "number" "J" (.long nu)
set_option maxRecDepth 65536 in
set_option maxHeartbeats 40000000 in
theorem rm_made (l : Launch) (Z : State) (a0 : Array Value) (hw : ∀ d ∈ tables_1, d.before a0 Z = true) (ws : List Jvm.Cond) (nu : Int64) (sh pr u : Addr) (ku : ClassId) (em : Addr) (h0 : Heap) (n0 : Nat) (O0 : Old Z n0 h0) (V_u : Arv Z h0 u ku .byte (0 : Int32) [] (.int (0 : Int32))) (S_em : Sta Z Z.heap "com/example/ajenda/ajenda/core/Job" "EMPTY" "[B" (.ref em)) :
    MetFree l (⟨"com/example/ajenda/ajenda/core/Job", "made", "(JLjava/lang/String;Lcom/example/ajenda/ajenda/core/FunctionQueue;Lcom/example/ajenda/ajenda/core/Priority;[B[B)Lcom/example/ajenda/ajenda/core/Job;"⟩ : MethodName) (head1 (Jvm.Cond.code (⟨"com/example/ajenda/ajenda/core/Job", "made", "(JLjava/lang/String;Lcom/example/ajenda/ajenda/core/FunctionQueue;Lcom/example/ajenda/ajenda/core/Priority;[B[B)Lcom/example/ajenda/ajenda/core/Job;"⟩ : MethodName) prog_3_method_2_code 7 (some (.object "com/example/ajenda/ajenda/core/Job")) :: ws) ({ frames := 2, cells := 5, slots := 29, locals := 33 } : Room)) (fun ar U => ar = #[(.long nu), (.ref sh), .null, (.ref pr), (.ref u), (.ref u)] ∧ Z.Warmed39 U.vm ∧ U.heap = h0) (fun _ _ _ _ _ => True) (fun _ U o U' => ∃ v L, o = .returned v ∧ Q_rm_made Z nu sh pr u ku em h0 n0 v U'.heap L ∧ ReturnedEndW U o U' L ({ frames := 2, cells := 5, slots := 29, locals := 33 } : Room).cells ({ frames := 2, cells := 5, slots := 29, locals := 33 } : Room).slots) := by
  refine own_enterW (Q := (Q_rm_made Z nu sh pr u ku em h0 n0)) pl_1 ?_
  intro p e s00 m below meth c s₁ X0 hx hZ hby hml hown hnm hret hlk e0 hnamed
  obtain ⟨s, A0, hZ, hown, X0⟩ := own_first h0 X0 hZ hown
  have N0 := Fr.nil n0
  refine own_byW (fun tz kz => castTop (g' := (mkF m 0 #[.val (.long nu), .second, .val (.ref sh), .val .null, .val (.ref pr), .val (.ref u), .val (.ref u)] [])) (by first | (simp [entryFrame, mkF, argsToLocals, Value.category]; done) | rfl) kz) ?_
  have K0 := Keep.refl h0 []
  show own_GoW p e below s00 _ _ (s₁.setTop (mkF m 0 #[.val (.long nu), .second, .val (.ref sh), .val .null, .val (.ref pr), .val (.ref u), .val (.ref u)] []))
  obtain ⟨T1, h1, X1, e1, E1, A1, D1, -, st1⟩ := newO X0 hx hZ hown (hw _ (List.mem_of_getElem? (i := 15) rfl)) (hw _ (List.mem_of_getElem? (i := 16) rfl)) (hw _ (List.mem_of_getElem? (i := 13) rfl)) e0 (g := (mkF m 0 #[.val (.long nu), .second, .val (.ref sh), .val .null, .val (.ref pr), .val (.ref u), .val (.ref u)] [])) rfl (hb hby d1_0) (by decide) (by decide)
  obtain ⟨b1, g1⟩ : ∃ z, z = h0.size := ⟨_, rfl⟩
  have ne_u_b1 : u ≠ b1 := by rw [g1]; exact Nat.ne_of_lt (Arv.lt V_u)
  rw [← g1] at A1 D1 st1
  have g_b1 : n0 ≤ b1 := by rw [g1]; exact O0.1 ▸ O0.2.1
  have sz_b1 : h0.size ≤ b1 := by rw [g1]; exact K0.1
  have O1 := O0.ext E1
  have K1 := K0.ext E1
  refine own_byW st1 ?_
  have F1_numerator : Fld Z h1 b1 "com/example/ajenda/ajenda/core/Job" "numerator" "Ljava/lang/String;" .null := D1 (Or.inl (hw _ (List.mem_of_getElem? (i := 25) rfl))) (ty := (.object "java/lang/String")) (by decide)
  have F1_denominator : Fld Z h1 b1 "com/example/ajenda/ajenda/core/Job" "denominator" "Ljava/lang/String;" .null := D1 (Or.inl (hw _ (List.mem_of_getElem? (i := 27) rfl))) (ty := (.object "java/lang/String")) (by decide)
  have F1_number : Fld Z h1 b1 "com/example/ajenda/ajenda/core/Job" "number" "J" (.long (0 : Int64)) := D1 (Or.inr (hw _ (List.mem_of_getElem? (i := 29) rfl))) (ty := .long) (by decide)
  have F1_restored : Fld Z h1 b1 "com/example/ajenda/ajenda/core/Job" "restored" "Z" (.int (0 : Int32)) := D1 (Or.inr (hw _ (List.mem_of_getElem? (i := 31) rfl))) (ty := .boolean) (by decide)
  have F1_handleStart : Fld Z h1 b1 "com/example/ajenda/ajenda/core/Job" "handleStart" "Ljava/lang/String;" .null := D1 (Or.inr (hw _ (List.mem_of_getElem? (i := 33) rfl))) (ty := (.object "java/lang/String")) (by decide)
  have F1_queue : Fld Z h1 b1 "com/example/ajenda/ajenda/core/Job" "queue" "Lcom/example/ajenda/ajenda/core/FunctionQueue;" .null := D1 (Or.inr (hw _ (List.mem_of_getElem? (i := 35) rfl))) (ty := (.object "com/example/ajenda/ajenda/core/FunctionQueue")) (by decide)
  have F1_priority : Fld Z h1 b1 "com/example/ajenda/ajenda/core/Job" "priority" "Lcom/example/ajenda/ajenda/core/Priority;" .null := D1 (Or.inr (hw _ (List.mem_of_getElem? (i := 37) rfl))) (ty := (.object "com/example/ajenda/ajenda/core/Priority")) (by decide)
  have F1_uniqueId : Fld Z h1 b1 "com/example/ajenda/ajenda/core/Job" "uniqueId" "[B" .null := D1 (Or.inr (hw _ (List.mem_of_getElem? (i := 41) rfl))) (ty := (.array .byte)) (by decide)
  have F1_data : Fld Z h1 b1 "com/example/ajenda/ajenda/core/Job" "data" "[B" .null := D1 (Or.inr (hw _ (List.mem_of_getElem? (i := 43) rfl))) (ty := (.array .byte)) (by decide)
  show own_GoW p e below s00 _ _ (T1.setTop (mkF m 3 #[.val (.long nu), .second, .val (.ref sh), .val .null, .val (.ref pr), .val (.ref u), .val (.ref u)] [(.ref b1)]))
  refine own_byW (fun tz kz => XS.dup X1.here hx rfl (hb hby d1_3) rfl rfl kz) ?_
  show own_GoW p e below s00 _ _ (T1.setTop (mkF m 4 #[.val (.long nu), .second, .val (.ref sh), .val .null, .val (.ref pr), .val (.ref u), .val (.ref u)] [(.ref b1), (.ref b1)]))
  refine own_byW (fun tz kz => XS.lloadN X1.here hx rfl (hb hby d1_4) rfl kz) ?_
  show own_GoW p e below s00 _ _ (T1.setTop (mkF m 5 #[.val (.long nu), .second, .val (.ref sh), .val .null, .val (.ref pr), .val (.ref u), .val (.ref u)] [(.long nu), (.ref b1), (.ref b1)]))
  refine own_byW (fun tz kz => XS.iconst X1.here hx rfl (hb hby d1_5) kz) ?_
  show own_GoW p e below s00 _ _ (T1.setTop (mkF m 6 #[.val (.long nu), .second, .val (.ref sh), .val .null, .val (.ref pr), .val (.ref u), .val (.ref u)] [(.int (0 : Int32)), (.long nu), (.ref b1), (.ref b1)]))
  refine own_byW (fun tz kz => XS.aloadN X1.here hx rfl (hb hby d1_6) rfl rfl kz) ?_
  show own_GoW p e below s00 _ _ (T1.setTop (mkF m 7 #[.val (.long nu), .second, .val (.ref sh), .val .null, .val (.ref pr), .val (.ref u), .val (.ref u)] [(.ref sh), (.int (0 : Int32)), (.long nu), (.ref b1), (.ref b1)]))
  refine own_byW (fun tz kz => XS.aloadN X1.here hx rfl (hb hby d1_7) rfl rfl kz) ?_
  show own_GoW p e below s00 _ _ (T1.setTop (mkF m 8 #[.val (.long nu), .second, .val (.ref sh), .val .null, .val (.ref pr), .val (.ref u), .val (.ref u)] [.null, (.ref sh), (.int (0 : Int32)), (.long nu), (.ref b1), (.ref b1)]))
  refine own_byW (fun tz kz => XS.aload X1.here hx rfl (hb hby d1_8) rfl rfl kz) ?_
  show own_GoW p e below s00 _ _ (T1.setTop (mkF m 10 #[.val (.long nu), .second, .val (.ref sh), .val .null, .val (.ref pr), .val (.ref u), .val (.ref u)] [(.ref pr), .null, (.ref sh), (.int (0 : Int32)), (.long nu), (.ref b1), (.ref b1)]))
  refine own_byW (fun tz kz => XS.aload X1.here hx rfl (hb hby d1_10) rfl rfl kz) ?_
  show own_GoW p e below s00 _ _ (T1.setTop (mkF m 12 #[.val (.long nu), .second, .val (.ref sh), .val .null, .val (.ref pr), .val (.ref u), .val (.ref u)] [(.ref u), (.ref pr), .null, (.ref sh), (.int (0 : Int32)), (.long nu), (.ref b1), (.ref b1)]))
  refine own_byW (fun tz kz => XS.aload X1.here hx rfl (hb hby d1_12) rfl rfl kz) ?_
  show own_GoW p e below s00 _ _ (T1.setTop (mkF m 14 #[.val (.long nu), .second, .val (.ref sh), .val .null, .val (.ref pr), .val (.ref u), .val (.ref u)] [(.ref u), (.ref u), (.ref pr), .null, (.ref sh), (.int (0 : Int32)), (.long nu), (.ref b1), (.ref b1)]))
  have f2 := (Arv.ext V_u E1)
  have A4 := (own_At.up A0 E1.1)
  obtain ⟨_, _, ⟨T3, L3, k3, n3⟩, -, X3, hS3, hgr3, ⟨Lc3, hQ3, l3, y3, z3⟩, st3⟩ := X1.specialBackS hx (y := (⟨"com/example/ajenda/ajenda/core/Job", "<init>", "(JZLjava/lang/String;Lcom/example/ajenda/ajenda/core/FunctionQueue;Lcom/example/ajenda/ajenda/core/Priority;[B[B)V"⟩ : MethodName)) rfl hown (mvT hZ (hw _ (List.mem_of_getElem? (i := 17) rfl))) (mvT hZ (hw _ (List.mem_of_getElem? (i := 18) rfl))) (mvT hZ (hw _ (List.mem_of_getElem? (i := 19) rfl))) (by decide) (backOfS (W := 1) (rm_Ji l Z a0 hw [] b1 nu sh pr u ku em h1 n0 O1 A1 F1_numerator F1_denominator F1_number F1_restored F1_handleStart F1_queue F1_priority F1_uniqueId F1_data f2 ne_u_b1 S_em g_b1) hZ (hw _ (List.mem_of_getElem? (i := 19) rfl)) (hw _ (List.mem_of_getElem? (i := 13) rfl)) (by decide) (by decide)) (g := (mkF m 14 #[.val (.long nu), .second, .val (.ref sh), .val .null, .val (.ref pr), .val (.ref u), .val (.ref u)] [(.ref u), (.ref u), (.ref pr), .null, (.ref sh), (.int (0 : Int32)), (.long nu), (.ref b1), (.ref b1)])) rfl (by rw [hml]; rfl) (Steps.refl _) (a := b1) (argsL := [(.long nu), (.int (0 : Int32)), (.ref sh), .null, (.ref pr), (.ref u), (.ref u)]) (rest := [(.ref b1)]) (lenOf pd_1 rfl) rfl (by show 2 * 0 + _ ≤ _; exact Nat.le_of_eq rfl) (hb hby d1_14) (fun _ _ => ⟨rfl, e1, (by decide : 1 + 4 ≤ _), (by decide : 13 + 16 ≤ _)⟩)
  dsimp only [Pt.U, Pt.locs, Pt.cells, Pt.slots] at X3 l3 y3 z3 st3 hQ3
  rw [l3, y3, z3] at X3
  obtain ⟨s, A3, hZ, hown, X3⟩ := own_next X3 hS3 hgr3 e1 A4 hZ hown
  obtain ⟨rfl, Nq3, Kq3, Fq3⟩ := hQ3
  have N3 := Fr.app N0 Nq3
  have e3 : T3.heap = T3.heap := rfl
  refine own_viaW st3 ?_
  have O3 := O1.keep Kq3 (allS g_b1 all0)
  have K3 := K1.trans Kq3 (allS (Or.inr sz_b1) all0)
  show own_GoW p e below s00 _ _ (T3.setTop (mkF m 17 #[.val (.long nu), .second, .val (.ref sh), .val .null, .val (.ref pr), .val (.ref u), .val (.ref u)] [(.ref b1)]))
  have f5 := (A1.keep Kq3)
  refine own_retAW X3 e3 A3 hx hlk (t := (.object "com/example/ajenda/ajenda/core/Job")) hret rfl rfl (hb hby d1_17) ?_ (by decide) (by decide)
  exact ⟨b1, rfl, N3, sz_b1, by rw [e3]; exact K3, by rw [e3]; exact f5, by rw [e3]; exact Fq3⟩
def Q_rm0 (n0 : Nat) (v : Option Value) (h : Heap) (L : List Loc) : Prop := v = some (.int (1 : Int32)) ∧ Fr n0 L
set_option maxRecDepth 65536 in
set_option maxHeartbeats 40000000 in
theorem rm0 (l : Launch) (Z : State) (a0 : Array Value) (hw : ∀ d ∈ tables_1, d.before a0 Z = true) (ws : List Jvm.Cond) (na nb nc nq : Int64) (fl : Int32) (em hi no lo : Addr) (h0 : Heap) (n0 : Nat) (O0 : Old Z n0 h0) (S_em : Sta Z Z.heap "com/example/ajenda/ajenda/core/Job" "EMPTY" "[B" (.ref em)) (S_hi : Sta Z Z.heap "com/example/ajenda/ajenda/core/Priority" "HIGH" "Lcom/example/ajenda/ajenda/core/Priority;" (.ref hi)) (S_no : Sta Z Z.heap "com/example/ajenda/ajenda/core/Priority" "NORMAL" "Lcom/example/ajenda/ajenda/core/Priority;" (.ref no)) (S_lo : Sta Z Z.heap "com/example/ajenda/ajenda/core/Priority" "LOW" "Lcom/example/ajenda/ajenda/core/Priority;" (.ref lo)) :
    MetFree l x (head1 (Jvm.Cond.code x code maxLocals ret :: ws) room_1) (fun ar U => ar = #[(.long na), (.long nb), (.long nc), (.long nq), (.int fl)] ∧ Z.Warmed39 U.vm ∧ U.heap = h0) (fun _ _ _ _ _ => True) (fun _ U o U' => ∃ v L, o = .returned v ∧ Q_rm0 n0 v U'.heap L ∧ ReturnedEndW U o U' L room_1.cells room_1.slots) := by
  refine own_enterW (Q := (Q_rm0 n0)) pl_0 ?_
  intro p e s00 m below meth c s₁ X0 hx hZ hby hml hown hnm hret hlk e0 hnamed
  obtain ⟨s, A0, hZ, hown, X0⟩ := own_first h0 X0 hZ hown
  have N0 := Fr.nil n0
  refine own_byW (fun tz kz => castTop (g' := (mkF m 0 #[.val (.long na), .second, .val (.long nb), .second, .val (.long nc), .second, .val (.long nq), .second, .val (.int fl), .unset, .unset, .unset, .unset, .unset, .unset, .unset, .unset, .unset, .unset] [])) (by first | (simp [entryFrame, mkF, argsToLocals, Value.category, maxLocals]; done) | rfl) kz) ?_
  have K0 := Keep.refl h0 []
  obtain ⟨cnt, hcnt⟩ : ∃ z, z = (fl &&& (3 : Int32)) := ⟨_, rfl⟩
  show own_GoW p e below s00 _ _ (s₁.setTop (mkF m 0 #[.val (.long na), .second, .val (.long nb), .second, .val (.long nc), .second, .val (.long nq), .second, .val (.int fl), .unset, .unset, .unset, .unset, .unset, .unset, .unset, .unset, .unset, .unset] []))
  refine own_byW (fun tz kz => XS.lloadN X0.here hx rfl (hb hby at_0) rfl kz) ?_
  show own_GoW p e below s00 _ _ (s₁.setTop (mkF m 1 #[.val (.long na), .second, .val (.long nb), .second, .val (.long nc), .second, .val (.long nq), .second, .val (.int fl), .unset, .unset, .unset, .unset, .unset, .unset, .unset, .unset, .unset, .unset] [(.long na)]))
  refine own_byW (fun tz kz => XS.lloadN X0.here hx rfl (hb hby at_1) rfl kz) ?_
  show own_GoW p e below s00 _ _ (s₁.setTop (mkF m 2 #[.val (.long na), .second, .val (.long nb), .second, .val (.long nc), .second, .val (.long nq), .second, .val (.int fl), .unset, .unset, .unset, .unset, .unset, .unset, .unset, .unset, .unset, .unset] [(.long nb), (.long na)]))
  refine own_byW (fun tz kz => XS.lcmp X0.here hx rfl (hb hby at_2) rfl kz) ?_
  show own_GoW p e below s00 _ _ (s₁.setTop (mkF m 3 #[.val (.long na), .second, .val (.long nb), .second, .val (.long nc), .second, .val (.long nq), .second, .val (.int fl), .unset, .unset, .unset, .unset, .unset, .unset, .unset, .unset, .unset, .unset] [(.int (lcmpW na nb))]))
  by_cases hc3_1 : na = nb
  · refine own_byW (fun tz kz => XS.ifYes X0.here hx rfl (pc0 := 3) (pc' := 20) rfl (hb hby at_3) rfl ((if0 _ _).trans (teq ((lw_eq na nb).mpr hc3_1)).1) (by decide) (by decide) kz) ?_
    show own_GoW p e below s00 _ _ (s₁.setTop (mkF m 20 #[.val (.long na), .second, .val (.long nb), .second, .val (.long nc), .second, .val (.long nq), .second, .val (.int fl), .unset, .unset, .unset, .unset, .unset, .unset, .unset, .unset, .unset, .unset] []))
    refine own_byW (fun tz kz => XS.iconst X0.here hx rfl (hb hby at_20) kz) ?_
    show own_GoW p e below s00 _ _ (s₁.setTop (mkF m 21 #[.val (.long na), .second, .val (.long nb), .second, .val (.long nc), .second, .val (.long nq), .second, .val (.int fl), .unset, .unset, .unset, .unset, .unset, .unset, .unset, .unset, .unset, .unset] [(.int (1 : Int32))]))
    refine own_retIW X0 e0 A0 hx hlk (t := .boolean) hret (by simp) rfl (hb hby at_21) ?_ (by decide) (by decide)
    exact ⟨rfl, N0⟩
  · refine own_byW (fun tz kz => XS.ifNo X0.here hx rfl (hb hby at_3) rfl ((if0 _ _).trans (feq (fun q => hc3_1 ((lw_eq na nb).mp q))).1) kz) ?_
    show own_GoW p e below s00 _ _ (s₁.setTop (mkF m 6 #[.val (.long na), .second, .val (.long nb), .second, .val (.long nc), .second, .val (.long nq), .second, .val (.int fl), .unset, .unset, .unset, .unset, .unset, .unset, .unset, .unset, .unset, .unset] []))
    refine own_byW (fun tz kz => XS.lloadN X0.here hx rfl (hb hby at_6) rfl kz) ?_
    show own_GoW p e below s00 _ _ (s₁.setTop (mkF m 7 #[.val (.long na), .second, .val (.long nb), .second, .val (.long nc), .second, .val (.long nq), .second, .val (.int fl), .unset, .unset, .unset, .unset, .unset, .unset, .unset, .unset, .unset, .unset] [(.long na)]))
    refine own_byW (fun tz kz => XS.lload X0.here hx rfl (hb hby at_7) rfl kz) ?_
    show own_GoW p e below s00 _ _ (s₁.setTop (mkF m 9 #[.val (.long na), .second, .val (.long nb), .second, .val (.long nc), .second, .val (.long nq), .second, .val (.int fl), .unset, .unset, .unset, .unset, .unset, .unset, .unset, .unset, .unset, .unset] [(.long nc), (.long na)]))
    refine own_byW (fun tz kz => XS.lcmp X0.here hx rfl (hb hby at_9) rfl kz) ?_
    show own_GoW p e below s00 _ _ (s₁.setTop (mkF m 10 #[.val (.long na), .second, .val (.long nb), .second, .val (.long nc), .second, .val (.long nq), .second, .val (.int fl), .unset, .unset, .unset, .unset, .unset, .unset, .unset, .unset, .unset, .unset] [(.int (lcmpW na nc))]))
    by_cases hc10_2 : na = nc
    · refine own_byW (fun tz kz => XS.ifYes X0.here hx rfl (pc0 := 10) (pc' := 20) rfl (hb hby at_10) rfl ((if0 _ _).trans (teq ((lw_eq na nc).mpr hc10_2)).1) (by decide) (by decide) kz) ?_
      show own_GoW p e below s00 _ _ (s₁.setTop (mkF m 20 #[.val (.long na), .second, .val (.long nb), .second, .val (.long nc), .second, .val (.long nq), .second, .val (.int fl), .unset, .unset, .unset, .unset, .unset, .unset, .unset, .unset, .unset, .unset] []))
      refine own_byW (fun tz kz => XS.iconst X0.here hx rfl (hb hby at_20) kz) ?_
      show own_GoW p e below s00 _ _ (s₁.setTop (mkF m 21 #[.val (.long na), .second, .val (.long nb), .second, .val (.long nc), .second, .val (.long nq), .second, .val (.int fl), .unset, .unset, .unset, .unset, .unset, .unset, .unset, .unset, .unset, .unset] [(.int (1 : Int32))]))
      refine own_retIW X0 e0 A0 hx hlk (t := .boolean) hret (by simp) rfl (hb hby at_21) ?_ (by decide) (by decide)
      exact ⟨rfl, N0⟩
    · refine own_byW (fun tz kz => XS.ifNo X0.here hx rfl (hb hby at_10) rfl ((if0 _ _).trans (feq (fun q => hc10_2 ((lw_eq na nc).mp q))).1) kz) ?_
      show own_GoW p e below s00 _ _ (s₁.setTop (mkF m 13 #[.val (.long na), .second, .val (.long nb), .second, .val (.long nc), .second, .val (.long nq), .second, .val (.int fl), .unset, .unset, .unset, .unset, .unset, .unset, .unset, .unset, .unset, .unset] []))
      refine own_byW (fun tz kz => XS.lloadN X0.here hx rfl (hb hby at_13) rfl kz) ?_
      show own_GoW p e below s00 _ _ (s₁.setTop (mkF m 14 #[.val (.long na), .second, .val (.long nb), .second, .val (.long nc), .second, .val (.long nq), .second, .val (.int fl), .unset, .unset, .unset, .unset, .unset, .unset, .unset, .unset, .unset, .unset] [(.long nb)]))
      refine own_byW (fun tz kz => XS.lload X0.here hx rfl (hb hby at_14) rfl kz) ?_
      show own_GoW p e below s00 _ _ (s₁.setTop (mkF m 16 #[.val (.long na), .second, .val (.long nb), .second, .val (.long nc), .second, .val (.long nq), .second, .val (.int fl), .unset, .unset, .unset, .unset, .unset, .unset, .unset, .unset, .unset, .unset] [(.long nc), (.long nb)]))
      refine own_byW (fun tz kz => XS.lcmp X0.here hx rfl (hb hby at_16) rfl kz) ?_
      show own_GoW p e below s00 _ _ (s₁.setTop (mkF m 17 #[.val (.long na), .second, .val (.long nb), .second, .val (.long nc), .second, .val (.long nq), .second, .val (.int fl), .unset, .unset, .unset, .unset, .unset, .unset, .unset, .unset, .unset, .unset] [(.int (lcmpW nb nc))]))
      by_cases hc17_3 : nb = nc
      · refine own_byW (fun tz kz => XS.ifNo X0.here hx rfl (hb hby at_17) rfl ((if0 _ _).trans (teq ((lw_eq nb nc).mpr hc17_3)).2) kz) ?_
        show own_GoW p e below s00 _ _ (s₁.setTop (mkF m 20 #[.val (.long na), .second, .val (.long nb), .second, .val (.long nc), .second, .val (.long nq), .second, .val (.int fl), .unset, .unset, .unset, .unset, .unset, .unset, .unset, .unset, .unset, .unset] []))
        refine own_byW (fun tz kz => XS.iconst X0.here hx rfl (hb hby at_20) kz) ?_
        show own_GoW p e below s00 _ _ (s₁.setTop (mkF m 21 #[.val (.long na), .second, .val (.long nb), .second, .val (.long nc), .second, .val (.long nq), .second, .val (.int fl), .unset, .unset, .unset, .unset, .unset, .unset, .unset, .unset, .unset, .unset] [(.int (1 : Int32))]))
        refine own_retIW X0 e0 A0 hx hlk (t := .boolean) hret (by simp) rfl (hb hby at_21) ?_ (by decide) (by decide)
        exact ⟨rfl, N0⟩
      · refine own_byW (fun tz kz => XS.ifYes X0.here hx rfl (pc0 := 17) (pc' := 22) rfl (hb hby at_17) rfl ((if0 _ _).trans (feq (fun q => hc17_3 ((lw_eq nb nc).mp q))).2) (by decide) (by decide) kz) ?_
        show own_GoW p e below s00 _ _ (s₁.setTop (mkF m 22 #[.val (.long na), .second, .val (.long nb), .second, .val (.long nc), .second, .val (.long nq), .second, .val (.int fl), .unset, .unset, .unset, .unset, .unset, .unset, .unset, .unset, .unset, .unset] []))
        refine own_byW (fun tz kz => XS.iload X0.here hx rfl (hb hby at_22) rfl  kz) ?_
        show own_GoW p e below s00 _ _ (s₁.setTop (mkF m 24 #[.val (.long na), .second, .val (.long nb), .second, .val (.long nc), .second, .val (.long nq), .second, .val (.int fl), .unset, .unset, .unset, .unset, .unset, .unset, .unset, .unset, .unset, .unset] [(.int fl)]))
        refine own_byW (fun tz kz => XS.iconst X0.here hx rfl (hb hby at_24) kz) ?_
        show own_GoW p e below s00 _ _ (s₁.setTop (mkF m 25 #[.val (.long na), .second, .val (.long nb), .second, .val (.long nc), .second, .val (.long nq), .second, .val (.int fl), .unset, .unset, .unset, .unset, .unset, .unset, .unset, .unset, .unset, .unset] [(.int (3 : Int32)), (.int fl)]))
        refine own_byW (fun tz kz => XS.iand X0.here hx rfl (hb hby at_25) rfl kz) ?_
        show own_GoW p e below s00 _ _ (s₁.setTop (mkF m 26 #[.val (.long na), .second, .val (.long nb), .second, .val (.long nc), .second, .val (.long nq), .second, .val (.int fl), .unset, .unset, .unset, .unset, .unset, .unset, .unset, .unset, .unset, .unset] [(.int (fl &&& (3 : Int32)))]))
        refine own_byW (fun tz kz => XS.istore X0.here hx rfl (hb hby at_26) rfl (l' := #[.val (.long na), .second, .val (.long nb), .second, .val (.long nc), .second, .val (.long nq), .second, .val (.int fl), .val (.int (fl &&& (3 : Int32))), .unset, .unset, .unset, .unset, .unset, .unset, .unset, .unset, .unset]) rfl kz) ?_
        have hcases := own_cnt fl
        rw [← hcnt] at hcases
        rw [← hcnt]
        show own_GoW p e below s00 _ _ (s₁.setTop (mkF m 28 #[.val (.long na), .second, .val (.long nb), .second, .val (.long nc), .second, .val (.long nq), .second, .val (.int fl), .val (.int cnt), .unset, .unset, .unset, .unset, .unset, .unset, .unset, .unset, .unset] []))
        refine own_byW (fun tz kz => XS.iconst X0.here hx rfl (hb hby at_28) kz) ?_
        show own_GoW p e below s00 _ _ (s₁.setTop (mkF m 29 #[.val (.long na), .second, .val (.long nb), .second, .val (.long nc), .second, .val (.long nq), .second, .val (.int fl), .val (.int cnt), .unset, .unset, .unset, .unset, .unset, .unset, .unset, .unset, .unset] [(.int (0 : Int32))]))
        obtain ⟨T4, h4, k4, X4, e4, E4, A4, st4⟩ := newP X0 hx hZ (hw _ (List.mem_of_getElem? (i := 0) rfl)) e0 (g := (mkF m 29 #[.val (.long na), .second, .val (.long nb), .second, .val (.long nc), .second, .val (.long nq), .second, .val (.int fl), .val (.int cnt), .unset, .unset, .unset, .unset, .unset, .unset, .unset, .unset, .unset] [(.int (0 : Int32))])) rfl (hb hby at_29) rfl (by decide) (cap := 0) (by decide) (by decide) (by decide) (by decide)
        obtain ⟨b4, g4⟩ : ∃ z, z = h0.size := ⟨_, rfl⟩
        rw [← g4] at A4 st4
        have g_b4 : n0 ≤ b4 := by rw [g4]; exact O0.1 ▸ O0.2.1
        have sz_b4 : h0.size ≤ b4 := by rw [g4]; exact K0.1
        have O4 := O0.ext E4
        have K4 := K0.ext E4
        refine own_byW st4 ?_
        have V4 : Arv Z h4 b4 k4 .byte (0 : Int32) [] (.int (0 : Int32)) := (Arv.new A4 (by decide)).pad (pad_rep [] (.int (0 : Int32)) 0)
        show own_GoW p e below s00 _ _ (T4.setTop (mkF m 31 #[.val (.long na), .second, .val (.long nb), .second, .val (.long nc), .second, .val (.long nq), .second, .val (.int fl), .val (.int cnt), .unset, .unset, .unset, .unset, .unset, .unset, .unset, .unset, .unset] [(.ref b4)]))
        refine own_byW (fun tz kz => XS.astore X4.here hx rfl (hb hby at_31) rfl rfl (l' := #[.val (.long na), .second, .val (.long nb), .second, .val (.long nc), .second, .val (.long nq), .second, .val (.int fl), .val (.int cnt), .val (.ref b4), .unset, .unset, .unset, .unset, .unset, .unset, .unset, .unset]) rfl kz) ?_
        show own_GoW p e below s00 _ _ (T4.setTop (mkF m 33 #[.val (.long na), .second, .val (.long nb), .second, .val (.long nc), .second, .val (.long nq), .second, .val (.int fl), .val (.int cnt), .val (.ref b4), .unset, .unset, .unset, .unset, .unset, .unset, .unset, .unset] []))
        refine own_byW (fun tz kz => XS.lloadN X4.here hx rfl (hb hby at_33) rfl kz) ?_
        show own_GoW p e below s00 _ _ (T4.setTop (mkF m 34 #[.val (.long na), .second, .val (.long nb), .second, .val (.long nc), .second, .val (.long nq), .second, .val (.int fl), .val (.int cnt), .val (.ref b4), .unset, .unset, .unset, .unset, .unset, .unset, .unset, .unset] [(.long na)]))
        have A6 := (own_At.up A0 E4.1)
        obtain ⟨sa5, s, T5, h5, e5, E5, A5, hZ, hown, X5, st5⟩ := own_ldc X4 hx hZ hown (hw _ (List.mem_of_getElem? (i := 1) rfl)) (own_str hw) e4 A6 (g := (mkF m 34 #[.val (.long na), .second, .val (.long nb), .second, .val (.long nc), .second, .val (.long nq), .second, .val (.int fl), .val (.int cnt), .val (.ref b4), .unset, .unset, .unset, .unset, .unset, .unset, .unset, .unset] [(.long na)])) rfl (hb hby at_34) (n := 8) (by first | decide | decide +kernel) (by decide) (by decide) (by decide)
        refine own_byW st5 ?_
        have O5 := O4.ext E5
        have K5 := K4.ext E5
        show own_GoW p e below s00 _ _ (T5.setTop (mkF m 36 #[.val (.long na), .second, .val (.long nb), .second, .val (.long nc), .second, .val (.long nq), .second, .val (.int fl), .val (.int cnt), .val (.ref b4), .unset, .unset, .unset, .unset, .unset, .unset, .unset, .unset] [(.ref sa5), (.long na)]))
        refine own_byW (fun tz kz => XS.aconstNull X5.here hx rfl (hb hby at_36) kz) ?_
        show own_GoW p e below s00 _ _ (T5.setTop (mkF m 37 #[.val (.long na), .second, .val (.long nb), .second, .val (.long nc), .second, .val (.long nq), .second, .val (.int fl), .val (.int cnt), .val (.ref b4), .unset, .unset, .unset, .unset, .unset, .unset, .unset, .unset] [.null, (.ref sa5), (.long na)]))
        obtain ⟨T7, X7, e7, st7⟩ := getS2 X5 hx hZ hown (host := "") (Or.inl (hw _ (List.mem_of_getElem? (i := 8) rfl))) Via.refl e5 (S_hi.ext O5.2) (g := (mkF m 37 #[.val (.long na), .second, .val (.long nb), .second, .val (.long nc), .second, .val (.long nq), .second, .val (.int fl), .val (.int cnt), .val (.ref b4), .unset, .unset, .unset, .unset, .unset, .unset, .unset, .unset] [.null, (.ref sa5), (.long na)])) rfl (hb hby at_37)
        refine own_byW st7 ?_
        show own_GoW p e below s00 _ _ (T7.setTop (mkF m 40 #[.val (.long na), .second, .val (.long nb), .second, .val (.long nc), .second, .val (.long nq), .second, .val (.int fl), .val (.int cnt), .val (.ref b4), .unset, .unset, .unset, .unset, .unset, .unset, .unset, .unset] [(.ref hi), .null, (.ref sa5), (.long na)]))
        refine own_byW (fun tz kz => XS.aload X7.here hx rfl (hb hby at_40) rfl rfl kz) ?_
        show own_GoW p e below s00 _ _ (T7.setTop (mkF m 42 #[.val (.long na), .second, .val (.long nb), .second, .val (.long nc), .second, .val (.long nq), .second, .val (.int fl), .val (.int cnt), .val (.ref b4), .unset, .unset, .unset, .unset, .unset, .unset, .unset, .unset] [(.ref b4), (.ref hi), .null, (.ref sa5), (.long na)]))
        refine own_byW (fun tz kz => XS.aload X7.here hx rfl (hb hby at_42) rfl rfl kz) ?_
        show own_GoW p e below s00 _ _ (T7.setTop (mkF m 44 #[.val (.long na), .second, .val (.long nb), .second, .val (.long nc), .second, .val (.long nq), .second, .val (.int fl), .val (.int cnt), .val (.ref b4), .unset, .unset, .unset, .unset, .unset, .unset, .unset, .unset] [(.ref b4), (.ref b4), (.ref hi), .null, (.ref sa5), (.long na)]))
        have f8 := (Arv.ext V4 E5)
        obtain ⟨_, _, ⟨T9, L9, k9, n9⟩, -, X9, hS9, hgr9, ⟨Lc9, hQ9, l9, y9, z9⟩, st9⟩ := callSS X7 hx (y := (⟨"com/example/ajenda/ajenda/core/Job", "made", "(JLjava/lang/String;Lcom/example/ajenda/ajenda/core/FunctionQueue;Lcom/example/ajenda/ajenda/core/Priority;[B[B)Lcom/example/ajenda/ajenda/core/Job;"⟩ : MethodName)) hown (mvT hZ (hw _ (List.mem_of_getElem? (i := 11) rfl))) (mvT hZ (hw _ (List.mem_of_getElem? (i := 12) rfl))) (mvT hZ (hw _ (List.mem_of_getElem? (i := 13) rfl))) (mvT hZ (hw _ (List.mem_of_getElem? (i := 14) rfl))) (by decide) (backOfS (W := 0) (rm_made l Z a0 hw [] na sa5 hi b4 k4 em h5 n0 O5 f8 S_em) hZ (hw _ (List.mem_of_getElem? (i := 14) rfl)) (hw _ (List.mem_of_getElem? (i := 13) rfl)) (by decide) (by decide)) (g := (mkF m 44 #[.val (.long na), .second, .val (.long nb), .second, .val (.long nc), .second, .val (.long nq), .second, .val (.int fl), .val (.int cnt), .val (.ref b4), .unset, .unset, .unset, .unset, .unset, .unset, .unset, .unset] [(.ref b4), (.ref b4), (.ref hi), .null, (.ref sa5), (.long na)])) rfl (by rw [hml]; rfl) (argsL := [(.long na), (.ref sa5), .null, (.ref hi), (.ref b4), (.ref b4)]) (rest := []) (lenOf pd_0 rfl) rfl (by show 2 * 0 + _ ≤ _; exact Nat.le_of_eq rfl) (hb hby at_44) (fun _ _ => ⟨rfl, e7, (by decide : (1 + 2) + 5 ≤ _), (by decide : (8 + 4) + 29 ≤ _)⟩)
        dsimp only [Pt.U, Pt.locs, Pt.cells, Pt.slots] at X9 l9 y9 z9 st9 hQ9
        rw [l9, y9, z9] at X9
        obtain ⟨s, A9, hZ, hown, X9⟩ := own_next X9 hS9 hgr9 e7 A5 hZ hown
        obtain ⟨b9, rfl, Nq9, sz9, Kq9, Eq9, Fq9⟩ := hQ9
        have N9 := Fr.app N0 Nq9
        have e9 : T9.heap = T9.heap := rfl
        refine own_viaW st9 ?_
        have O9 := O5.keep Kq9 all0
        have K9 := K5.trans Kq9 all0
        have ne_b4_b9 : b4 ≠ b9 := Nat.ne_of_lt (Nat.lt_of_lt_of_le (Arv.lt f8) sz9)
        have sz_b9 : h0.size ≤ b9 := Nat.le_trans K5.1 sz9
        show own_GoW p e below s00 _ _ (T9.setTop (mkF m 47 #[.val (.long na), .second, .val (.long nb), .second, .val (.long nc), .second, .val (.long nq), .second, .val (.int fl), .val (.int cnt), .val (.ref b4), .unset, .unset, .unset, .unset, .unset, .unset, .unset, .unset] [(.ref b9)]))
        refine own_byW (fun tz kz => XS.astore X9.here hx rfl (hb hby at_47) rfl rfl (l' := #[.val (.long na), .second, .val (.long nb), .second, .val (.long nc), .second, .val (.long nq), .second, .val (.int fl), .val (.int cnt), .val (.ref b4), .val (.ref b9), .unset, .unset, .unset, .unset, .unset, .unset, .unset]) rfl kz) ?_
        show own_GoW p e below s00 _ _ (T9.setTop (mkF m 49 #[.val (.long na), .second, .val (.long nb), .second, .val (.long nc), .second, .val (.long nq), .second, .val (.int fl), .val (.int cnt), .val (.ref b4), .val (.ref b9), .unset, .unset, .unset, .unset, .unset, .unset, .unset] []))
        refine own_byW (fun tz kz => XS.lloadN X9.here hx rfl (hb hby at_49) rfl kz) ?_
        show own_GoW p e below s00 _ _ (T9.setTop (mkF m 50 #[.val (.long na), .second, .val (.long nb), .second, .val (.long nc), .second, .val (.long nq), .second, .val (.int fl), .val (.int cnt), .val (.ref b4), .val (.ref b9), .unset, .unset, .unset, .unset, .unset, .unset, .unset] [(.long nb)]))
        obtain ⟨sa10, s, T10, h10, e10, E10, A10, hZ, hown, X10, st10⟩ := own_ldc X9 hx hZ hown (hw _ (List.mem_of_getElem? (i := 1) rfl)) (own_str hw) e9 A9 (g := (mkF m 50 #[.val (.long na), .second, .val (.long nb), .second, .val (.long nc), .second, .val (.long nq), .second, .val (.int fl), .val (.int cnt), .val (.ref b4), .val (.ref b9), .unset, .unset, .unset, .unset, .unset, .unset, .unset] [(.long nb)])) rfl (hb hby at_50) (n := 8) (by first | decide | decide +kernel) (by decide) (by decide) (by decide)
        refine own_byW st10 ?_
        have O10 := O9.ext E10
        have K10 := K9.ext E10
        show own_GoW p e below s00 _ _ (T10.setTop (mkF m 52 #[.val (.long na), .second, .val (.long nb), .second, .val (.long nc), .second, .val (.long nq), .second, .val (.int fl), .val (.int cnt), .val (.ref b4), .val (.ref b9), .unset, .unset, .unset, .unset, .unset, .unset, .unset] [(.ref sa10), (.long nb)]))
        refine own_byW (fun tz kz => XS.aconstNull X10.here hx rfl (hb hby at_52) kz) ?_
        show own_GoW p e below s00 _ _ (T10.setTop (mkF m 53 #[.val (.long na), .second, .val (.long nb), .second, .val (.long nc), .second, .val (.long nq), .second, .val (.int fl), .val (.int cnt), .val (.ref b4), .val (.ref b9), .unset, .unset, .unset, .unset, .unset, .unset, .unset] [.null, (.ref sa10), (.long nb)]))
        obtain ⟨T11, X11, e11, st11⟩ := getS2 X10 hx hZ hown (host := "") (Or.inl (hw _ (List.mem_of_getElem? (i := 44) rfl))) Via.refl e10 (S_no.ext O10.2) (g := (mkF m 53 #[.val (.long na), .second, .val (.long nb), .second, .val (.long nc), .second, .val (.long nq), .second, .val (.int fl), .val (.int cnt), .val (.ref b4), .val (.ref b9), .unset, .unset, .unset, .unset, .unset, .unset, .unset] [.null, (.ref sa10), (.long nb)])) rfl (hb hby at_53)
        refine own_byW st11 ?_
        show own_GoW p e below s00 _ _ (T11.setTop (mkF m 56 #[.val (.long na), .second, .val (.long nb), .second, .val (.long nc), .second, .val (.long nq), .second, .val (.int fl), .val (.int cnt), .val (.ref b4), .val (.ref b9), .unset, .unset, .unset, .unset, .unset, .unset, .unset] [(.ref no), .null, (.ref sa10), (.long nb)]))
        refine own_byW (fun tz kz => XS.aload X11.here hx rfl (hb hby at_56) rfl rfl kz) ?_
        show own_GoW p e below s00 _ _ (T11.setTop (mkF m 58 #[.val (.long na), .second, .val (.long nb), .second, .val (.long nc), .second, .val (.long nq), .second, .val (.int fl), .val (.int cnt), .val (.ref b4), .val (.ref b9), .unset, .unset, .unset, .unset, .unset, .unset, .unset] [(.ref b4), (.ref no), .null, (.ref sa10), (.long nb)]))
        refine own_byW (fun tz kz => XS.aload X11.here hx rfl (hb hby at_58) rfl rfl kz) ?_
        show own_GoW p e below s00 _ _ (T11.setTop (mkF m 60 #[.val (.long na), .second, .val (.long nb), .second, .val (.long nc), .second, .val (.long nq), .second, .val (.int fl), .val (.int cnt), .val (.ref b4), .val (.ref b9), .unset, .unset, .unset, .unset, .unset, .unset, .unset] [(.ref b4), (.ref b4), (.ref no), .null, (.ref sa10), (.long nb)]))
        have f12 := (Arv.ext (f8.keep Kq9 nin0) E10)
        have f13 := (Eq9.ext E10)
        obtain ⟨_, _, ⟨T14, L14, k14, n14⟩, -, X14, hS14, hgr14, ⟨Lc14, hQ14, l14, y14, z14⟩, st14⟩ := callSS X11 hx (y := (⟨"com/example/ajenda/ajenda/core/Job", "made", "(JLjava/lang/String;Lcom/example/ajenda/ajenda/core/FunctionQueue;Lcom/example/ajenda/ajenda/core/Priority;[B[B)Lcom/example/ajenda/ajenda/core/Job;"⟩ : MethodName)) hown (mvT hZ (hw _ (List.mem_of_getElem? (i := 11) rfl))) (mvT hZ (hw _ (List.mem_of_getElem? (i := 12) rfl))) (mvT hZ (hw _ (List.mem_of_getElem? (i := 13) rfl))) (mvT hZ (hw _ (List.mem_of_getElem? (i := 14) rfl))) (by decide) (backOfS (W := 0) (rm_made l Z a0 hw [] nb sa10 no b4 k4 em h10 n0 O10 f12 S_em) hZ (hw _ (List.mem_of_getElem? (i := 14) rfl)) (hw _ (List.mem_of_getElem? (i := 13) rfl)) (by decide) (by decide)) (g := (mkF m 60 #[.val (.long na), .second, .val (.long nb), .second, .val (.long nc), .second, .val (.long nq), .second, .val (.int fl), .val (.int cnt), .val (.ref b4), .val (.ref b9), .unset, .unset, .unset, .unset, .unset, .unset, .unset] [(.ref b4), (.ref b4), (.ref no), .null, (.ref sa10), (.long nb)])) rfl (by rw [hml]; rfl) (argsL := [(.long nb), (.ref sa10), .null, (.ref no), (.ref b4), (.ref b4)]) (rest := []) (lenOf pd_0 rfl) rfl (by show 2 * 0 + _ ≤ _; exact Nat.le_of_eq rfl) (hb hby at_60) (fun _ _ => ⟨rfl, e11, (by decide : (((1 + 2) + 5) + 2) + 5 ≤ _), (by decide : (((8 + 4) + 29) + (8 + 4)) + 29 ≤ _)⟩)
        dsimp only [Pt.U, Pt.locs, Pt.cells, Pt.slots] at X14 l14 y14 z14 st14 hQ14
        rw [l14, y14, z14] at X14
        obtain ⟨s, A14, hZ, hown, X14⟩ := own_next X14 hS14 hgr14 e11 A10 hZ hown
        obtain ⟨b14, rfl, Nq14, sz14, Kq14, Eq14, Fq14⟩ := hQ14
        have N14 := Fr.app N9 Nq14
        have e14 : T14.heap = T14.heap := rfl
        refine own_viaW st14 ?_
        have O14 := O10.keep Kq14 all0
        have K14 := K10.trans Kq14 all0
        have ne_b4_b14 : b4 ≠ b14 := Nat.ne_of_lt (Nat.lt_of_lt_of_le (Arv.lt f12) sz14)
        have ne_b9_b14 : b9 ≠ b14 := Nat.ne_of_lt (Nat.lt_of_lt_of_le f13.lt sz14)
        have sz_b14 : h0.size ≤ b14 := Nat.le_trans K10.1 sz14
        show own_GoW p e below s00 _ _ (T14.setTop (mkF m 63 #[.val (.long na), .second, .val (.long nb), .second, .val (.long nc), .second, .val (.long nq), .second, .val (.int fl), .val (.int cnt), .val (.ref b4), .val (.ref b9), .unset, .unset, .unset, .unset, .unset, .unset, .unset] [(.ref b14)]))
        refine own_byW (fun tz kz => XS.astore X14.here hx rfl (hb hby at_63) rfl rfl (l' := #[.val (.long na), .second, .val (.long nb), .second, .val (.long nc), .second, .val (.long nq), .second, .val (.int fl), .val (.int cnt), .val (.ref b4), .val (.ref b9), .val (.ref b14), .unset, .unset, .unset, .unset, .unset, .unset]) rfl kz) ?_
        show own_GoW p e below s00 _ _ (T14.setTop (mkF m 65 #[.val (.long na), .second, .val (.long nb), .second, .val (.long nc), .second, .val (.long nq), .second, .val (.int fl), .val (.int cnt), .val (.ref b4), .val (.ref b9), .val (.ref b14), .unset, .unset, .unset, .unset, .unset, .unset] []))
        refine own_byW (fun tz kz => XS.lload X14.here hx rfl (hb hby at_65) rfl kz) ?_
        show own_GoW p e below s00 _ _ (T14.setTop (mkF m 67 #[.val (.long na), .second, .val (.long nb), .second, .val (.long nc), .second, .val (.long nq), .second, .val (.int fl), .val (.int cnt), .val (.ref b4), .val (.ref b9), .val (.ref b14), .unset, .unset, .unset, .unset, .unset, .unset] [(.long nc)]))
        obtain ⟨sa15, s, T15, h15, e15, E15, A15, hZ, hown, X15, st15⟩ := own_ldc X14 hx hZ hown (hw _ (List.mem_of_getElem? (i := 1) rfl)) (own_str hw) e14 A14 (g := (mkF m 67 #[.val (.long na), .second, .val (.long nb), .second, .val (.long nc), .second, .val (.long nq), .second, .val (.int fl), .val (.int cnt), .val (.ref b4), .val (.ref b9), .val (.ref b14), .unset, .unset, .unset, .unset, .unset, .unset] [(.long nc)])) rfl (hb hby at_67) (n := 8) (by first | decide | decide +kernel) (by decide) (by decide) (by decide)
        refine own_byW st15 ?_
        have O15 := O14.ext E15
        have K15 := K14.ext E15
        show own_GoW p e below s00 _ _ (T15.setTop (mkF m 69 #[.val (.long na), .second, .val (.long nb), .second, .val (.long nc), .second, .val (.long nq), .second, .val (.int fl), .val (.int cnt), .val (.ref b4), .val (.ref b9), .val (.ref b14), .unset, .unset, .unset, .unset, .unset, .unset] [(.ref sa15), (.long nc)]))
        refine own_byW (fun tz kz => XS.aconstNull X15.here hx rfl (hb hby at_69) kz) ?_
        show own_GoW p e below s00 _ _ (T15.setTop (mkF m 70 #[.val (.long na), .second, .val (.long nb), .second, .val (.long nc), .second, .val (.long nq), .second, .val (.int fl), .val (.int cnt), .val (.ref b4), .val (.ref b9), .val (.ref b14), .unset, .unset, .unset, .unset, .unset, .unset] [.null, (.ref sa15), (.long nc)]))
        obtain ⟨T16, X16, e16, st16⟩ := getS2 X15 hx hZ hown (host := "") (Or.inl (hw _ (List.mem_of_getElem? (i := 46) rfl))) Via.refl e15 (S_lo.ext O15.2) (g := (mkF m 70 #[.val (.long na), .second, .val (.long nb), .second, .val (.long nc), .second, .val (.long nq), .second, .val (.int fl), .val (.int cnt), .val (.ref b4), .val (.ref b9), .val (.ref b14), .unset, .unset, .unset, .unset, .unset, .unset] [.null, (.ref sa15), (.long nc)])) rfl (hb hby at_70)
        refine own_byW st16 ?_
        show own_GoW p e below s00 _ _ (T16.setTop (mkF m 73 #[.val (.long na), .second, .val (.long nb), .second, .val (.long nc), .second, .val (.long nq), .second, .val (.int fl), .val (.int cnt), .val (.ref b4), .val (.ref b9), .val (.ref b14), .unset, .unset, .unset, .unset, .unset, .unset] [(.ref lo), .null, (.ref sa15), (.long nc)]))
        refine own_byW (fun tz kz => XS.aload X16.here hx rfl (hb hby at_73) rfl rfl kz) ?_
        show own_GoW p e below s00 _ _ (T16.setTop (mkF m 75 #[.val (.long na), .second, .val (.long nb), .second, .val (.long nc), .second, .val (.long nq), .second, .val (.int fl), .val (.int cnt), .val (.ref b4), .val (.ref b9), .val (.ref b14), .unset, .unset, .unset, .unset, .unset, .unset] [(.ref b4), (.ref lo), .null, (.ref sa15), (.long nc)]))
        refine own_byW (fun tz kz => XS.aload X16.here hx rfl (hb hby at_75) rfl rfl kz) ?_
        show own_GoW p e below s00 _ _ (T16.setTop (mkF m 77 #[.val (.long na), .second, .val (.long nb), .second, .val (.long nc), .second, .val (.long nq), .second, .val (.int fl), .val (.int cnt), .val (.ref b4), .val (.ref b9), .val (.ref b14), .unset, .unset, .unset, .unset, .unset, .unset] [(.ref b4), (.ref b4), (.ref lo), .null, (.ref sa15), (.long nc)]))
        have f17 := (Arv.ext (f12.keep Kq14 nin0) E15)
        have f18 := ((f13.keep Kq14).ext E15)
        have f19 := (Eq14.ext E15)
        obtain ⟨_, _, ⟨T20, L20, k20, n20⟩, -, X20, hS20, hgr20, ⟨Lc20, hQ20, l20, y20, z20⟩, st20⟩ := callSS X16 hx (y := (⟨"com/example/ajenda/ajenda/core/Job", "made", "(JLjava/lang/String;Lcom/example/ajenda/ajenda/core/FunctionQueue;Lcom/example/ajenda/ajenda/core/Priority;[B[B)Lcom/example/ajenda/ajenda/core/Job;"⟩ : MethodName)) hown (mvT hZ (hw _ (List.mem_of_getElem? (i := 11) rfl))) (mvT hZ (hw _ (List.mem_of_getElem? (i := 12) rfl))) (mvT hZ (hw _ (List.mem_of_getElem? (i := 13) rfl))) (mvT hZ (hw _ (List.mem_of_getElem? (i := 14) rfl))) (by decide) (backOfS (W := 0) (rm_made l Z a0 hw [] nc sa15 lo b4 k4 em h15 n0 O15 f17 S_em) hZ (hw _ (List.mem_of_getElem? (i := 14) rfl)) (hw _ (List.mem_of_getElem? (i := 13) rfl)) (by decide) (by decide)) (g := (mkF m 77 #[.val (.long na), .second, .val (.long nb), .second, .val (.long nc), .second, .val (.long nq), .second, .val (.int fl), .val (.int cnt), .val (.ref b4), .val (.ref b9), .val (.ref b14), .unset, .unset, .unset, .unset, .unset, .unset] [(.ref b4), (.ref b4), (.ref lo), .null, (.ref sa15), (.long nc)])) rfl (by rw [hml]; rfl) (argsL := [(.long nc), (.ref sa15), .null, (.ref lo), (.ref b4), (.ref b4)]) (rest := []) (lenOf pd_0 rfl) rfl (by show 2 * 0 + _ ≤ _; exact Nat.le_of_eq rfl) (hb hby at_77) (fun _ _ => ⟨rfl, e16, (by decide : (((((1 + 2) + 5) + 2) + 5) + 2) + 5 ≤ _), (by decide : (((((8 + 4) + 29) + (8 + 4)) + 29) + (8 + 4)) + 29 ≤ _)⟩)
        dsimp only [Pt.U, Pt.locs, Pt.cells, Pt.slots] at X20 l20 y20 z20 st20 hQ20
        rw [l20, y20, z20] at X20
        obtain ⟨s, A20, hZ, hown, X20⟩ := own_next X20 hS20 hgr20 e16 A15 hZ hown
        obtain ⟨b20, rfl, Nq20, sz20, Kq20, Eq20, Fq20⟩ := hQ20
        have N20 := Fr.app N14 Nq20
        have e20 : T20.heap = T20.heap := rfl
        refine own_viaW st20 ?_
        have O20 := O15.keep Kq20 all0
        have K20 := K15.trans Kq20 all0
        have ne_b4_b20 : b4 ≠ b20 := Nat.ne_of_lt (Nat.lt_of_lt_of_le (Arv.lt f17) sz20)
        have ne_b9_b20 : b9 ≠ b20 := Nat.ne_of_lt (Nat.lt_of_lt_of_le f18.lt sz20)
        have ne_b14_b20 : b14 ≠ b20 := Nat.ne_of_lt (Nat.lt_of_lt_of_le f19.lt sz20)
        have sz_b20 : h0.size ≤ b20 := Nat.le_trans K15.1 sz20
        show own_GoW p e below s00 _ _ (T20.setTop (mkF m 80 #[.val (.long na), .second, .val (.long nb), .second, .val (.long nc), .second, .val (.long nq), .second, .val (.int fl), .val (.int cnt), .val (.ref b4), .val (.ref b9), .val (.ref b14), .unset, .unset, .unset, .unset, .unset, .unset] [(.ref b20)]))
        refine own_byW (fun tz kz => XS.astore X20.here hx rfl (hb hby at_80) rfl rfl (l' := #[.val (.long na), .second, .val (.long nb), .second, .val (.long nc), .second, .val (.long nq), .second, .val (.int fl), .val (.int cnt), .val (.ref b4), .val (.ref b9), .val (.ref b14), .val (.ref b20), .unset, .unset, .unset, .unset, .unset]) rfl kz) ?_
        show own_GoW p e below s00 _ _ (T20.setTop (mkF m 82 #[.val (.long na), .second, .val (.long nb), .second, .val (.long nc), .second, .val (.long nq), .second, .val (.int fl), .val (.int cnt), .val (.ref b4), .val (.ref b9), .val (.ref b14), .val (.ref b20), .unset, .unset, .unset, .unset, .unset] []))
        obtain ⟨T21, h21, X21, e21, E21, A21, D21, -, st21⟩ := newO X20 hx hZ hown (hw _ (List.mem_of_getElem? (i := 48) rfl)) (hw _ (List.mem_of_getElem? (i := 49) rfl)) (hw _ (List.mem_of_getElem? (i := 50) rfl)) e20 (g := (mkF m 82 #[.val (.long na), .second, .val (.long nb), .second, .val (.long nc), .second, .val (.long nq), .second, .val (.int fl), .val (.int cnt), .val (.ref b4), .val (.ref b9), .val (.ref b14), .val (.ref b20), .unset, .unset, .unset, .unset, .unset] [])) rfl (hb hby at_82) (by decide) (by decide)
        obtain ⟨b21, g21⟩ : ∃ z, z = T20.heap.size := ⟨_, rfl⟩
        have f22 := (f17.keep Kq20 nin0)
        have ne_b4_b21 : b4 ≠ b21 := by rw [g21]; exact Nat.ne_of_lt (Arv.lt f22)
        have f23 := (f18.keep Kq20)
        have ne_b9_b21 : b9 ≠ b21 := by rw [g21]; exact Nat.ne_of_lt f23.lt
        have f24 := (f19.keep Kq20)
        have ne_b14_b21 : b14 ≠ b21 := by rw [g21]; exact Nat.ne_of_lt f24.lt
        have ne_b20_b21 : b20 ≠ b21 := by rw [g21]; exact Nat.ne_of_lt Eq20.lt
        rw [← g21] at A21 D21 st21
        have g_b21 : n0 ≤ b21 := by rw [g21]; exact O20.1 ▸ O20.2.1
        have sz_b21 : h0.size ≤ b21 := by rw [g21]; exact K20.1
        have O21 := O20.ext E21
        have K21 := K20.ext E21
        refine own_byW st21 ?_
        have F21_slots : Fld Z h21 b21 "com/example/ajenda/ajenda/core/JobsByNumber" "slots" "[Lcom/example/ajenda/ajenda/core/Job;" .null := D21 (Or.inl (hw _ (List.mem_of_getElem? (i := 58) rfl))) (ty := (.array (.object "com/example/ajenda/ajenda/core/Job"))) (by decide)
        have F21_size : Fld Z h21 b21 "com/example/ajenda/ajenda/core/JobsByNumber" "size" "I" (.int (0 : Int32)) := D21 (Or.inl (hw _ (List.mem_of_getElem? (i := 65) rfl))) (ty := .int) (by decide)
        show own_GoW p e below s00 _ _ (T21.setTop (mkF m 85 #[.val (.long na), .second, .val (.long nb), .second, .val (.long nc), .second, .val (.long nq), .second, .val (.int fl), .val (.int cnt), .val (.ref b4), .val (.ref b9), .val (.ref b14), .val (.ref b20), .unset, .unset, .unset, .unset, .unset] [(.ref b21)]))
        refine own_byW (fun tz kz => XS.dup X21.here hx rfl (hb hby at_85) rfl rfl kz) ?_
        show own_GoW p e below s00 _ _ (T21.setTop (mkF m 86 #[.val (.long na), .second, .val (.long nb), .second, .val (.long nc), .second, .val (.long nq), .second, .val (.int fl), .val (.int cnt), .val (.ref b4), .val (.ref b9), .val (.ref b14), .val (.ref b20), .unset, .unset, .unset, .unset, .unset] [(.ref b21), (.ref b21)]))
        have f25 := (Arv.ext f22 E21)
        have f26 := (f23.ext E21)
        have f27 := (f24.ext E21)
        have f28 := (Eq20.ext E21)
        obtain ⟨_, _, ⟨T29, L29, k29, n29⟩, -, X29, ⟨Lc29, hQ29, l29, y29, z29⟩, st29⟩ := X21.specialBack hx (y := (⟨"com/example/ajenda/ajenda/core/JobsByNumber", "<init>", "()V"⟩ : MethodName)) rfl hown (mvT hZ (hw _ (List.mem_of_getElem? (i := 51) rfl))) (mvT hZ (hw _ (List.mem_of_getElem? (i := 52) rfl))) (mvT hZ (hw _ (List.mem_of_getElem? (i := 53) rfl))) (by decide) (backOf (W := 1) (rm_B l Z a0 hw [] b21 h21 n0 O21 A21 F21_slots F21_size g_b21) hZ (hw _ (List.mem_of_getElem? (i := 53) rfl)) (hw _ (List.mem_of_getElem? (i := 50) rfl)) (by decide) (by decide)) (g := (mkF m 86 #[.val (.long na), .second, .val (.long nb), .second, .val (.long nc), .second, .val (.long nq), .second, .val (.int fl), .val (.int cnt), .val (.ref b4), .val (.ref b9), .val (.ref b14), .val (.ref b20), .unset, .unset, .unset, .unset, .unset] [(.ref b21), (.ref b21)])) rfl (by rw [hml]; rfl) (Steps.refl _) (a := b21) (argsL := []) (rest := [(.ref b21)]) (lenOf pd_2 rfl) rfl (by show 2 * 0 + _ ≤ _; exact Nat.le_of_eq rfl) (hb hby at_86) (fun _ _ => ⟨rfl, e21, (by decide : (((((((1 + 2) + 5) + 2) + 5) + 2) + 5) + 1) + 1 ≤ _), (by decide : (((((((8 + 4) + 29) + (8 + 4)) + 29) + (8 + 4)) + 29) + 2) + 16 ≤ _)⟩)
        dsimp only [Pt.U, Pt.locs, Pt.cells, Pt.slots] at X29 l29 y29 z29 st29 hQ29
        rw [l29, y29, z29] at X29
        obtain ⟨ar29, kk29, rfl, Nq29, sz29, Kq29, Vq29, Fq29, Gq29, Ov29⟩ := hQ29
        have N29 := Fr.app N20 Nq29
        have e29 : T29.heap = T29.heap := rfl
        refine own_viaW st29 ?_
        have O29 := O21.keep Kq29 (allS g_b21 all0)
        have K29 := K21.trans Kq29 (allS (Or.inr sz_b21) all0)
        have ne_b4_ar29 : b4 ≠ ar29 := Nat.ne_of_lt (Nat.lt_of_lt_of_le (Arv.lt f25) sz29)
        have ne_b9_ar29 : b9 ≠ ar29 := Nat.ne_of_lt (Nat.lt_of_lt_of_le f26.lt sz29)
        have ne_b14_ar29 : b14 ≠ ar29 := Nat.ne_of_lt (Nat.lt_of_lt_of_le f27.lt sz29)
        have ne_b20_ar29 : b20 ≠ ar29 := Nat.ne_of_lt (Nat.lt_of_lt_of_le f28.lt sz29)
        have ne_b21_ar29 : b21 ≠ ar29 := Nat.ne_of_lt (Nat.lt_of_lt_of_le A21.lt sz29)
        have sz_ar29 : h0.size ≤ ar29 := Nat.le_trans K21.1 sz29
        have g_ar29 : n0 ≤ ar29 := Nat.le_trans (O0.1 ▸ O0.2.1) sz_ar29
        show own_GoW p e below s00 _ _ (T29.setTop (mkF m 89 #[.val (.long na), .second, .val (.long nb), .second, .val (.long nc), .second, .val (.long nq), .second, .val (.int fl), .val (.int cnt), .val (.ref b4), .val (.ref b9), .val (.ref b14), .val (.ref b20), .unset, .unset, .unset, .unset, .unset] [(.ref b21)]))
        refine own_byW (fun tz kz => XS.astore X29.here hx rfl (hb hby at_89) rfl rfl (l' := #[.val (.long na), .second, .val (.long nb), .second, .val (.long nc), .second, .val (.long nq), .second, .val (.int fl), .val (.int cnt), .val (.ref b4), .val (.ref b9), .val (.ref b14), .val (.ref b20), .val (.ref b21), .unset, .unset, .unset, .unset]) rfl kz) ?_
        obtain ⟨num, n1, n2, n3⟩ : ∃ num : Addr → Int64, num b9 = na ∧ num b14 = nb ∧ num b20 = nc := ⟨fun y => if y = b9 then na else if y = b14 then nb else nc, if_pos rfl, (if_neg (Ne.symm ne_b9_b14)).trans (if_pos rfl), (if_neg (Ne.symm ne_b9_b20)).trans (if_neg (Ne.symm ne_b14_b20))⟩
        show own_GoW p e below s00 _ _ (T29.setTop (mkF m 91 #[.val (.long na), .second, .val (.long nb), .second, .val (.long nc), .second, .val (.long nq), .second, .val (.int fl), .val (.int cnt), .val (.ref b4), .val (.ref b9), .val (.ref b14), .val (.ref b20), .val (.ref b21), .unset, .unset, .unset, .unset] []))
        rcases hcases with hcs | hcs | hcs | hcs
        · rw [hcs]
          show own_GoW p e below s00 _ _ (T29.setTop (mkF m 91 #[.val (.long na), .second, .val (.long nb), .second, .val (.long nc), .second, .val (.long nq), .second, .val (.int fl), .val (.int (0 : Int32)), .val (.ref b4), .val (.ref b9), .val (.ref b14), .val (.ref b20), .val (.ref b21), .unset, .unset, .unset, .unset] []))
          refine own_byW (fun tz kz => XS.iload X29.here hx rfl (hb hby at_91) rfl  kz) ?_
          show own_GoW p e below s00 _ _ (T29.setTop (mkF m 93 #[.val (.long na), .second, .val (.long nb), .second, .val (.long nc), .second, .val (.long nq), .second, .val (.int fl), .val (.int (0 : Int32)), .val (.ref b4), .val (.ref b9), .val (.ref b14), .val (.ref b20), .val (.ref b21), .unset, .unset, .unset, .unset] [(.int (0 : Int32))]))
          refine own_byW (fun tz kz => XS.iconst X29.here hx rfl (hb hby at_93) kz) ?_
          show own_GoW p e below s00 _ _ (T29.setTop (mkF m 94 #[.val (.long na), .second, .val (.long nb), .second, .val (.long nc), .second, .val (.long nq), .second, .val (.int fl), .val (.int (0 : Int32)), .val (.ref b4), .val (.ref b9), .val (.ref b14), .val (.ref b20), .val (.ref b21), .unset, .unset, .unset, .unset] [(.int (1 : Int32)), (.int (0 : Int32))]))
          refine own_byW (fun tz kz => XS.icmpYes X29.here hx rfl (pc0 := 94) (pc' := 104) rfl (hb hby at_94) rfl (tlt (by decide : (0 : Int32) < (1 : Int32))).1 (by decide) (by decide) kz) ?_
          show own_GoW p e below s00 _ _ (T29.setTop (mkF m 104 #[.val (.long na), .second, .val (.long nb), .second, .val (.long nc), .second, .val (.long nq), .second, .val (.int fl), .val (.int (0 : Int32)), .val (.ref b4), .val (.ref b9), .val (.ref b14), .val (.ref b20), .val (.ref b21), .unset, .unset, .unset, .unset] []))
          refine own_byW (fun tz kz => XS.iload X29.here hx rfl (hb hby at_104) rfl  kz) ?_
          show own_GoW p e below s00 _ _ (T29.setTop (mkF m 106 #[.val (.long na), .second, .val (.long nb), .second, .val (.long nc), .second, .val (.long nq), .second, .val (.int fl), .val (.int (0 : Int32)), .val (.ref b4), .val (.ref b9), .val (.ref b14), .val (.ref b20), .val (.ref b21), .unset, .unset, .unset, .unset] [(.int (0 : Int32))]))
          refine own_byW (fun tz kz => XS.iconst X29.here hx rfl (hb hby at_106) kz) ?_
          show own_GoW p e below s00 _ _ (T29.setTop (mkF m 107 #[.val (.long na), .second, .val (.long nb), .second, .val (.long nc), .second, .val (.long nq), .second, .val (.int fl), .val (.int (0 : Int32)), .val (.ref b4), .val (.ref b9), .val (.ref b14), .val (.ref b20), .val (.ref b21), .unset, .unset, .unset, .unset] [(.int (2 : Int32)), (.int (0 : Int32))]))
          refine own_byW (fun tz kz => XS.icmpYes X29.here hx rfl (pc0 := 107) (pc' := 117) rfl (hb hby at_107) rfl (tlt (by decide : (0 : Int32) < (2 : Int32))).1 (by decide) (by decide) kz) ?_
          show own_GoW p e below s00 _ _ (T29.setTop (mkF m 117 #[.val (.long na), .second, .val (.long nb), .second, .val (.long nc), .second, .val (.long nq), .second, .val (.int fl), .val (.int (0 : Int32)), .val (.ref b4), .val (.ref b9), .val (.ref b14), .val (.ref b20), .val (.ref b21), .unset, .unset, .unset, .unset] []))
          refine own_byW (fun tz kz => XS.iload X29.here hx rfl (hb hby at_117) rfl  kz) ?_
          show own_GoW p e below s00 _ _ (T29.setTop (mkF m 119 #[.val (.long na), .second, .val (.long nb), .second, .val (.long nc), .second, .val (.long nq), .second, .val (.int fl), .val (.int (0 : Int32)), .val (.ref b4), .val (.ref b9), .val (.ref b14), .val (.ref b20), .val (.ref b21), .unset, .unset, .unset, .unset] [(.int (0 : Int32))]))
          refine own_byW (fun tz kz => XS.iconst X29.here hx rfl (hb hby at_119) kz) ?_
          show own_GoW p e below s00 _ _ (T29.setTop (mkF m 120 #[.val (.long na), .second, .val (.long nb), .second, .val (.long nc), .second, .val (.long nq), .second, .val (.int fl), .val (.int (0 : Int32)), .val (.ref b4), .val (.ref b9), .val (.ref b14), .val (.ref b20), .val (.ref b21), .unset, .unset, .unset, .unset] [(.int (3 : Int32)), (.int (0 : Int32))]))
          refine own_byW (fun tz kz => XS.icmpYes X29.here hx rfl (pc0 := 120) (pc' := 130) rfl (hb hby at_120) rfl (tlt (by decide : (0 : Int32) < (3 : Int32))).1 (by decide) (by decide) kz) ?_
          show own_GoW p e below s00 _ _ (T29.setTop (mkF m 130 #[.val (.long na), .second, .val (.long nb), .second, .val (.long nc), .second, .val (.long nq), .second, .val (.int fl), .val (.int (0 : Int32)), .val (.ref b4), .val (.ref b9), .val (.ref b14), .val (.ref b20), .val (.ref b21), .unset, .unset, .unset, .unset] []))
          refine own_byW (fun tz kz => XS.iload X29.here hx rfl (hb hby at_130) rfl  kz) ?_
          show own_GoW p e below s00 _ _ (T29.setTop (mkF m 132 #[.val (.long na), .second, .val (.long nb), .second, .val (.long nc), .second, .val (.long nq), .second, .val (.int fl), .val (.int (0 : Int32)), .val (.ref b4), .val (.ref b9), .val (.ref b14), .val (.ref b20), .val (.ref b21), .unset, .unset, .unset, .unset] [(.int (0 : Int32))]))
          refine own_byW (fun tz kz => XS.iconst X29.here hx rfl (hb hby at_132) kz) ?_
          show own_GoW p e below s00 _ _ (T29.setTop (mkF m 133 #[.val (.long na), .second, .val (.long nb), .second, .val (.long nc), .second, .val (.long nq), .second, .val (.int fl), .val (.int (0 : Int32)), .val (.ref b4), .val (.ref b9), .val (.ref b14), .val (.ref b20), .val (.ref b21), .unset, .unset, .unset, .unset] [(.int (1 : Int32)), (.int (0 : Int32))]))
          refine own_byW (fun tz kz => XS.icmpYes X29.here hx rfl (pc0 := 133) (pc' := 141) rfl (hb hby at_133) rfl (tlt (by decide : (0 : Int32) < (1 : Int32))).1 (by decide) (by decide) kz) ?_
          show own_GoW p e below s00 _ _ (T29.setTop (mkF m 141 #[.val (.long na), .second, .val (.long nb), .second, .val (.long nc), .second, .val (.long nq), .second, .val (.int fl), .val (.int (0 : Int32)), .val (.ref b4), .val (.ref b9), .val (.ref b14), .val (.ref b20), .val (.ref b21), .unset, .unset, .unset, .unset] []))
          refine own_byW (fun tz kz => XS.aconstNull X29.here hx rfl (hb hby at_141) kz) ?_
          show own_GoW p e below s00 _ _ (T29.setTop (mkF m 142 #[.val (.long na), .second, .val (.long nb), .second, .val (.long nc), .second, .val (.long nq), .second, .val (.int fl), .val (.int (0 : Int32)), .val (.ref b4), .val (.ref b9), .val (.ref b14), .val (.ref b20), .val (.ref b21), .unset, .unset, .unset, .unset] [.null]))
          refine own_byW (fun tz kz => XS.astore X29.here hx rfl (hb hby at_142) rfl rfl (l' := #[.val (.long na), .second, .val (.long nb), .second, .val (.long nc), .second, .val (.long nq), .second, .val (.int fl), .val (.int (0 : Int32)), .val (.ref b4), .val (.ref b9), .val (.ref b14), .val (.ref b20), .val (.ref b21), .val .null, .unset, .unset, .unset]) rfl kz) ?_
          show own_GoW p e below s00 _ _ (T29.setTop (mkF m 144 #[.val (.long na), .second, .val (.long nb), .second, .val (.long nc), .second, .val (.long nq), .second, .val (.int fl), .val (.int (0 : Int32)), .val (.ref b4), .val (.ref b9), .val (.ref b14), .val (.ref b20), .val (.ref b21), .val .null, .unset, .unset, .unset] []))
          refine own_byW (fun tz kz => XS.iload X29.here hx rfl (hb hby at_144) rfl  kz) ?_
          show own_GoW p e below s00 _ _ (T29.setTop (mkF m 146 #[.val (.long na), .second, .val (.long nb), .second, .val (.long nc), .second, .val (.long nq), .second, .val (.int fl), .val (.int (0 : Int32)), .val (.ref b4), .val (.ref b9), .val (.ref b14), .val (.ref b20), .val (.ref b21), .val .null, .unset, .unset, .unset] [(.int (0 : Int32))]))
          refine own_byW (fun tz kz => XS.iconst X29.here hx rfl (hb hby at_146) kz) ?_
          show own_GoW p e below s00 _ _ (T29.setTop (mkF m 147 #[.val (.long na), .second, .val (.long nb), .second, .val (.long nc), .second, .val (.long nq), .second, .val (.int fl), .val (.int (0 : Int32)), .val (.ref b4), .val (.ref b9), .val (.ref b14), .val (.ref b20), .val (.ref b21), .val .null, .unset, .unset, .unset] [(.int (2 : Int32)), (.int (0 : Int32))]))
          refine own_byW (fun tz kz => XS.icmpYes X29.here hx rfl (pc0 := 147) (pc' := 155) rfl (hb hby at_147) rfl (tlt (by decide : (0 : Int32) < (2 : Int32))).1 (by decide) (by decide) kz) ?_
          show own_GoW p e below s00 _ _ (T29.setTop (mkF m 155 #[.val (.long na), .second, .val (.long nb), .second, .val (.long nc), .second, .val (.long nq), .second, .val (.int fl), .val (.int (0 : Int32)), .val (.ref b4), .val (.ref b9), .val (.ref b14), .val (.ref b20), .val (.ref b21), .val .null, .unset, .unset, .unset] []))
          refine own_byW (fun tz kz => XS.aconstNull X29.here hx rfl (hb hby at_155) kz) ?_
          show own_GoW p e below s00 _ _ (T29.setTop (mkF m 156 #[.val (.long na), .second, .val (.long nb), .second, .val (.long nc), .second, .val (.long nq), .second, .val (.int fl), .val (.int (0 : Int32)), .val (.ref b4), .val (.ref b9), .val (.ref b14), .val (.ref b20), .val (.ref b21), .val .null, .unset, .unset, .unset] [.null]))
          refine own_byW (fun tz kz => XS.astore X29.here hx rfl (hb hby at_156) rfl rfl (l' := #[.val (.long na), .second, .val (.long nb), .second, .val (.long nc), .second, .val (.long nq), .second, .val (.int fl), .val (.int (0 : Int32)), .val (.ref b4), .val (.ref b9), .val (.ref b14), .val (.ref b20), .val (.ref b21), .val .null, .val .null, .unset, .unset]) rfl kz) ?_
          show own_GoW p e below s00 _ _ (T29.setTop (mkF m 158 #[.val (.long na), .second, .val (.long nb), .second, .val (.long nc), .second, .val (.long nq), .second, .val (.int fl), .val (.int (0 : Int32)), .val (.ref b4), .val (.ref b9), .val (.ref b14), .val (.ref b20), .val (.ref b21), .val .null, .val .null, .unset, .unset] []))
          refine own_byW (fun tz kz => XS.iload X29.here hx rfl (hb hby at_158) rfl  kz) ?_
          show own_GoW p e below s00 _ _ (T29.setTop (mkF m 160 #[.val (.long na), .second, .val (.long nb), .second, .val (.long nc), .second, .val (.long nq), .second, .val (.int fl), .val (.int (0 : Int32)), .val (.ref b4), .val (.ref b9), .val (.ref b14), .val (.ref b20), .val (.ref b21), .val .null, .val .null, .unset, .unset] [(.int (0 : Int32))]))
          refine own_byW (fun tz kz => XS.iconst X29.here hx rfl (hb hby at_160) kz) ?_
          show own_GoW p e below s00 _ _ (T29.setTop (mkF m 161 #[.val (.long na), .second, .val (.long nb), .second, .val (.long nc), .second, .val (.long nq), .second, .val (.int fl), .val (.int (0 : Int32)), .val (.ref b4), .val (.ref b9), .val (.ref b14), .val (.ref b20), .val (.ref b21), .val .null, .val .null, .unset, .unset] [(.int (3 : Int32)), (.int (0 : Int32))]))
          refine own_byW (fun tz kz => XS.icmpYes X29.here hx rfl (pc0 := 161) (pc' := 169) rfl (hb hby at_161) rfl (tlt (by decide : (0 : Int32) < (3 : Int32))).1 (by decide) (by decide) kz) ?_
          show own_GoW p e below s00 _ _ (T29.setTop (mkF m 169 #[.val (.long na), .second, .val (.long nb), .second, .val (.long nc), .second, .val (.long nq), .second, .val (.int fl), .val (.int (0 : Int32)), .val (.ref b4), .val (.ref b9), .val (.ref b14), .val (.ref b20), .val (.ref b21), .val .null, .val .null, .unset, .unset] []))
          refine own_byW (fun tz kz => XS.aconstNull X29.here hx rfl (hb hby at_169) kz) ?_
          show own_GoW p e below s00 _ _ (T29.setTop (mkF m 170 #[.val (.long na), .second, .val (.long nb), .second, .val (.long nc), .second, .val (.long nq), .second, .val (.int fl), .val (.int (0 : Int32)), .val (.ref b4), .val (.ref b9), .val (.ref b14), .val (.ref b20), .val (.ref b21), .val .null, .val .null, .unset, .unset] [.null]))
          refine own_byW (fun tz kz => XS.astore X29.here hx rfl (hb hby at_170) rfl rfl (l' := #[.val (.long na), .second, .val (.long nb), .second, .val (.long nc), .second, .val (.long nq), .second, .val (.int fl), .val (.int (0 : Int32)), .val (.ref b4), .val (.ref b9), .val (.ref b14), .val (.ref b20), .val (.ref b21), .val .null, .val .null, .val .null, .unset]) rfl kz) ?_
          show own_GoW p e below s00 _ _ (T29.setTop (mkF m 172 #[.val (.long na), .second, .val (.long nb), .second, .val (.long nc), .second, .val (.long nq), .second, .val (.int fl), .val (.int (0 : Int32)), .val (.ref b4), .val (.ref b9), .val (.ref b14), .val (.ref b20), .val (.ref b21), .val .null, .val .null, .val .null, .unset] []))
          refine own_byW (fun tz kz => XS.aconstNull X29.here hx rfl (hb hby at_172) kz) ?_
          show own_GoW p e below s00 _ _ (T29.setTop (mkF m 173 #[.val (.long na), .second, .val (.long nb), .second, .val (.long nc), .second, .val (.long nq), .second, .val (.int fl), .val (.int (0 : Int32)), .val (.ref b4), .val (.ref b9), .val (.ref b14), .val (.ref b20), .val (.ref b21), .val .null, .val .null, .val .null, .unset] [.null]))
          refine own_byW (fun tz kz => XS.astore X29.here hx rfl (hb hby at_173) rfl rfl (l' := #[.val (.long na), .second, .val (.long nb), .second, .val (.long nc), .second, .val (.long nq), .second, .val (.int fl), .val (.int (0 : Int32)), .val (.ref b4), .val (.ref b9), .val (.ref b14), .val (.ref b20), .val (.ref b21), .val .null, .val .null, .val .null, .val .null]) rfl kz) ?_
          show own_GoW p e below s00 _ _ (T29.setTop (mkF m 175 #[.val (.long na), .second, .val (.long nb), .second, .val (.long nc), .second, .val (.long nq), .second, .val (.int fl), .val (.int (0 : Int32)), .val (.ref b4), .val (.ref b9), .val (.ref b14), .val (.ref b20), .val (.ref b21), .val .null, .val .null, .val .null, .val .null] []))
          refine own_byW (fun tz kz => XS.lload X29.here hx rfl (hb hby at_175) rfl kz) ?_
          show own_GoW p e below s00 _ _ (T29.setTop (mkF m 177 #[.val (.long na), .second, .val (.long nb), .second, .val (.long nc), .second, .val (.long nq), .second, .val (.int fl), .val (.int (0 : Int32)), .val (.ref b4), .val (.ref b9), .val (.ref b14), .val (.ref b20), .val (.ref b21), .val .null, .val .null, .val .null, .val .null] [(.long nq)]))
          refine own_byW (fun tz kz => XS.lloadN X29.here hx rfl (hb hby at_177) rfl kz) ?_
          show own_GoW p e below s00 _ _ (T29.setTop (mkF m 178 #[.val (.long na), .second, .val (.long nb), .second, .val (.long nc), .second, .val (.long nq), .second, .val (.int fl), .val (.int (0 : Int32)), .val (.ref b4), .val (.ref b9), .val (.ref b14), .val (.ref b20), .val (.ref b21), .val .null, .val .null, .val .null, .val .null] [(.long na), (.long nq)]))
          refine own_byW (fun tz kz => XS.lcmp X29.here hx rfl (hb hby at_178) rfl kz) ?_
          show own_GoW p e below s00 _ _ (T29.setTop (mkF m 179 #[.val (.long na), .second, .val (.long nb), .second, .val (.long nc), .second, .val (.long nq), .second, .val (.int fl), .val (.int (0 : Int32)), .val (.ref b4), .val (.ref b9), .val (.ref b14), .val (.ref b20), .val (.ref b21), .val .null, .val .null, .val .null, .val .null] [(.int (lcmpW nq na))]))
          by_cases hc179_30 : nq = na
          · refine own_byW (fun tz kz => XS.ifNo X29.here hx rfl (hb hby at_179) rfl ((if0 _ _).trans (teq ((lw_eq nq na).mpr hc179_30)).2) kz) ?_
            show own_GoW p e below s00 _ _ (T29.setTop (mkF m 182 #[.val (.long na), .second, .val (.long nb), .second, .val (.long nc), .second, .val (.long nq), .second, .val (.int fl), .val (.int (0 : Int32)), .val (.ref b4), .val (.ref b9), .val (.ref b14), .val (.ref b20), .val (.ref b21), .val .null, .val .null, .val .null, .val .null] []))
            refine own_byW (fun tz kz => XS.aload X29.here hx rfl (hb hby at_182) rfl rfl kz) ?_
            show own_GoW p e below s00 _ _ (T29.setTop (mkF m 184 #[.val (.long na), .second, .val (.long nb), .second, .val (.long nc), .second, .val (.long nq), .second, .val (.int fl), .val (.int (0 : Int32)), .val (.ref b4), .val (.ref b9), .val (.ref b14), .val (.ref b20), .val (.ref b21), .val .null, .val .null, .val .null, .val .null] [.null]))
            refine own_byW (fun tz kz => XS.astore X29.here hx rfl (hb hby at_184) rfl rfl (l' := #[.val (.long na), .second, .val (.long nb), .second, .val (.long nc), .second, .val (.long nq), .second, .val (.int fl), .val (.int (0 : Int32)), .val (.ref b4), .val (.ref b9), .val (.ref b14), .val (.ref b20), .val (.ref b21), .val .null, .val .null, .val .null, .val .null]) rfl kz) ?_
            show own_GoW p e below s00 _ _ (T29.setTop (mkF m 186 #[.val (.long na), .second, .val (.long nb), .second, .val (.long nc), .second, .val (.long nq), .second, .val (.int fl), .val (.int (0 : Int32)), .val (.ref b4), .val (.ref b9), .val (.ref b14), .val (.ref b20), .val (.ref b21), .val .null, .val .null, .val .null, .val .null] []))
            refine own_byW (fun tz kz => XS.goto X29.here hx rfl (pc0 := 186) (pc' := 215) rfl (hb hby at_186) (by decide) (by decide) kz) ?_
            show own_GoW p e below s00 _ _ (T29.setTop (mkF m 215 #[.val (.long na), .second, .val (.long nb), .second, .val (.long nc), .second, .val (.long nq), .second, .val (.int fl), .val (.int (0 : Int32)), .val (.ref b4), .val (.ref b9), .val (.ref b14), .val (.ref b20), .val (.ref b21), .val .null, .val .null, .val .null, .val .null] []))
            refine own_byW (fun tz kz => XS.aload X29.here hx rfl (hb hby at_215) rfl rfl kz) ?_
            show own_GoW p e below s00 _ _ (T29.setTop (mkF m 217 #[.val (.long na), .second, .val (.long nb), .second, .val (.long nc), .second, .val (.long nq), .second, .val (.int fl), .val (.int (0 : Int32)), .val (.ref b4), .val (.ref b9), .val (.ref b14), .val (.ref b20), .val (.ref b21), .val .null, .val .null, .val .null, .val .null] [(.ref b21)]))
            refine own_byW (fun tz kz => XS.lloadN X29.here hx rfl (hb hby at_217) rfl kz) ?_
            show own_GoW p e below s00 _ _ (T29.setTop (mkF m 218 #[.val (.long na), .second, .val (.long nb), .second, .val (.long nc), .second, .val (.long nq), .second, .val (.int fl), .val (.int (0 : Int32)), .val (.ref b4), .val (.ref b9), .val (.ref b14), .val (.ref b20), .val (.ref b21), .val .null, .val .null, .val .null, .val .null] [(.long na), (.ref b21)]))
            have hne31 : ∀ y ∈ ([] : List Addr), ¬ num y = na := by
              intro y q
              exact absurd q (by simp)
            have Fi31 : own_Find own_g0 num na none (own_H na) := by
              exact (own_T.nil num own_H).miss (by simp) (own_H_lt _) hne31
            have hn31 : ∀ (k : Nat) (y : Addr), own_g0 k = some y → Fld Z T29.heap y "com/example/ajenda/ajenda/core/Job" "number" "J" (.long (num y)) := by
              intro k y q0
              have q := (own_T.nil num own_H).all k y q0
              exact absurd q (by simp)
            have f32 := (A21.keep Kq29)
            obtain ⟨cq33, kq33, q33a, q33b, q33c⟩ := isOf hZ e29 f32
            obtain ⟨_, _, ⟨T33, L33, k33, n33⟩, -, X33, ⟨Lc33, hQ33, l33, y33, z33⟩, st33⟩ := X29.virtualBack hx (y := (⟨"com/example/ajenda/ajenda/core/JobsByNumber", "get", "(J)Lcom/example/ajenda/ajenda/core/Job;"⟩ : MethodName)) (z := (⟨"com/example/ajenda/ajenda/core/JobsByNumber", "get", "(J)Lcom/example/ajenda/ajenda/core/Job;"⟩ : MethodName)) hown (mvT hZ (hw _ (List.mem_of_getElem? (i := 80) rfl))) (mvT hZ (hw _ (List.mem_of_getElem? (i := 81) rfl))) (notFace_of_selects (args := #[]) (mvT hZ (hw _ (List.mem_of_getElem? (i := 83) rfl)))) (mvT hZ (hw _ (List.mem_of_getElem? (i := 83) rfl))) (mvT hZ (hw _ (List.mem_of_getElem? (i := 82) rfl))) (by decide) (backOf (W := 0) (rm_get l Z a0 hw [] b21 ar29 kk29 own_g0 num na none T29.heap n0 Vq29 Fq29 hn31 Fi31) hZ (hw _ (List.mem_of_getElem? (i := 84) rfl)) (hw _ (List.mem_of_getElem? (i := 50) rfl)) (by decide) (by decide)) q33a q33c (g := (mkF m 218 #[.val (.long na), .second, .val (.long nb), .second, .val (.long nc), .second, .val (.long nq), .second, .val (.int fl), .val (.int (0 : Int32)), .val (.ref b4), .val (.ref b9), .val (.ref b14), .val (.ref b20), .val (.ref b21), .val .null, .val .null, .val .null, .val .null] [(.long na), (.ref b21)])) rfl (by rw [hml]; rfl) (Steps.refl _) (argsL := [(.long na)]) (rest := []) (lenOf pd_7 rfl) rfl (by show 2 * 0 + _ ≤ _; exact Nat.le_of_eq rfl) (hb hby at_218) (fun _ _ => ⟨rfl, e29, (by decide : ((((((((1 + 2) + 5) + 2) + 5) + 2) + 5) + 1) + 1) + 0 ≤ _), (by decide : ((((((((8 + 4) + 29) + (8 + 4)) + 29) + (8 + 4)) + 29) + 2) + 16) + 0 ≤ _)⟩)
            dsimp only [Pt.U, Pt.locs, Pt.cells, Pt.slots] at X33 l33 y33 z33 st33 hQ33
            rw [l33, y33, z33] at X33
            obtain ⟨rfl, Nq33, e33⟩ := hQ33
            have N33 := Fr.app N29 Nq33
            refine own_viaW st33 ?_
            show own_GoW p e below s00 _ _ (T33.setTop (mkF m 221 #[.val (.long na), .second, .val (.long nb), .second, .val (.long nc), .second, .val (.long nq), .second, .val (.int fl), .val (.int (0 : Int32)), .val (.ref b4), .val (.ref b9), .val (.ref b14), .val (.ref b20), .val (.ref b21), .val .null, .val .null, .val .null, .val .null] [.null]))
            refine own_byW (fun tz kz => XS.aload X33.here hx rfl (hb hby at_221) rfl rfl kz) ?_
            show own_GoW p e below s00 _ _ (T33.setTop (mkF m 223 #[.val (.long na), .second, .val (.long nb), .second, .val (.long nc), .second, .val (.long nq), .second, .val (.int fl), .val (.int (0 : Int32)), .val (.ref b4), .val (.ref b9), .val (.ref b14), .val (.ref b20), .val (.ref b21), .val .null, .val .null, .val .null, .val .null] [.null, .null]))
            refine own_byW (fun tz kz => Jvm.RoadKit.acmp (g := (mkF m 223 #[.val (.long na), .second, .val (.long nb), .second, .val (.long nc), .second, .val (.long nq), .second, .val (.int fl), .val (.int (0 : Int32)), .val (.ref b4), .val (.ref b9), .val (.ref b14), .val (.ref b20), .val (.ref b21), .val .null, .val .null, .val .null, .val .null] [.null, .null])) X33 hx rfl rfl rfl (pc0 := 223) (pc' := 226) (same := true) rfl (hb hby at_223) rfl (decide_eq_true rfl) (by decide) (by decide) kz) ?_
            show own_GoW p e below s00 _ _ (T33.setTop (mkF m 226 #[.val (.long na), .second, .val (.long nb), .second, .val (.long nc), .second, .val (.long nq), .second, .val (.int fl), .val (.int (0 : Int32)), .val (.ref b4), .val (.ref b9), .val (.ref b14), .val (.ref b20), .val (.ref b21), .val .null, .val .null, .val .null, .val .null] []))
            refine own_byW (fun tz kz => XS.aload X33.here hx rfl (hb hby at_226) rfl rfl kz) ?_
            show own_GoW p e below s00 _ _ (T33.setTop (mkF m 228 #[.val (.long na), .second, .val (.long nb), .second, .val (.long nc), .second, .val (.long nq), .second, .val (.int fl), .val (.int (0 : Int32)), .val (.ref b4), .val (.ref b9), .val (.ref b14), .val (.ref b20), .val (.ref b21), .val .null, .val .null, .val .null, .val .null] [(.ref b21)]))
            refine own_byW (fun tz kz => XS.lloadN X33.here hx rfl (hb hby at_228) rfl kz) ?_
            show own_GoW p e below s00 _ _ (T33.setTop (mkF m 229 #[.val (.long na), .second, .val (.long nb), .second, .val (.long nc), .second, .val (.long nq), .second, .val (.int fl), .val (.int (0 : Int32)), .val (.ref b4), .val (.ref b9), .val (.ref b14), .val (.ref b20), .val (.ref b21), .val .null, .val .null, .val .null, .val .null] [(.long nb), (.ref b21)]))
            have hne34 : ∀ y ∈ ([] : List Addr), ¬ num y = nb := by
              intro y q
              exact absurd q (by simp)
            have Fi34 : own_Find own_g0 num nb none (own_H nb) := by
              exact (own_T.nil num own_H).miss (by simp) (own_H_lt _) hne34
            have hn34 : ∀ (k : Nat) (y : Addr), own_g0 k = some y → Fld Z T29.heap y "com/example/ajenda/ajenda/core/Job" "number" "J" (.long (num y)) := by
              intro k y q0
              have q := (own_T.nil num own_H).all k y q0
              exact absurd q (by simp)
            obtain ⟨cq35, kq35, q35a, q35b, q35c⟩ := isOf hZ e33 f32
            obtain ⟨_, _, ⟨T35, L35, k35, n35⟩, -, X35, ⟨Lc35, hQ35, l35, y35, z35⟩, st35⟩ := X33.virtualBack hx (y := (⟨"com/example/ajenda/ajenda/core/JobsByNumber", "get", "(J)Lcom/example/ajenda/ajenda/core/Job;"⟩ : MethodName)) (z := (⟨"com/example/ajenda/ajenda/core/JobsByNumber", "get", "(J)Lcom/example/ajenda/ajenda/core/Job;"⟩ : MethodName)) hown (mvT hZ (hw _ (List.mem_of_getElem? (i := 80) rfl))) (mvT hZ (hw _ (List.mem_of_getElem? (i := 81) rfl))) (notFace_of_selects (args := #[]) (mvT hZ (hw _ (List.mem_of_getElem? (i := 83) rfl)))) (mvT hZ (hw _ (List.mem_of_getElem? (i := 83) rfl))) (mvT hZ (hw _ (List.mem_of_getElem? (i := 82) rfl))) (by decide) (backOf (W := 0) (rm_get l Z a0 hw [] b21 ar29 kk29 own_g0 num nb none T29.heap n0 Vq29 Fq29 hn34 Fi34) hZ (hw _ (List.mem_of_getElem? (i := 84) rfl)) (hw _ (List.mem_of_getElem? (i := 50) rfl)) (by decide) (by decide)) q35a q35c (g := (mkF m 229 #[.val (.long na), .second, .val (.long nb), .second, .val (.long nc), .second, .val (.long nq), .second, .val (.int fl), .val (.int (0 : Int32)), .val (.ref b4), .val (.ref b9), .val (.ref b14), .val (.ref b20), .val (.ref b21), .val .null, .val .null, .val .null, .val .null] [(.long nb), (.ref b21)])) rfl (by rw [hml]; rfl) (Steps.refl _) (argsL := [(.long nb)]) (rest := []) (lenOf pd_7 rfl) rfl (by show 2 * 0 + _ ≤ _; exact Nat.le_of_eq rfl) (hb hby at_229) (fun _ _ => ⟨rfl, e33, (by decide : ((((((((1 + 2) + 5) + 2) + 5) + 2) + 5) + 1) + 1) + 0 ≤ _), (by decide : ((((((((8 + 4) + 29) + (8 + 4)) + 29) + (8 + 4)) + 29) + 2) + 16) + 0 ≤ _)⟩)
            dsimp only [Pt.U, Pt.locs, Pt.cells, Pt.slots] at X35 l35 y35 z35 st35 hQ35
            rw [l35, y35, z35] at X35
            obtain ⟨rfl, Nq35, e35⟩ := hQ35
            have N35 := Fr.app N33 Nq35
            refine own_viaW st35 ?_
            show own_GoW p e below s00 _ _ (T35.setTop (mkF m 232 #[.val (.long na), .second, .val (.long nb), .second, .val (.long nc), .second, .val (.long nq), .second, .val (.int fl), .val (.int (0 : Int32)), .val (.ref b4), .val (.ref b9), .val (.ref b14), .val (.ref b20), .val (.ref b21), .val .null, .val .null, .val .null, .val .null] [.null]))
            refine own_byW (fun tz kz => XS.aload X35.here hx rfl (hb hby at_232) rfl rfl kz) ?_
            show own_GoW p e below s00 _ _ (T35.setTop (mkF m 234 #[.val (.long na), .second, .val (.long nb), .second, .val (.long nc), .second, .val (.long nq), .second, .val (.int fl), .val (.int (0 : Int32)), .val (.ref b4), .val (.ref b9), .val (.ref b14), .val (.ref b20), .val (.ref b21), .val .null, .val .null, .val .null, .val .null] [.null, .null]))
            refine own_byW (fun tz kz => Jvm.RoadKit.acmp (g := (mkF m 234 #[.val (.long na), .second, .val (.long nb), .second, .val (.long nc), .second, .val (.long nq), .second, .val (.int fl), .val (.int (0 : Int32)), .val (.ref b4), .val (.ref b9), .val (.ref b14), .val (.ref b20), .val (.ref b21), .val .null, .val .null, .val .null, .val .null] [.null, .null])) X35 hx rfl rfl rfl (pc0 := 234) (pc' := 237) (same := true) rfl (hb hby at_234) rfl (decide_eq_true rfl) (by decide) (by decide) kz) ?_
            show own_GoW p e below s00 _ _ (T35.setTop (mkF m 237 #[.val (.long na), .second, .val (.long nb), .second, .val (.long nc), .second, .val (.long nq), .second, .val (.int fl), .val (.int (0 : Int32)), .val (.ref b4), .val (.ref b9), .val (.ref b14), .val (.ref b20), .val (.ref b21), .val .null, .val .null, .val .null, .val .null] []))
            refine own_byW (fun tz kz => XS.aload X35.here hx rfl (hb hby at_237) rfl rfl kz) ?_
            show own_GoW p e below s00 _ _ (T35.setTop (mkF m 239 #[.val (.long na), .second, .val (.long nb), .second, .val (.long nc), .second, .val (.long nq), .second, .val (.int fl), .val (.int (0 : Int32)), .val (.ref b4), .val (.ref b9), .val (.ref b14), .val (.ref b20), .val (.ref b21), .val .null, .val .null, .val .null, .val .null] [(.ref b21)]))
            refine own_byW (fun tz kz => XS.lload X35.here hx rfl (hb hby at_239) rfl kz) ?_
            show own_GoW p e below s00 _ _ (T35.setTop (mkF m 241 #[.val (.long na), .second, .val (.long nb), .second, .val (.long nc), .second, .val (.long nq), .second, .val (.int fl), .val (.int (0 : Int32)), .val (.ref b4), .val (.ref b9), .val (.ref b14), .val (.ref b20), .val (.ref b21), .val .null, .val .null, .val .null, .val .null] [(.long nc), (.ref b21)]))
            have hne36 : ∀ y ∈ ([] : List Addr), ¬ num y = nc := by
              intro y q
              exact absurd q (by simp)
            have Fi36 : own_Find own_g0 num nc none (own_H nc) := by
              exact (own_T.nil num own_H).miss (by simp) (own_H_lt _) hne36
            have hn36 : ∀ (k : Nat) (y : Addr), own_g0 k = some y → Fld Z T29.heap y "com/example/ajenda/ajenda/core/Job" "number" "J" (.long (num y)) := by
              intro k y q0
              have q := (own_T.nil num own_H).all k y q0
              exact absurd q (by simp)
            obtain ⟨cq37, kq37, q37a, q37b, q37c⟩ := isOf hZ e35 f32
            obtain ⟨_, _, ⟨T37, L37, k37, n37⟩, -, X37, ⟨Lc37, hQ37, l37, y37, z37⟩, st37⟩ := X35.virtualBack hx (y := (⟨"com/example/ajenda/ajenda/core/JobsByNumber", "get", "(J)Lcom/example/ajenda/ajenda/core/Job;"⟩ : MethodName)) (z := (⟨"com/example/ajenda/ajenda/core/JobsByNumber", "get", "(J)Lcom/example/ajenda/ajenda/core/Job;"⟩ : MethodName)) hown (mvT hZ (hw _ (List.mem_of_getElem? (i := 80) rfl))) (mvT hZ (hw _ (List.mem_of_getElem? (i := 81) rfl))) (notFace_of_selects (args := #[]) (mvT hZ (hw _ (List.mem_of_getElem? (i := 83) rfl)))) (mvT hZ (hw _ (List.mem_of_getElem? (i := 83) rfl))) (mvT hZ (hw _ (List.mem_of_getElem? (i := 82) rfl))) (by decide) (backOf (W := 0) (rm_get l Z a0 hw [] b21 ar29 kk29 own_g0 num nc none T29.heap n0 Vq29 Fq29 hn36 Fi36) hZ (hw _ (List.mem_of_getElem? (i := 84) rfl)) (hw _ (List.mem_of_getElem? (i := 50) rfl)) (by decide) (by decide)) q37a q37c (g := (mkF m 241 #[.val (.long na), .second, .val (.long nb), .second, .val (.long nc), .second, .val (.long nq), .second, .val (.int fl), .val (.int (0 : Int32)), .val (.ref b4), .val (.ref b9), .val (.ref b14), .val (.ref b20), .val (.ref b21), .val .null, .val .null, .val .null, .val .null] [(.long nc), (.ref b21)])) rfl (by rw [hml]; rfl) (Steps.refl _) (argsL := [(.long nc)]) (rest := []) (lenOf pd_7 rfl) rfl (by show 2 * 0 + _ ≤ _; exact Nat.le_of_eq rfl) (hb hby at_241) (fun _ _ => ⟨rfl, e35, (by decide : ((((((((1 + 2) + 5) + 2) + 5) + 2) + 5) + 1) + 1) + 0 ≤ _), (by decide : ((((((((8 + 4) + 29) + (8 + 4)) + 29) + (8 + 4)) + 29) + 2) + 16) + 0 ≤ _)⟩)
            dsimp only [Pt.U, Pt.locs, Pt.cells, Pt.slots] at X37 l37 y37 z37 st37 hQ37
            rw [l37, y37, z37] at X37
            obtain ⟨rfl, Nq37, e37⟩ := hQ37
            have N37 := Fr.app N35 Nq37
            refine own_viaW st37 ?_
            show own_GoW p e below s00 _ _ (T37.setTop (mkF m 244 #[.val (.long na), .second, .val (.long nb), .second, .val (.long nc), .second, .val (.long nq), .second, .val (.int fl), .val (.int (0 : Int32)), .val (.ref b4), .val (.ref b9), .val (.ref b14), .val (.ref b20), .val (.ref b21), .val .null, .val .null, .val .null, .val .null] [.null]))
            refine own_byW (fun tz kz => XS.aload X37.here hx rfl (hb hby at_244) rfl rfl kz) ?_
            show own_GoW p e below s00 _ _ (T37.setTop (mkF m 246 #[.val (.long na), .second, .val (.long nb), .second, .val (.long nc), .second, .val (.long nq), .second, .val (.int fl), .val (.int (0 : Int32)), .val (.ref b4), .val (.ref b9), .val (.ref b14), .val (.ref b20), .val (.ref b21), .val .null, .val .null, .val .null, .val .null] [.null, .null]))
            refine own_byW (fun tz kz => Jvm.RoadKit.acmp (g := (mkF m 246 #[.val (.long na), .second, .val (.long nb), .second, .val (.long nc), .second, .val (.long nq), .second, .val (.int fl), .val (.int (0 : Int32)), .val (.ref b4), .val (.ref b9), .val (.ref b14), .val (.ref b20), .val (.ref b21), .val .null, .val .null, .val .null, .val .null] [.null, .null])) X37 hx rfl rfl rfl (pc0 := 246) (pc' := 249) (same := true) rfl (hb hby at_246) rfl (decide_eq_true rfl) (by decide) (by decide) kz) ?_
            show own_GoW p e below s00 _ _ (T37.setTop (mkF m 249 #[.val (.long na), .second, .val (.long nb), .second, .val (.long nc), .second, .val (.long nq), .second, .val (.int fl), .val (.int (0 : Int32)), .val (.ref b4), .val (.ref b9), .val (.ref b14), .val (.ref b20), .val (.ref b21), .val .null, .val .null, .val .null, .val .null] []))
            refine own_byW (fun tz kz => XS.aload X37.here hx rfl (hb hby at_249) rfl rfl kz) ?_
            show own_GoW p e below s00 _ _ (T37.setTop (mkF m 251 #[.val (.long na), .second, .val (.long nb), .second, .val (.long nc), .second, .val (.long nq), .second, .val (.int fl), .val (.int (0 : Int32)), .val (.ref b4), .val (.ref b9), .val (.ref b14), .val (.ref b20), .val (.ref b21), .val .null, .val .null, .val .null, .val .null] [(.ref b21)]))
            refine own_byW (fun tz kz => XS.lload X37.here hx rfl (hb hby at_251) rfl kz) ?_
            show own_GoW p e below s00 _ _ (T37.setTop (mkF m 253 #[.val (.long na), .second, .val (.long nb), .second, .val (.long nc), .second, .val (.long nq), .second, .val (.int fl), .val (.int (0 : Int32)), .val (.ref b4), .val (.ref b9), .val (.ref b14), .val (.ref b20), .val (.ref b21), .val .null, .val .null, .val .null, .val .null] [(.long nq), (.ref b21)]))
            have hne38 : ∀ y ∈ ([] : List Addr), ¬ num y = na := by
              intro y q
              exact absurd q (by simp)
            have Fi38 : own_Find own_g0 num nq none (own_H nq) := by
              rw [hc179_30]
              exact (own_T.nil num own_H).miss (by simp) (own_H_lt _) hne38
            have hn38 : ∀ (k : Nat) (y : Addr), own_g0 k = some y → Fld Z T29.heap y "com/example/ajenda/ajenda/core/Job" "number" "J" (.long (num y)) := by
              intro k y q0
              have q := (own_T.nil num own_H).all k y q0
              exact absurd q (by simp)
            obtain ⟨cq39, kq39, q39a, q39b, q39c⟩ := isOf hZ e37 f32
            obtain ⟨_, _, ⟨T39, L39, k39, n39⟩, -, X39, ⟨Lc39, hQ39, l39, y39, z39⟩, st39⟩ := X37.virtualBack hx (y := (⟨"com/example/ajenda/ajenda/core/JobsByNumber", "get", "(J)Lcom/example/ajenda/ajenda/core/Job;"⟩ : MethodName)) (z := (⟨"com/example/ajenda/ajenda/core/JobsByNumber", "get", "(J)Lcom/example/ajenda/ajenda/core/Job;"⟩ : MethodName)) hown (mvT hZ (hw _ (List.mem_of_getElem? (i := 80) rfl))) (mvT hZ (hw _ (List.mem_of_getElem? (i := 81) rfl))) (notFace_of_selects (args := #[]) (mvT hZ (hw _ (List.mem_of_getElem? (i := 83) rfl)))) (mvT hZ (hw _ (List.mem_of_getElem? (i := 83) rfl))) (mvT hZ (hw _ (List.mem_of_getElem? (i := 82) rfl))) (by decide) (backOf (W := 0) (rm_get l Z a0 hw [] b21 ar29 kk29 own_g0 num nq none T29.heap n0 Vq29 Fq29 hn38 Fi38) hZ (hw _ (List.mem_of_getElem? (i := 84) rfl)) (hw _ (List.mem_of_getElem? (i := 50) rfl)) (by decide) (by decide)) q39a q39c (g := (mkF m 253 #[.val (.long na), .second, .val (.long nb), .second, .val (.long nc), .second, .val (.long nq), .second, .val (.int fl), .val (.int (0 : Int32)), .val (.ref b4), .val (.ref b9), .val (.ref b14), .val (.ref b20), .val (.ref b21), .val .null, .val .null, .val .null, .val .null] [(.long nq), (.ref b21)])) rfl (by rw [hml]; rfl) (Steps.refl _) (argsL := [(.long nq)]) (rest := []) (lenOf pd_7 rfl) rfl (by show 2 * 0 + _ ≤ _; exact Nat.le_of_eq rfl) (hb hby at_253) (fun _ _ => ⟨rfl, e37, (by decide : ((((((((1 + 2) + 5) + 2) + 5) + 2) + 5) + 1) + 1) + 0 ≤ _), (by decide : ((((((((8 + 4) + 29) + (8 + 4)) + 29) + (8 + 4)) + 29) + 2) + 16) + 0 ≤ _)⟩)
            dsimp only [Pt.U, Pt.locs, Pt.cells, Pt.slots] at X39 l39 y39 z39 st39 hQ39
            rw [l39, y39, z39] at X39
            obtain ⟨rfl, Nq39, e39⟩ := hQ39
            have N39 := Fr.app N37 Nq39
            refine own_viaW st39 ?_
            show own_GoW p e below s00 _ _ (T39.setTop (mkF m 256 #[.val (.long na), .second, .val (.long nb), .second, .val (.long nc), .second, .val (.long nq), .second, .val (.int fl), .val (.int (0 : Int32)), .val (.ref b4), .val (.ref b9), .val (.ref b14), .val (.ref b20), .val (.ref b21), .val .null, .val .null, .val .null, .val .null] [.null]))
            refine own_byW (fun tz kz => XS.aload X39.here hx rfl (hb hby at_256) rfl rfl kz) ?_
            show own_GoW p e below s00 _ _ (T39.setTop (mkF m 258 #[.val (.long na), .second, .val (.long nb), .second, .val (.long nc), .second, .val (.long nq), .second, .val (.int fl), .val (.int (0 : Int32)), .val (.ref b4), .val (.ref b9), .val (.ref b14), .val (.ref b20), .val (.ref b21), .val .null, .val .null, .val .null, .val .null] [.null, .null]))
            refine own_byW (fun tz kz => Jvm.RoadKit.acmp (g := (mkF m 258 #[.val (.long na), .second, .val (.long nb), .second, .val (.long nc), .second, .val (.long nq), .second, .val (.int fl), .val (.int (0 : Int32)), .val (.ref b4), .val (.ref b9), .val (.ref b14), .val (.ref b20), .val (.ref b21), .val .null, .val .null, .val .null, .val .null] [.null, .null])) X39 hx rfl rfl rfl (pc0 := 258) (pc' := 261) (same := true) rfl (hb hby at_258) rfl (decide_eq_true rfl) (by decide) (by decide) kz) ?_
            show own_GoW p e below s00 _ _ (T39.setTop (mkF m 261 #[.val (.long na), .second, .val (.long nb), .second, .val (.long nc), .second, .val (.long nq), .second, .val (.int fl), .val (.int (0 : Int32)), .val (.ref b4), .val (.ref b9), .val (.ref b14), .val (.ref b20), .val (.ref b21), .val .null, .val .null, .val .null, .val .null] []))
            refine own_byW (fun tz kz => XS.iconst X39.here hx rfl (hb hby at_261) kz) ?_
            show own_GoW p e below s00 _ _ (T39.setTop (mkF m 262 #[.val (.long na), .second, .val (.long nb), .second, .val (.long nc), .second, .val (.long nq), .second, .val (.int fl), .val (.int (0 : Int32)), .val (.ref b4), .val (.ref b9), .val (.ref b14), .val (.ref b20), .val (.ref b21), .val .null, .val .null, .val .null, .val .null] [(.int (1 : Int32))]))
            refine own_byW (fun tz kz => XS.goto X39.here hx rfl (pc0 := 262) (pc' := 266) rfl (hb hby at_262) (by decide) (by decide) kz) ?_
            show own_GoW p e below s00 _ _ (T39.setTop (mkF m 266 #[.val (.long na), .second, .val (.long nb), .second, .val (.long nc), .second, .val (.long nq), .second, .val (.int fl), .val (.int (0 : Int32)), .val (.ref b4), .val (.ref b9), .val (.ref b14), .val (.ref b20), .val (.ref b21), .val .null, .val .null, .val .null, .val .null] [(.int (1 : Int32))]))
            have A40 := (own_At.up (own_At.up A20 E21.1) Kq29.1)
            refine own_retIW X39 e39 A40 hx hlk (t := .boolean) hret (by simp) rfl (hb hby at_266) ?_ (by decide) (by decide)
            exact ⟨rfl, N39⟩
          · refine own_byW (fun tz kz => XS.ifYes X29.here hx rfl (pc0 := 179) (pc' := 189) rfl (hb hby at_179) rfl ((if0 _ _).trans (feq (fun q => hc179_30 ((lw_eq nq na).mp q))).2) (by decide) (by decide) kz) ?_
            show own_GoW p e below s00 _ _ (T29.setTop (mkF m 189 #[.val (.long na), .second, .val (.long nb), .second, .val (.long nc), .second, .val (.long nq), .second, .val (.int fl), .val (.int (0 : Int32)), .val (.ref b4), .val (.ref b9), .val (.ref b14), .val (.ref b20), .val (.ref b21), .val .null, .val .null, .val .null, .val .null] []))
            refine own_byW (fun tz kz => XS.lload X29.here hx rfl (hb hby at_189) rfl kz) ?_
            show own_GoW p e below s00 _ _ (T29.setTop (mkF m 191 #[.val (.long na), .second, .val (.long nb), .second, .val (.long nc), .second, .val (.long nq), .second, .val (.int fl), .val (.int (0 : Int32)), .val (.ref b4), .val (.ref b9), .val (.ref b14), .val (.ref b20), .val (.ref b21), .val .null, .val .null, .val .null, .val .null] [(.long nq)]))
            refine own_byW (fun tz kz => XS.lloadN X29.here hx rfl (hb hby at_191) rfl kz) ?_
            show own_GoW p e below s00 _ _ (T29.setTop (mkF m 192 #[.val (.long na), .second, .val (.long nb), .second, .val (.long nc), .second, .val (.long nq), .second, .val (.int fl), .val (.int (0 : Int32)), .val (.ref b4), .val (.ref b9), .val (.ref b14), .val (.ref b20), .val (.ref b21), .val .null, .val .null, .val .null, .val .null] [(.long nb), (.long nq)]))
            refine own_byW (fun tz kz => XS.lcmp X29.here hx rfl (hb hby at_192) rfl kz) ?_
            show own_GoW p e below s00 _ _ (T29.setTop (mkF m 193 #[.val (.long na), .second, .val (.long nb), .second, .val (.long nc), .second, .val (.long nq), .second, .val (.int fl), .val (.int (0 : Int32)), .val (.ref b4), .val (.ref b9), .val (.ref b14), .val (.ref b20), .val (.ref b21), .val .null, .val .null, .val .null, .val .null] [(.int (lcmpW nq nb))]))
            by_cases hc193_41 : nq = nb
            · refine own_byW (fun tz kz => XS.ifNo X29.here hx rfl (hb hby at_193) rfl ((if0 _ _).trans (teq ((lw_eq nq nb).mpr hc193_41)).2) kz) ?_
              show own_GoW p e below s00 _ _ (T29.setTop (mkF m 196 #[.val (.long na), .second, .val (.long nb), .second, .val (.long nc), .second, .val (.long nq), .second, .val (.int fl), .val (.int (0 : Int32)), .val (.ref b4), .val (.ref b9), .val (.ref b14), .val (.ref b20), .val (.ref b21), .val .null, .val .null, .val .null, .val .null] []))
              refine own_byW (fun tz kz => XS.aload X29.here hx rfl (hb hby at_196) rfl rfl kz) ?_
              show own_GoW p e below s00 _ _ (T29.setTop (mkF m 198 #[.val (.long na), .second, .val (.long nb), .second, .val (.long nc), .second, .val (.long nq), .second, .val (.int fl), .val (.int (0 : Int32)), .val (.ref b4), .val (.ref b9), .val (.ref b14), .val (.ref b20), .val (.ref b21), .val .null, .val .null, .val .null, .val .null] [.null]))
              refine own_byW (fun tz kz => XS.astore X29.here hx rfl (hb hby at_198) rfl rfl (l' := #[.val (.long na), .second, .val (.long nb), .second, .val (.long nc), .second, .val (.long nq), .second, .val (.int fl), .val (.int (0 : Int32)), .val (.ref b4), .val (.ref b9), .val (.ref b14), .val (.ref b20), .val (.ref b21), .val .null, .val .null, .val .null, .val .null]) rfl kz) ?_
              show own_GoW p e below s00 _ _ (T29.setTop (mkF m 200 #[.val (.long na), .second, .val (.long nb), .second, .val (.long nc), .second, .val (.long nq), .second, .val (.int fl), .val (.int (0 : Int32)), .val (.ref b4), .val (.ref b9), .val (.ref b14), .val (.ref b20), .val (.ref b21), .val .null, .val .null, .val .null, .val .null] []))
              refine own_byW (fun tz kz => XS.goto X29.here hx rfl (pc0 := 200) (pc' := 215) rfl (hb hby at_200) (by decide) (by decide) kz) ?_
              show own_GoW p e below s00 _ _ (T29.setTop (mkF m 215 #[.val (.long na), .second, .val (.long nb), .second, .val (.long nc), .second, .val (.long nq), .second, .val (.int fl), .val (.int (0 : Int32)), .val (.ref b4), .val (.ref b9), .val (.ref b14), .val (.ref b20), .val (.ref b21), .val .null, .val .null, .val .null, .val .null] []))
              refine own_byW (fun tz kz => XS.aload X29.here hx rfl (hb hby at_215) rfl rfl kz) ?_
              show own_GoW p e below s00 _ _ (T29.setTop (mkF m 217 #[.val (.long na), .second, .val (.long nb), .second, .val (.long nc), .second, .val (.long nq), .second, .val (.int fl), .val (.int (0 : Int32)), .val (.ref b4), .val (.ref b9), .val (.ref b14), .val (.ref b20), .val (.ref b21), .val .null, .val .null, .val .null, .val .null] [(.ref b21)]))
              refine own_byW (fun tz kz => XS.lloadN X29.here hx rfl (hb hby at_217) rfl kz) ?_
              show own_GoW p e below s00 _ _ (T29.setTop (mkF m 218 #[.val (.long na), .second, .val (.long nb), .second, .val (.long nc), .second, .val (.long nq), .second, .val (.int fl), .val (.int (0 : Int32)), .val (.ref b4), .val (.ref b9), .val (.ref b14), .val (.ref b20), .val (.ref b21), .val .null, .val .null, .val .null, .val .null] [(.long na), (.ref b21)]))
              have hne42 : ∀ y ∈ ([] : List Addr), ¬ num y = na := by
                intro y q
                exact absurd q (by simp)
              have Fi42 : own_Find own_g0 num na none (own_H na) := by
                exact (own_T.nil num own_H).miss (by simp) (own_H_lt _) hne42
              have hn42 : ∀ (k : Nat) (y : Addr), own_g0 k = some y → Fld Z T29.heap y "com/example/ajenda/ajenda/core/Job" "number" "J" (.long (num y)) := by
                intro k y q0
                have q := (own_T.nil num own_H).all k y q0
                exact absurd q (by simp)
              have f43 := (A21.keep Kq29)
              obtain ⟨cq44, kq44, q44a, q44b, q44c⟩ := isOf hZ e29 f43
              obtain ⟨_, _, ⟨T44, L44, k44, n44⟩, -, X44, ⟨Lc44, hQ44, l44, y44, z44⟩, st44⟩ := X29.virtualBack hx (y := (⟨"com/example/ajenda/ajenda/core/JobsByNumber", "get", "(J)Lcom/example/ajenda/ajenda/core/Job;"⟩ : MethodName)) (z := (⟨"com/example/ajenda/ajenda/core/JobsByNumber", "get", "(J)Lcom/example/ajenda/ajenda/core/Job;"⟩ : MethodName)) hown (mvT hZ (hw _ (List.mem_of_getElem? (i := 80) rfl))) (mvT hZ (hw _ (List.mem_of_getElem? (i := 81) rfl))) (notFace_of_selects (args := #[]) (mvT hZ (hw _ (List.mem_of_getElem? (i := 83) rfl)))) (mvT hZ (hw _ (List.mem_of_getElem? (i := 83) rfl))) (mvT hZ (hw _ (List.mem_of_getElem? (i := 82) rfl))) (by decide) (backOf (W := 0) (rm_get l Z a0 hw [] b21 ar29 kk29 own_g0 num na none T29.heap n0 Vq29 Fq29 hn42 Fi42) hZ (hw _ (List.mem_of_getElem? (i := 84) rfl)) (hw _ (List.mem_of_getElem? (i := 50) rfl)) (by decide) (by decide)) q44a q44c (g := (mkF m 218 #[.val (.long na), .second, .val (.long nb), .second, .val (.long nc), .second, .val (.long nq), .second, .val (.int fl), .val (.int (0 : Int32)), .val (.ref b4), .val (.ref b9), .val (.ref b14), .val (.ref b20), .val (.ref b21), .val .null, .val .null, .val .null, .val .null] [(.long na), (.ref b21)])) rfl (by rw [hml]; rfl) (Steps.refl _) (argsL := [(.long na)]) (rest := []) (lenOf pd_7 rfl) rfl (by show 2 * 0 + _ ≤ _; exact Nat.le_of_eq rfl) (hb hby at_218) (fun _ _ => ⟨rfl, e29, (by decide : ((((((((1 + 2) + 5) + 2) + 5) + 2) + 5) + 1) + 1) + 0 ≤ _), (by decide : ((((((((8 + 4) + 29) + (8 + 4)) + 29) + (8 + 4)) + 29) + 2) + 16) + 0 ≤ _)⟩)
              dsimp only [Pt.U, Pt.locs, Pt.cells, Pt.slots] at X44 l44 y44 z44 st44 hQ44
              rw [l44, y44, z44] at X44
              obtain ⟨rfl, Nq44, e44⟩ := hQ44
              have N44 := Fr.app N29 Nq44
              refine own_viaW st44 ?_
              show own_GoW p e below s00 _ _ (T44.setTop (mkF m 221 #[.val (.long na), .second, .val (.long nb), .second, .val (.long nc), .second, .val (.long nq), .second, .val (.int fl), .val (.int (0 : Int32)), .val (.ref b4), .val (.ref b9), .val (.ref b14), .val (.ref b20), .val (.ref b21), .val .null, .val .null, .val .null, .val .null] [.null]))
              refine own_byW (fun tz kz => XS.aload X44.here hx rfl (hb hby at_221) rfl rfl kz) ?_
              show own_GoW p e below s00 _ _ (T44.setTop (mkF m 223 #[.val (.long na), .second, .val (.long nb), .second, .val (.long nc), .second, .val (.long nq), .second, .val (.int fl), .val (.int (0 : Int32)), .val (.ref b4), .val (.ref b9), .val (.ref b14), .val (.ref b20), .val (.ref b21), .val .null, .val .null, .val .null, .val .null] [.null, .null]))
              refine own_byW (fun tz kz => Jvm.RoadKit.acmp (g := (mkF m 223 #[.val (.long na), .second, .val (.long nb), .second, .val (.long nc), .second, .val (.long nq), .second, .val (.int fl), .val (.int (0 : Int32)), .val (.ref b4), .val (.ref b9), .val (.ref b14), .val (.ref b20), .val (.ref b21), .val .null, .val .null, .val .null, .val .null] [.null, .null])) X44 hx rfl rfl rfl (pc0 := 223) (pc' := 226) (same := true) rfl (hb hby at_223) rfl (decide_eq_true rfl) (by decide) (by decide) kz) ?_
              show own_GoW p e below s00 _ _ (T44.setTop (mkF m 226 #[.val (.long na), .second, .val (.long nb), .second, .val (.long nc), .second, .val (.long nq), .second, .val (.int fl), .val (.int (0 : Int32)), .val (.ref b4), .val (.ref b9), .val (.ref b14), .val (.ref b20), .val (.ref b21), .val .null, .val .null, .val .null, .val .null] []))
              refine own_byW (fun tz kz => XS.aload X44.here hx rfl (hb hby at_226) rfl rfl kz) ?_
              show own_GoW p e below s00 _ _ (T44.setTop (mkF m 228 #[.val (.long na), .second, .val (.long nb), .second, .val (.long nc), .second, .val (.long nq), .second, .val (.int fl), .val (.int (0 : Int32)), .val (.ref b4), .val (.ref b9), .val (.ref b14), .val (.ref b20), .val (.ref b21), .val .null, .val .null, .val .null, .val .null] [(.ref b21)]))
              refine own_byW (fun tz kz => XS.lloadN X44.here hx rfl (hb hby at_228) rfl kz) ?_
              show own_GoW p e below s00 _ _ (T44.setTop (mkF m 229 #[.val (.long na), .second, .val (.long nb), .second, .val (.long nc), .second, .val (.long nq), .second, .val (.int fl), .val (.int (0 : Int32)), .val (.ref b4), .val (.ref b9), .val (.ref b14), .val (.ref b20), .val (.ref b21), .val .null, .val .null, .val .null, .val .null] [(.long nb), (.ref b21)]))
              have hne45 : ∀ y ∈ ([] : List Addr), ¬ num y = nb := by
                intro y q
                exact absurd q (by simp)
              have Fi45 : own_Find own_g0 num nb none (own_H nb) := by
                exact (own_T.nil num own_H).miss (by simp) (own_H_lt _) hne45
              have hn45 : ∀ (k : Nat) (y : Addr), own_g0 k = some y → Fld Z T29.heap y "com/example/ajenda/ajenda/core/Job" "number" "J" (.long (num y)) := by
                intro k y q0
                have q := (own_T.nil num own_H).all k y q0
                exact absurd q (by simp)
              obtain ⟨cq46, kq46, q46a, q46b, q46c⟩ := isOf hZ e44 f43
              obtain ⟨_, _, ⟨T46, L46, k46, n46⟩, -, X46, ⟨Lc46, hQ46, l46, y46, z46⟩, st46⟩ := X44.virtualBack hx (y := (⟨"com/example/ajenda/ajenda/core/JobsByNumber", "get", "(J)Lcom/example/ajenda/ajenda/core/Job;"⟩ : MethodName)) (z := (⟨"com/example/ajenda/ajenda/core/JobsByNumber", "get", "(J)Lcom/example/ajenda/ajenda/core/Job;"⟩ : MethodName)) hown (mvT hZ (hw _ (List.mem_of_getElem? (i := 80) rfl))) (mvT hZ (hw _ (List.mem_of_getElem? (i := 81) rfl))) (notFace_of_selects (args := #[]) (mvT hZ (hw _ (List.mem_of_getElem? (i := 83) rfl)))) (mvT hZ (hw _ (List.mem_of_getElem? (i := 83) rfl))) (mvT hZ (hw _ (List.mem_of_getElem? (i := 82) rfl))) (by decide) (backOf (W := 0) (rm_get l Z a0 hw [] b21 ar29 kk29 own_g0 num nb none T29.heap n0 Vq29 Fq29 hn45 Fi45) hZ (hw _ (List.mem_of_getElem? (i := 84) rfl)) (hw _ (List.mem_of_getElem? (i := 50) rfl)) (by decide) (by decide)) q46a q46c (g := (mkF m 229 #[.val (.long na), .second, .val (.long nb), .second, .val (.long nc), .second, .val (.long nq), .second, .val (.int fl), .val (.int (0 : Int32)), .val (.ref b4), .val (.ref b9), .val (.ref b14), .val (.ref b20), .val (.ref b21), .val .null, .val .null, .val .null, .val .null] [(.long nb), (.ref b21)])) rfl (by rw [hml]; rfl) (Steps.refl _) (argsL := [(.long nb)]) (rest := []) (lenOf pd_7 rfl) rfl (by show 2 * 0 + _ ≤ _; exact Nat.le_of_eq rfl) (hb hby at_229) (fun _ _ => ⟨rfl, e44, (by decide : ((((((((1 + 2) + 5) + 2) + 5) + 2) + 5) + 1) + 1) + 0 ≤ _), (by decide : ((((((((8 + 4) + 29) + (8 + 4)) + 29) + (8 + 4)) + 29) + 2) + 16) + 0 ≤ _)⟩)
              dsimp only [Pt.U, Pt.locs, Pt.cells, Pt.slots] at X46 l46 y46 z46 st46 hQ46
              rw [l46, y46, z46] at X46
              obtain ⟨rfl, Nq46, e46⟩ := hQ46
              have N46 := Fr.app N44 Nq46
              refine own_viaW st46 ?_
              show own_GoW p e below s00 _ _ (T46.setTop (mkF m 232 #[.val (.long na), .second, .val (.long nb), .second, .val (.long nc), .second, .val (.long nq), .second, .val (.int fl), .val (.int (0 : Int32)), .val (.ref b4), .val (.ref b9), .val (.ref b14), .val (.ref b20), .val (.ref b21), .val .null, .val .null, .val .null, .val .null] [.null]))
              refine own_byW (fun tz kz => XS.aload X46.here hx rfl (hb hby at_232) rfl rfl kz) ?_
              show own_GoW p e below s00 _ _ (T46.setTop (mkF m 234 #[.val (.long na), .second, .val (.long nb), .second, .val (.long nc), .second, .val (.long nq), .second, .val (.int fl), .val (.int (0 : Int32)), .val (.ref b4), .val (.ref b9), .val (.ref b14), .val (.ref b20), .val (.ref b21), .val .null, .val .null, .val .null, .val .null] [.null, .null]))
              refine own_byW (fun tz kz => Jvm.RoadKit.acmp (g := (mkF m 234 #[.val (.long na), .second, .val (.long nb), .second, .val (.long nc), .second, .val (.long nq), .second, .val (.int fl), .val (.int (0 : Int32)), .val (.ref b4), .val (.ref b9), .val (.ref b14), .val (.ref b20), .val (.ref b21), .val .null, .val .null, .val .null, .val .null] [.null, .null])) X46 hx rfl rfl rfl (pc0 := 234) (pc' := 237) (same := true) rfl (hb hby at_234) rfl (decide_eq_true rfl) (by decide) (by decide) kz) ?_
              show own_GoW p e below s00 _ _ (T46.setTop (mkF m 237 #[.val (.long na), .second, .val (.long nb), .second, .val (.long nc), .second, .val (.long nq), .second, .val (.int fl), .val (.int (0 : Int32)), .val (.ref b4), .val (.ref b9), .val (.ref b14), .val (.ref b20), .val (.ref b21), .val .null, .val .null, .val .null, .val .null] []))
              refine own_byW (fun tz kz => XS.aload X46.here hx rfl (hb hby at_237) rfl rfl kz) ?_
              show own_GoW p e below s00 _ _ (T46.setTop (mkF m 239 #[.val (.long na), .second, .val (.long nb), .second, .val (.long nc), .second, .val (.long nq), .second, .val (.int fl), .val (.int (0 : Int32)), .val (.ref b4), .val (.ref b9), .val (.ref b14), .val (.ref b20), .val (.ref b21), .val .null, .val .null, .val .null, .val .null] [(.ref b21)]))
              refine own_byW (fun tz kz => XS.lload X46.here hx rfl (hb hby at_239) rfl kz) ?_
              show own_GoW p e below s00 _ _ (T46.setTop (mkF m 241 #[.val (.long na), .second, .val (.long nb), .second, .val (.long nc), .second, .val (.long nq), .second, .val (.int fl), .val (.int (0 : Int32)), .val (.ref b4), .val (.ref b9), .val (.ref b14), .val (.ref b20), .val (.ref b21), .val .null, .val .null, .val .null, .val .null] [(.long nc), (.ref b21)]))
              have hne47 : ∀ y ∈ ([] : List Addr), ¬ num y = nc := by
                intro y q
                exact absurd q (by simp)
              have Fi47 : own_Find own_g0 num nc none (own_H nc) := by
                exact (own_T.nil num own_H).miss (by simp) (own_H_lt _) hne47
              have hn47 : ∀ (k : Nat) (y : Addr), own_g0 k = some y → Fld Z T29.heap y "com/example/ajenda/ajenda/core/Job" "number" "J" (.long (num y)) := by
                intro k y q0
                have q := (own_T.nil num own_H).all k y q0
                exact absurd q (by simp)
              obtain ⟨cq48, kq48, q48a, q48b, q48c⟩ := isOf hZ e46 f43
              obtain ⟨_, _, ⟨T48, L48, k48, n48⟩, -, X48, ⟨Lc48, hQ48, l48, y48, z48⟩, st48⟩ := X46.virtualBack hx (y := (⟨"com/example/ajenda/ajenda/core/JobsByNumber", "get", "(J)Lcom/example/ajenda/ajenda/core/Job;"⟩ : MethodName)) (z := (⟨"com/example/ajenda/ajenda/core/JobsByNumber", "get", "(J)Lcom/example/ajenda/ajenda/core/Job;"⟩ : MethodName)) hown (mvT hZ (hw _ (List.mem_of_getElem? (i := 80) rfl))) (mvT hZ (hw _ (List.mem_of_getElem? (i := 81) rfl))) (notFace_of_selects (args := #[]) (mvT hZ (hw _ (List.mem_of_getElem? (i := 83) rfl)))) (mvT hZ (hw _ (List.mem_of_getElem? (i := 83) rfl))) (mvT hZ (hw _ (List.mem_of_getElem? (i := 82) rfl))) (by decide) (backOf (W := 0) (rm_get l Z a0 hw [] b21 ar29 kk29 own_g0 num nc none T29.heap n0 Vq29 Fq29 hn47 Fi47) hZ (hw _ (List.mem_of_getElem? (i := 84) rfl)) (hw _ (List.mem_of_getElem? (i := 50) rfl)) (by decide) (by decide)) q48a q48c (g := (mkF m 241 #[.val (.long na), .second, .val (.long nb), .second, .val (.long nc), .second, .val (.long nq), .second, .val (.int fl), .val (.int (0 : Int32)), .val (.ref b4), .val (.ref b9), .val (.ref b14), .val (.ref b20), .val (.ref b21), .val .null, .val .null, .val .null, .val .null] [(.long nc), (.ref b21)])) rfl (by rw [hml]; rfl) (Steps.refl _) (argsL := [(.long nc)]) (rest := []) (lenOf pd_7 rfl) rfl (by show 2 * 0 + _ ≤ _; exact Nat.le_of_eq rfl) (hb hby at_241) (fun _ _ => ⟨rfl, e46, (by decide : ((((((((1 + 2) + 5) + 2) + 5) + 2) + 5) + 1) + 1) + 0 ≤ _), (by decide : ((((((((8 + 4) + 29) + (8 + 4)) + 29) + (8 + 4)) + 29) + 2) + 16) + 0 ≤ _)⟩)
              dsimp only [Pt.U, Pt.locs, Pt.cells, Pt.slots] at X48 l48 y48 z48 st48 hQ48
              rw [l48, y48, z48] at X48
              obtain ⟨rfl, Nq48, e48⟩ := hQ48
              have N48 := Fr.app N46 Nq48
              refine own_viaW st48 ?_
              show own_GoW p e below s00 _ _ (T48.setTop (mkF m 244 #[.val (.long na), .second, .val (.long nb), .second, .val (.long nc), .second, .val (.long nq), .second, .val (.int fl), .val (.int (0 : Int32)), .val (.ref b4), .val (.ref b9), .val (.ref b14), .val (.ref b20), .val (.ref b21), .val .null, .val .null, .val .null, .val .null] [.null]))
              refine own_byW (fun tz kz => XS.aload X48.here hx rfl (hb hby at_244) rfl rfl kz) ?_
              show own_GoW p e below s00 _ _ (T48.setTop (mkF m 246 #[.val (.long na), .second, .val (.long nb), .second, .val (.long nc), .second, .val (.long nq), .second, .val (.int fl), .val (.int (0 : Int32)), .val (.ref b4), .val (.ref b9), .val (.ref b14), .val (.ref b20), .val (.ref b21), .val .null, .val .null, .val .null, .val .null] [.null, .null]))
              refine own_byW (fun tz kz => Jvm.RoadKit.acmp (g := (mkF m 246 #[.val (.long na), .second, .val (.long nb), .second, .val (.long nc), .second, .val (.long nq), .second, .val (.int fl), .val (.int (0 : Int32)), .val (.ref b4), .val (.ref b9), .val (.ref b14), .val (.ref b20), .val (.ref b21), .val .null, .val .null, .val .null, .val .null] [.null, .null])) X48 hx rfl rfl rfl (pc0 := 246) (pc' := 249) (same := true) rfl (hb hby at_246) rfl (decide_eq_true rfl) (by decide) (by decide) kz) ?_
              show own_GoW p e below s00 _ _ (T48.setTop (mkF m 249 #[.val (.long na), .second, .val (.long nb), .second, .val (.long nc), .second, .val (.long nq), .second, .val (.int fl), .val (.int (0 : Int32)), .val (.ref b4), .val (.ref b9), .val (.ref b14), .val (.ref b20), .val (.ref b21), .val .null, .val .null, .val .null, .val .null] []))
              refine own_byW (fun tz kz => XS.aload X48.here hx rfl (hb hby at_249) rfl rfl kz) ?_
              show own_GoW p e below s00 _ _ (T48.setTop (mkF m 251 #[.val (.long na), .second, .val (.long nb), .second, .val (.long nc), .second, .val (.long nq), .second, .val (.int fl), .val (.int (0 : Int32)), .val (.ref b4), .val (.ref b9), .val (.ref b14), .val (.ref b20), .val (.ref b21), .val .null, .val .null, .val .null, .val .null] [(.ref b21)]))
              refine own_byW (fun tz kz => XS.lload X48.here hx rfl (hb hby at_251) rfl kz) ?_
              show own_GoW p e below s00 _ _ (T48.setTop (mkF m 253 #[.val (.long na), .second, .val (.long nb), .second, .val (.long nc), .second, .val (.long nq), .second, .val (.int fl), .val (.int (0 : Int32)), .val (.ref b4), .val (.ref b9), .val (.ref b14), .val (.ref b20), .val (.ref b21), .val .null, .val .null, .val .null, .val .null] [(.long nq), (.ref b21)]))
              have hne49 : ∀ y ∈ ([] : List Addr), ¬ num y = nb := by
                intro y q
                exact absurd q (by simp)
              have Fi49 : own_Find own_g0 num nq none (own_H nq) := by
                rw [hc193_41]
                exact (own_T.nil num own_H).miss (by simp) (own_H_lt _) hne49
              have hn49 : ∀ (k : Nat) (y : Addr), own_g0 k = some y → Fld Z T29.heap y "com/example/ajenda/ajenda/core/Job" "number" "J" (.long (num y)) := by
                intro k y q0
                have q := (own_T.nil num own_H).all k y q0
                exact absurd q (by simp)
              obtain ⟨cq50, kq50, q50a, q50b, q50c⟩ := isOf hZ e48 f43
              obtain ⟨_, _, ⟨T50, L50, k50, n50⟩, -, X50, ⟨Lc50, hQ50, l50, y50, z50⟩, st50⟩ := X48.virtualBack hx (y := (⟨"com/example/ajenda/ajenda/core/JobsByNumber", "get", "(J)Lcom/example/ajenda/ajenda/core/Job;"⟩ : MethodName)) (z := (⟨"com/example/ajenda/ajenda/core/JobsByNumber", "get", "(J)Lcom/example/ajenda/ajenda/core/Job;"⟩ : MethodName)) hown (mvT hZ (hw _ (List.mem_of_getElem? (i := 80) rfl))) (mvT hZ (hw _ (List.mem_of_getElem? (i := 81) rfl))) (notFace_of_selects (args := #[]) (mvT hZ (hw _ (List.mem_of_getElem? (i := 83) rfl)))) (mvT hZ (hw _ (List.mem_of_getElem? (i := 83) rfl))) (mvT hZ (hw _ (List.mem_of_getElem? (i := 82) rfl))) (by decide) (backOf (W := 0) (rm_get l Z a0 hw [] b21 ar29 kk29 own_g0 num nq none T29.heap n0 Vq29 Fq29 hn49 Fi49) hZ (hw _ (List.mem_of_getElem? (i := 84) rfl)) (hw _ (List.mem_of_getElem? (i := 50) rfl)) (by decide) (by decide)) q50a q50c (g := (mkF m 253 #[.val (.long na), .second, .val (.long nb), .second, .val (.long nc), .second, .val (.long nq), .second, .val (.int fl), .val (.int (0 : Int32)), .val (.ref b4), .val (.ref b9), .val (.ref b14), .val (.ref b20), .val (.ref b21), .val .null, .val .null, .val .null, .val .null] [(.long nq), (.ref b21)])) rfl (by rw [hml]; rfl) (Steps.refl _) (argsL := [(.long nq)]) (rest := []) (lenOf pd_7 rfl) rfl (by show 2 * 0 + _ ≤ _; exact Nat.le_of_eq rfl) (hb hby at_253) (fun _ _ => ⟨rfl, e48, (by decide : ((((((((1 + 2) + 5) + 2) + 5) + 2) + 5) + 1) + 1) + 0 ≤ _), (by decide : ((((((((8 + 4) + 29) + (8 + 4)) + 29) + (8 + 4)) + 29) + 2) + 16) + 0 ≤ _)⟩)
              dsimp only [Pt.U, Pt.locs, Pt.cells, Pt.slots] at X50 l50 y50 z50 st50 hQ50
              rw [l50, y50, z50] at X50
              obtain ⟨rfl, Nq50, e50⟩ := hQ50
              have N50 := Fr.app N48 Nq50
              refine own_viaW st50 ?_
              show own_GoW p e below s00 _ _ (T50.setTop (mkF m 256 #[.val (.long na), .second, .val (.long nb), .second, .val (.long nc), .second, .val (.long nq), .second, .val (.int fl), .val (.int (0 : Int32)), .val (.ref b4), .val (.ref b9), .val (.ref b14), .val (.ref b20), .val (.ref b21), .val .null, .val .null, .val .null, .val .null] [.null]))
              refine own_byW (fun tz kz => XS.aload X50.here hx rfl (hb hby at_256) rfl rfl kz) ?_
              show own_GoW p e below s00 _ _ (T50.setTop (mkF m 258 #[.val (.long na), .second, .val (.long nb), .second, .val (.long nc), .second, .val (.long nq), .second, .val (.int fl), .val (.int (0 : Int32)), .val (.ref b4), .val (.ref b9), .val (.ref b14), .val (.ref b20), .val (.ref b21), .val .null, .val .null, .val .null, .val .null] [.null, .null]))
              refine own_byW (fun tz kz => Jvm.RoadKit.acmp (g := (mkF m 258 #[.val (.long na), .second, .val (.long nb), .second, .val (.long nc), .second, .val (.long nq), .second, .val (.int fl), .val (.int (0 : Int32)), .val (.ref b4), .val (.ref b9), .val (.ref b14), .val (.ref b20), .val (.ref b21), .val .null, .val .null, .val .null, .val .null] [.null, .null])) X50 hx rfl rfl rfl (pc0 := 258) (pc' := 261) (same := true) rfl (hb hby at_258) rfl (decide_eq_true rfl) (by decide) (by decide) kz) ?_
              show own_GoW p e below s00 _ _ (T50.setTop (mkF m 261 #[.val (.long na), .second, .val (.long nb), .second, .val (.long nc), .second, .val (.long nq), .second, .val (.int fl), .val (.int (0 : Int32)), .val (.ref b4), .val (.ref b9), .val (.ref b14), .val (.ref b20), .val (.ref b21), .val .null, .val .null, .val .null, .val .null] []))
              refine own_byW (fun tz kz => XS.iconst X50.here hx rfl (hb hby at_261) kz) ?_
              show own_GoW p e below s00 _ _ (T50.setTop (mkF m 262 #[.val (.long na), .second, .val (.long nb), .second, .val (.long nc), .second, .val (.long nq), .second, .val (.int fl), .val (.int (0 : Int32)), .val (.ref b4), .val (.ref b9), .val (.ref b14), .val (.ref b20), .val (.ref b21), .val .null, .val .null, .val .null, .val .null] [(.int (1 : Int32))]))
              refine own_byW (fun tz kz => XS.goto X50.here hx rfl (pc0 := 262) (pc' := 266) rfl (hb hby at_262) (by decide) (by decide) kz) ?_
              show own_GoW p e below s00 _ _ (T50.setTop (mkF m 266 #[.val (.long na), .second, .val (.long nb), .second, .val (.long nc), .second, .val (.long nq), .second, .val (.int fl), .val (.int (0 : Int32)), .val (.ref b4), .val (.ref b9), .val (.ref b14), .val (.ref b20), .val (.ref b21), .val .null, .val .null, .val .null, .val .null] [(.int (1 : Int32))]))
              have A51 := (own_At.up (own_At.up A20 E21.1) Kq29.1)
              refine own_retIW X50 e50 A51 hx hlk (t := .boolean) hret (by simp) rfl (hb hby at_266) ?_ (by decide) (by decide)
              exact ⟨rfl, N50⟩
            · refine own_byW (fun tz kz => XS.ifYes X29.here hx rfl (pc0 := 193) (pc' := 203) rfl (hb hby at_193) rfl ((if0 _ _).trans (feq (fun q => hc193_41 ((lw_eq nq nb).mp q))).2) (by decide) (by decide) kz) ?_
              show own_GoW p e below s00 _ _ (T29.setTop (mkF m 203 #[.val (.long na), .second, .val (.long nb), .second, .val (.long nc), .second, .val (.long nq), .second, .val (.int fl), .val (.int (0 : Int32)), .val (.ref b4), .val (.ref b9), .val (.ref b14), .val (.ref b20), .val (.ref b21), .val .null, .val .null, .val .null, .val .null] []))
              refine own_byW (fun tz kz => XS.lload X29.here hx rfl (hb hby at_203) rfl kz) ?_
              show own_GoW p e below s00 _ _ (T29.setTop (mkF m 205 #[.val (.long na), .second, .val (.long nb), .second, .val (.long nc), .second, .val (.long nq), .second, .val (.int fl), .val (.int (0 : Int32)), .val (.ref b4), .val (.ref b9), .val (.ref b14), .val (.ref b20), .val (.ref b21), .val .null, .val .null, .val .null, .val .null] [(.long nq)]))
              refine own_byW (fun tz kz => XS.lload X29.here hx rfl (hb hby at_205) rfl kz) ?_
              show own_GoW p e below s00 _ _ (T29.setTop (mkF m 207 #[.val (.long na), .second, .val (.long nb), .second, .val (.long nc), .second, .val (.long nq), .second, .val (.int fl), .val (.int (0 : Int32)), .val (.ref b4), .val (.ref b9), .val (.ref b14), .val (.ref b20), .val (.ref b21), .val .null, .val .null, .val .null, .val .null] [(.long nc), (.long nq)]))
              refine own_byW (fun tz kz => XS.lcmp X29.here hx rfl (hb hby at_207) rfl kz) ?_
              show own_GoW p e below s00 _ _ (T29.setTop (mkF m 208 #[.val (.long na), .second, .val (.long nb), .second, .val (.long nc), .second, .val (.long nq), .second, .val (.int fl), .val (.int (0 : Int32)), .val (.ref b4), .val (.ref b9), .val (.ref b14), .val (.ref b20), .val (.ref b21), .val .null, .val .null, .val .null, .val .null] [(.int (lcmpW nq nc))]))
              by_cases hc208_52 : nq = nc
              · refine own_byW (fun tz kz => XS.ifNo X29.here hx rfl (hb hby at_208) rfl ((if0 _ _).trans (teq ((lw_eq nq nc).mpr hc208_52)).2) kz) ?_
                show own_GoW p e below s00 _ _ (T29.setTop (mkF m 211 #[.val (.long na), .second, .val (.long nb), .second, .val (.long nc), .second, .val (.long nq), .second, .val (.int fl), .val (.int (0 : Int32)), .val (.ref b4), .val (.ref b9), .val (.ref b14), .val (.ref b20), .val (.ref b21), .val .null, .val .null, .val .null, .val .null] []))
                refine own_byW (fun tz kz => XS.aload X29.here hx rfl (hb hby at_211) rfl rfl kz) ?_
                show own_GoW p e below s00 _ _ (T29.setTop (mkF m 213 #[.val (.long na), .second, .val (.long nb), .second, .val (.long nc), .second, .val (.long nq), .second, .val (.int fl), .val (.int (0 : Int32)), .val (.ref b4), .val (.ref b9), .val (.ref b14), .val (.ref b20), .val (.ref b21), .val .null, .val .null, .val .null, .val .null] [.null]))
                refine own_byW (fun tz kz => XS.astore X29.here hx rfl (hb hby at_213) rfl rfl (l' := #[.val (.long na), .second, .val (.long nb), .second, .val (.long nc), .second, .val (.long nq), .second, .val (.int fl), .val (.int (0 : Int32)), .val (.ref b4), .val (.ref b9), .val (.ref b14), .val (.ref b20), .val (.ref b21), .val .null, .val .null, .val .null, .val .null]) rfl kz) ?_
                show own_GoW p e below s00 _ _ (T29.setTop (mkF m 215 #[.val (.long na), .second, .val (.long nb), .second, .val (.long nc), .second, .val (.long nq), .second, .val (.int fl), .val (.int (0 : Int32)), .val (.ref b4), .val (.ref b9), .val (.ref b14), .val (.ref b20), .val (.ref b21), .val .null, .val .null, .val .null, .val .null] []))
                refine own_byW (fun tz kz => XS.aload X29.here hx rfl (hb hby at_215) rfl rfl kz) ?_
                show own_GoW p e below s00 _ _ (T29.setTop (mkF m 217 #[.val (.long na), .second, .val (.long nb), .second, .val (.long nc), .second, .val (.long nq), .second, .val (.int fl), .val (.int (0 : Int32)), .val (.ref b4), .val (.ref b9), .val (.ref b14), .val (.ref b20), .val (.ref b21), .val .null, .val .null, .val .null, .val .null] [(.ref b21)]))
                refine own_byW (fun tz kz => XS.lloadN X29.here hx rfl (hb hby at_217) rfl kz) ?_
                show own_GoW p e below s00 _ _ (T29.setTop (mkF m 218 #[.val (.long na), .second, .val (.long nb), .second, .val (.long nc), .second, .val (.long nq), .second, .val (.int fl), .val (.int (0 : Int32)), .val (.ref b4), .val (.ref b9), .val (.ref b14), .val (.ref b20), .val (.ref b21), .val .null, .val .null, .val .null, .val .null] [(.long na), (.ref b21)]))
                have hne53 : ∀ y ∈ ([] : List Addr), ¬ num y = na := by
                  intro y q
                  exact absurd q (by simp)
                have Fi53 : own_Find own_g0 num na none (own_H na) := by
                  exact (own_T.nil num own_H).miss (by simp) (own_H_lt _) hne53
                have hn53 : ∀ (k : Nat) (y : Addr), own_g0 k = some y → Fld Z T29.heap y "com/example/ajenda/ajenda/core/Job" "number" "J" (.long (num y)) := by
                  intro k y q0
                  have q := (own_T.nil num own_H).all k y q0
                  exact absurd q (by simp)
                have f54 := (A21.keep Kq29)
                obtain ⟨cq55, kq55, q55a, q55b, q55c⟩ := isOf hZ e29 f54
                obtain ⟨_, _, ⟨T55, L55, k55, n55⟩, -, X55, ⟨Lc55, hQ55, l55, y55, z55⟩, st55⟩ := X29.virtualBack hx (y := (⟨"com/example/ajenda/ajenda/core/JobsByNumber", "get", "(J)Lcom/example/ajenda/ajenda/core/Job;"⟩ : MethodName)) (z := (⟨"com/example/ajenda/ajenda/core/JobsByNumber", "get", "(J)Lcom/example/ajenda/ajenda/core/Job;"⟩ : MethodName)) hown (mvT hZ (hw _ (List.mem_of_getElem? (i := 80) rfl))) (mvT hZ (hw _ (List.mem_of_getElem? (i := 81) rfl))) (notFace_of_selects (args := #[]) (mvT hZ (hw _ (List.mem_of_getElem? (i := 83) rfl)))) (mvT hZ (hw _ (List.mem_of_getElem? (i := 83) rfl))) (mvT hZ (hw _ (List.mem_of_getElem? (i := 82) rfl))) (by decide) (backOf (W := 0) (rm_get l Z a0 hw [] b21 ar29 kk29 own_g0 num na none T29.heap n0 Vq29 Fq29 hn53 Fi53) hZ (hw _ (List.mem_of_getElem? (i := 84) rfl)) (hw _ (List.mem_of_getElem? (i := 50) rfl)) (by decide) (by decide)) q55a q55c (g := (mkF m 218 #[.val (.long na), .second, .val (.long nb), .second, .val (.long nc), .second, .val (.long nq), .second, .val (.int fl), .val (.int (0 : Int32)), .val (.ref b4), .val (.ref b9), .val (.ref b14), .val (.ref b20), .val (.ref b21), .val .null, .val .null, .val .null, .val .null] [(.long na), (.ref b21)])) rfl (by rw [hml]; rfl) (Steps.refl _) (argsL := [(.long na)]) (rest := []) (lenOf pd_7 rfl) rfl (by show 2 * 0 + _ ≤ _; exact Nat.le_of_eq rfl) (hb hby at_218) (fun _ _ => ⟨rfl, e29, (by decide : ((((((((1 + 2) + 5) + 2) + 5) + 2) + 5) + 1) + 1) + 0 ≤ _), (by decide : ((((((((8 + 4) + 29) + (8 + 4)) + 29) + (8 + 4)) + 29) + 2) + 16) + 0 ≤ _)⟩)
                dsimp only [Pt.U, Pt.locs, Pt.cells, Pt.slots] at X55 l55 y55 z55 st55 hQ55
                rw [l55, y55, z55] at X55
                obtain ⟨rfl, Nq55, e55⟩ := hQ55
                have N55 := Fr.app N29 Nq55
                refine own_viaW st55 ?_
                show own_GoW p e below s00 _ _ (T55.setTop (mkF m 221 #[.val (.long na), .second, .val (.long nb), .second, .val (.long nc), .second, .val (.long nq), .second, .val (.int fl), .val (.int (0 : Int32)), .val (.ref b4), .val (.ref b9), .val (.ref b14), .val (.ref b20), .val (.ref b21), .val .null, .val .null, .val .null, .val .null] [.null]))
                refine own_byW (fun tz kz => XS.aload X55.here hx rfl (hb hby at_221) rfl rfl kz) ?_
                show own_GoW p e below s00 _ _ (T55.setTop (mkF m 223 #[.val (.long na), .second, .val (.long nb), .second, .val (.long nc), .second, .val (.long nq), .second, .val (.int fl), .val (.int (0 : Int32)), .val (.ref b4), .val (.ref b9), .val (.ref b14), .val (.ref b20), .val (.ref b21), .val .null, .val .null, .val .null, .val .null] [.null, .null]))
                refine own_byW (fun tz kz => Jvm.RoadKit.acmp (g := (mkF m 223 #[.val (.long na), .second, .val (.long nb), .second, .val (.long nc), .second, .val (.long nq), .second, .val (.int fl), .val (.int (0 : Int32)), .val (.ref b4), .val (.ref b9), .val (.ref b14), .val (.ref b20), .val (.ref b21), .val .null, .val .null, .val .null, .val .null] [.null, .null])) X55 hx rfl rfl rfl (pc0 := 223) (pc' := 226) (same := true) rfl (hb hby at_223) rfl (decide_eq_true rfl) (by decide) (by decide) kz) ?_
                show own_GoW p e below s00 _ _ (T55.setTop (mkF m 226 #[.val (.long na), .second, .val (.long nb), .second, .val (.long nc), .second, .val (.long nq), .second, .val (.int fl), .val (.int (0 : Int32)), .val (.ref b4), .val (.ref b9), .val (.ref b14), .val (.ref b20), .val (.ref b21), .val .null, .val .null, .val .null, .val .null] []))
                refine own_byW (fun tz kz => XS.aload X55.here hx rfl (hb hby at_226) rfl rfl kz) ?_
                show own_GoW p e below s00 _ _ (T55.setTop (mkF m 228 #[.val (.long na), .second, .val (.long nb), .second, .val (.long nc), .second, .val (.long nq), .second, .val (.int fl), .val (.int (0 : Int32)), .val (.ref b4), .val (.ref b9), .val (.ref b14), .val (.ref b20), .val (.ref b21), .val .null, .val .null, .val .null, .val .null] [(.ref b21)]))
                refine own_byW (fun tz kz => XS.lloadN X55.here hx rfl (hb hby at_228) rfl kz) ?_
                show own_GoW p e below s00 _ _ (T55.setTop (mkF m 229 #[.val (.long na), .second, .val (.long nb), .second, .val (.long nc), .second, .val (.long nq), .second, .val (.int fl), .val (.int (0 : Int32)), .val (.ref b4), .val (.ref b9), .val (.ref b14), .val (.ref b20), .val (.ref b21), .val .null, .val .null, .val .null, .val .null] [(.long nb), (.ref b21)]))
                have hne56 : ∀ y ∈ ([] : List Addr), ¬ num y = nb := by
                  intro y q
                  exact absurd q (by simp)
                have Fi56 : own_Find own_g0 num nb none (own_H nb) := by
                  exact (own_T.nil num own_H).miss (by simp) (own_H_lt _) hne56
                have hn56 : ∀ (k : Nat) (y : Addr), own_g0 k = some y → Fld Z T29.heap y "com/example/ajenda/ajenda/core/Job" "number" "J" (.long (num y)) := by
                  intro k y q0
                  have q := (own_T.nil num own_H).all k y q0
                  exact absurd q (by simp)
                obtain ⟨cq57, kq57, q57a, q57b, q57c⟩ := isOf hZ e55 f54
                obtain ⟨_, _, ⟨T57, L57, k57, n57⟩, -, X57, ⟨Lc57, hQ57, l57, y57, z57⟩, st57⟩ := X55.virtualBack hx (y := (⟨"com/example/ajenda/ajenda/core/JobsByNumber", "get", "(J)Lcom/example/ajenda/ajenda/core/Job;"⟩ : MethodName)) (z := (⟨"com/example/ajenda/ajenda/core/JobsByNumber", "get", "(J)Lcom/example/ajenda/ajenda/core/Job;"⟩ : MethodName)) hown (mvT hZ (hw _ (List.mem_of_getElem? (i := 80) rfl))) (mvT hZ (hw _ (List.mem_of_getElem? (i := 81) rfl))) (notFace_of_selects (args := #[]) (mvT hZ (hw _ (List.mem_of_getElem? (i := 83) rfl)))) (mvT hZ (hw _ (List.mem_of_getElem? (i := 83) rfl))) (mvT hZ (hw _ (List.mem_of_getElem? (i := 82) rfl))) (by decide) (backOf (W := 0) (rm_get l Z a0 hw [] b21 ar29 kk29 own_g0 num nb none T29.heap n0 Vq29 Fq29 hn56 Fi56) hZ (hw _ (List.mem_of_getElem? (i := 84) rfl)) (hw _ (List.mem_of_getElem? (i := 50) rfl)) (by decide) (by decide)) q57a q57c (g := (mkF m 229 #[.val (.long na), .second, .val (.long nb), .second, .val (.long nc), .second, .val (.long nq), .second, .val (.int fl), .val (.int (0 : Int32)), .val (.ref b4), .val (.ref b9), .val (.ref b14), .val (.ref b20), .val (.ref b21), .val .null, .val .null, .val .null, .val .null] [(.long nb), (.ref b21)])) rfl (by rw [hml]; rfl) (Steps.refl _) (argsL := [(.long nb)]) (rest := []) (lenOf pd_7 rfl) rfl (by show 2 * 0 + _ ≤ _; exact Nat.le_of_eq rfl) (hb hby at_229) (fun _ _ => ⟨rfl, e55, (by decide : ((((((((1 + 2) + 5) + 2) + 5) + 2) + 5) + 1) + 1) + 0 ≤ _), (by decide : ((((((((8 + 4) + 29) + (8 + 4)) + 29) + (8 + 4)) + 29) + 2) + 16) + 0 ≤ _)⟩)
                dsimp only [Pt.U, Pt.locs, Pt.cells, Pt.slots] at X57 l57 y57 z57 st57 hQ57
                rw [l57, y57, z57] at X57
                obtain ⟨rfl, Nq57, e57⟩ := hQ57
                have N57 := Fr.app N55 Nq57
                refine own_viaW st57 ?_
                show own_GoW p e below s00 _ _ (T57.setTop (mkF m 232 #[.val (.long na), .second, .val (.long nb), .second, .val (.long nc), .second, .val (.long nq), .second, .val (.int fl), .val (.int (0 : Int32)), .val (.ref b4), .val (.ref b9), .val (.ref b14), .val (.ref b20), .val (.ref b21), .val .null, .val .null, .val .null, .val .null] [.null]))
                refine own_byW (fun tz kz => XS.aload X57.here hx rfl (hb hby at_232) rfl rfl kz) ?_
                show own_GoW p e below s00 _ _ (T57.setTop (mkF m 234 #[.val (.long na), .second, .val (.long nb), .second, .val (.long nc), .second, .val (.long nq), .second, .val (.int fl), .val (.int (0 : Int32)), .val (.ref b4), .val (.ref b9), .val (.ref b14), .val (.ref b20), .val (.ref b21), .val .null, .val .null, .val .null, .val .null] [.null, .null]))
                refine own_byW (fun tz kz => Jvm.RoadKit.acmp (g := (mkF m 234 #[.val (.long na), .second, .val (.long nb), .second, .val (.long nc), .second, .val (.long nq), .second, .val (.int fl), .val (.int (0 : Int32)), .val (.ref b4), .val (.ref b9), .val (.ref b14), .val (.ref b20), .val (.ref b21), .val .null, .val .null, .val .null, .val .null] [.null, .null])) X57 hx rfl rfl rfl (pc0 := 234) (pc' := 237) (same := true) rfl (hb hby at_234) rfl (decide_eq_true rfl) (by decide) (by decide) kz) ?_
                show own_GoW p e below s00 _ _ (T57.setTop (mkF m 237 #[.val (.long na), .second, .val (.long nb), .second, .val (.long nc), .second, .val (.long nq), .second, .val (.int fl), .val (.int (0 : Int32)), .val (.ref b4), .val (.ref b9), .val (.ref b14), .val (.ref b20), .val (.ref b21), .val .null, .val .null, .val .null, .val .null] []))
                refine own_byW (fun tz kz => XS.aload X57.here hx rfl (hb hby at_237) rfl rfl kz) ?_
                show own_GoW p e below s00 _ _ (T57.setTop (mkF m 239 #[.val (.long na), .second, .val (.long nb), .second, .val (.long nc), .second, .val (.long nq), .second, .val (.int fl), .val (.int (0 : Int32)), .val (.ref b4), .val (.ref b9), .val (.ref b14), .val (.ref b20), .val (.ref b21), .val .null, .val .null, .val .null, .val .null] [(.ref b21)]))
                refine own_byW (fun tz kz => XS.lload X57.here hx rfl (hb hby at_239) rfl kz) ?_
                show own_GoW p e below s00 _ _ (T57.setTop (mkF m 241 #[.val (.long na), .second, .val (.long nb), .second, .val (.long nc), .second, .val (.long nq), .second, .val (.int fl), .val (.int (0 : Int32)), .val (.ref b4), .val (.ref b9), .val (.ref b14), .val (.ref b20), .val (.ref b21), .val .null, .val .null, .val .null, .val .null] [(.long nc), (.ref b21)]))
                have hne58 : ∀ y ∈ ([] : List Addr), ¬ num y = nc := by
                  intro y q
                  exact absurd q (by simp)
                have Fi58 : own_Find own_g0 num nc none (own_H nc) := by
                  exact (own_T.nil num own_H).miss (by simp) (own_H_lt _) hne58
                have hn58 : ∀ (k : Nat) (y : Addr), own_g0 k = some y → Fld Z T29.heap y "com/example/ajenda/ajenda/core/Job" "number" "J" (.long (num y)) := by
                  intro k y q0
                  have q := (own_T.nil num own_H).all k y q0
                  exact absurd q (by simp)
                obtain ⟨cq59, kq59, q59a, q59b, q59c⟩ := isOf hZ e57 f54
                obtain ⟨_, _, ⟨T59, L59, k59, n59⟩, -, X59, ⟨Lc59, hQ59, l59, y59, z59⟩, st59⟩ := X57.virtualBack hx (y := (⟨"com/example/ajenda/ajenda/core/JobsByNumber", "get", "(J)Lcom/example/ajenda/ajenda/core/Job;"⟩ : MethodName)) (z := (⟨"com/example/ajenda/ajenda/core/JobsByNumber", "get", "(J)Lcom/example/ajenda/ajenda/core/Job;"⟩ : MethodName)) hown (mvT hZ (hw _ (List.mem_of_getElem? (i := 80) rfl))) (mvT hZ (hw _ (List.mem_of_getElem? (i := 81) rfl))) (notFace_of_selects (args := #[]) (mvT hZ (hw _ (List.mem_of_getElem? (i := 83) rfl)))) (mvT hZ (hw _ (List.mem_of_getElem? (i := 83) rfl))) (mvT hZ (hw _ (List.mem_of_getElem? (i := 82) rfl))) (by decide) (backOf (W := 0) (rm_get l Z a0 hw [] b21 ar29 kk29 own_g0 num nc none T29.heap n0 Vq29 Fq29 hn58 Fi58) hZ (hw _ (List.mem_of_getElem? (i := 84) rfl)) (hw _ (List.mem_of_getElem? (i := 50) rfl)) (by decide) (by decide)) q59a q59c (g := (mkF m 241 #[.val (.long na), .second, .val (.long nb), .second, .val (.long nc), .second, .val (.long nq), .second, .val (.int fl), .val (.int (0 : Int32)), .val (.ref b4), .val (.ref b9), .val (.ref b14), .val (.ref b20), .val (.ref b21), .val .null, .val .null, .val .null, .val .null] [(.long nc), (.ref b21)])) rfl (by rw [hml]; rfl) (Steps.refl _) (argsL := [(.long nc)]) (rest := []) (lenOf pd_7 rfl) rfl (by show 2 * 0 + _ ≤ _; exact Nat.le_of_eq rfl) (hb hby at_241) (fun _ _ => ⟨rfl, e57, (by decide : ((((((((1 + 2) + 5) + 2) + 5) + 2) + 5) + 1) + 1) + 0 ≤ _), (by decide : ((((((((8 + 4) + 29) + (8 + 4)) + 29) + (8 + 4)) + 29) + 2) + 16) + 0 ≤ _)⟩)
                dsimp only [Pt.U, Pt.locs, Pt.cells, Pt.slots] at X59 l59 y59 z59 st59 hQ59
                rw [l59, y59, z59] at X59
                obtain ⟨rfl, Nq59, e59⟩ := hQ59
                have N59 := Fr.app N57 Nq59
                refine own_viaW st59 ?_
                show own_GoW p e below s00 _ _ (T59.setTop (mkF m 244 #[.val (.long na), .second, .val (.long nb), .second, .val (.long nc), .second, .val (.long nq), .second, .val (.int fl), .val (.int (0 : Int32)), .val (.ref b4), .val (.ref b9), .val (.ref b14), .val (.ref b20), .val (.ref b21), .val .null, .val .null, .val .null, .val .null] [.null]))
                refine own_byW (fun tz kz => XS.aload X59.here hx rfl (hb hby at_244) rfl rfl kz) ?_
                show own_GoW p e below s00 _ _ (T59.setTop (mkF m 246 #[.val (.long na), .second, .val (.long nb), .second, .val (.long nc), .second, .val (.long nq), .second, .val (.int fl), .val (.int (0 : Int32)), .val (.ref b4), .val (.ref b9), .val (.ref b14), .val (.ref b20), .val (.ref b21), .val .null, .val .null, .val .null, .val .null] [.null, .null]))
                refine own_byW (fun tz kz => Jvm.RoadKit.acmp (g := (mkF m 246 #[.val (.long na), .second, .val (.long nb), .second, .val (.long nc), .second, .val (.long nq), .second, .val (.int fl), .val (.int (0 : Int32)), .val (.ref b4), .val (.ref b9), .val (.ref b14), .val (.ref b20), .val (.ref b21), .val .null, .val .null, .val .null, .val .null] [.null, .null])) X59 hx rfl rfl rfl (pc0 := 246) (pc' := 249) (same := true) rfl (hb hby at_246) rfl (decide_eq_true rfl) (by decide) (by decide) kz) ?_
                show own_GoW p e below s00 _ _ (T59.setTop (mkF m 249 #[.val (.long na), .second, .val (.long nb), .second, .val (.long nc), .second, .val (.long nq), .second, .val (.int fl), .val (.int (0 : Int32)), .val (.ref b4), .val (.ref b9), .val (.ref b14), .val (.ref b20), .val (.ref b21), .val .null, .val .null, .val .null, .val .null] []))
                refine own_byW (fun tz kz => XS.aload X59.here hx rfl (hb hby at_249) rfl rfl kz) ?_
                show own_GoW p e below s00 _ _ (T59.setTop (mkF m 251 #[.val (.long na), .second, .val (.long nb), .second, .val (.long nc), .second, .val (.long nq), .second, .val (.int fl), .val (.int (0 : Int32)), .val (.ref b4), .val (.ref b9), .val (.ref b14), .val (.ref b20), .val (.ref b21), .val .null, .val .null, .val .null, .val .null] [(.ref b21)]))
                refine own_byW (fun tz kz => XS.lload X59.here hx rfl (hb hby at_251) rfl kz) ?_
                show own_GoW p e below s00 _ _ (T59.setTop (mkF m 253 #[.val (.long na), .second, .val (.long nb), .second, .val (.long nc), .second, .val (.long nq), .second, .val (.int fl), .val (.int (0 : Int32)), .val (.ref b4), .val (.ref b9), .val (.ref b14), .val (.ref b20), .val (.ref b21), .val .null, .val .null, .val .null, .val .null] [(.long nq), (.ref b21)]))
                have hne60 : ∀ y ∈ ([] : List Addr), ¬ num y = nc := by
                  intro y q
                  exact absurd q (by simp)
                have Fi60 : own_Find own_g0 num nq none (own_H nq) := by
                  rw [hc208_52]
                  exact (own_T.nil num own_H).miss (by simp) (own_H_lt _) hne60
                have hn60 : ∀ (k : Nat) (y : Addr), own_g0 k = some y → Fld Z T29.heap y "com/example/ajenda/ajenda/core/Job" "number" "J" (.long (num y)) := by
                  intro k y q0
                  have q := (own_T.nil num own_H).all k y q0
                  exact absurd q (by simp)
                obtain ⟨cq61, kq61, q61a, q61b, q61c⟩ := isOf hZ e59 f54
                obtain ⟨_, _, ⟨T61, L61, k61, n61⟩, -, X61, ⟨Lc61, hQ61, l61, y61, z61⟩, st61⟩ := X59.virtualBack hx (y := (⟨"com/example/ajenda/ajenda/core/JobsByNumber", "get", "(J)Lcom/example/ajenda/ajenda/core/Job;"⟩ : MethodName)) (z := (⟨"com/example/ajenda/ajenda/core/JobsByNumber", "get", "(J)Lcom/example/ajenda/ajenda/core/Job;"⟩ : MethodName)) hown (mvT hZ (hw _ (List.mem_of_getElem? (i := 80) rfl))) (mvT hZ (hw _ (List.mem_of_getElem? (i := 81) rfl))) (notFace_of_selects (args := #[]) (mvT hZ (hw _ (List.mem_of_getElem? (i := 83) rfl)))) (mvT hZ (hw _ (List.mem_of_getElem? (i := 83) rfl))) (mvT hZ (hw _ (List.mem_of_getElem? (i := 82) rfl))) (by decide) (backOf (W := 0) (rm_get l Z a0 hw [] b21 ar29 kk29 own_g0 num nq none T29.heap n0 Vq29 Fq29 hn60 Fi60) hZ (hw _ (List.mem_of_getElem? (i := 84) rfl)) (hw _ (List.mem_of_getElem? (i := 50) rfl)) (by decide) (by decide)) q61a q61c (g := (mkF m 253 #[.val (.long na), .second, .val (.long nb), .second, .val (.long nc), .second, .val (.long nq), .second, .val (.int fl), .val (.int (0 : Int32)), .val (.ref b4), .val (.ref b9), .val (.ref b14), .val (.ref b20), .val (.ref b21), .val .null, .val .null, .val .null, .val .null] [(.long nq), (.ref b21)])) rfl (by rw [hml]; rfl) (Steps.refl _) (argsL := [(.long nq)]) (rest := []) (lenOf pd_7 rfl) rfl (by show 2 * 0 + _ ≤ _; exact Nat.le_of_eq rfl) (hb hby at_253) (fun _ _ => ⟨rfl, e59, (by decide : ((((((((1 + 2) + 5) + 2) + 5) + 2) + 5) + 1) + 1) + 0 ≤ _), (by decide : ((((((((8 + 4) + 29) + (8 + 4)) + 29) + (8 + 4)) + 29) + 2) + 16) + 0 ≤ _)⟩)
                dsimp only [Pt.U, Pt.locs, Pt.cells, Pt.slots] at X61 l61 y61 z61 st61 hQ61
                rw [l61, y61, z61] at X61
                obtain ⟨rfl, Nq61, e61⟩ := hQ61
                have N61 := Fr.app N59 Nq61
                refine own_viaW st61 ?_
                show own_GoW p e below s00 _ _ (T61.setTop (mkF m 256 #[.val (.long na), .second, .val (.long nb), .second, .val (.long nc), .second, .val (.long nq), .second, .val (.int fl), .val (.int (0 : Int32)), .val (.ref b4), .val (.ref b9), .val (.ref b14), .val (.ref b20), .val (.ref b21), .val .null, .val .null, .val .null, .val .null] [.null]))
                refine own_byW (fun tz kz => XS.aload X61.here hx rfl (hb hby at_256) rfl rfl kz) ?_
                show own_GoW p e below s00 _ _ (T61.setTop (mkF m 258 #[.val (.long na), .second, .val (.long nb), .second, .val (.long nc), .second, .val (.long nq), .second, .val (.int fl), .val (.int (0 : Int32)), .val (.ref b4), .val (.ref b9), .val (.ref b14), .val (.ref b20), .val (.ref b21), .val .null, .val .null, .val .null, .val .null] [.null, .null]))
                refine own_byW (fun tz kz => Jvm.RoadKit.acmp (g := (mkF m 258 #[.val (.long na), .second, .val (.long nb), .second, .val (.long nc), .second, .val (.long nq), .second, .val (.int fl), .val (.int (0 : Int32)), .val (.ref b4), .val (.ref b9), .val (.ref b14), .val (.ref b20), .val (.ref b21), .val .null, .val .null, .val .null, .val .null] [.null, .null])) X61 hx rfl rfl rfl (pc0 := 258) (pc' := 261) (same := true) rfl (hb hby at_258) rfl (decide_eq_true rfl) (by decide) (by decide) kz) ?_
                show own_GoW p e below s00 _ _ (T61.setTop (mkF m 261 #[.val (.long na), .second, .val (.long nb), .second, .val (.long nc), .second, .val (.long nq), .second, .val (.int fl), .val (.int (0 : Int32)), .val (.ref b4), .val (.ref b9), .val (.ref b14), .val (.ref b20), .val (.ref b21), .val .null, .val .null, .val .null, .val .null] []))
                refine own_byW (fun tz kz => XS.iconst X61.here hx rfl (hb hby at_261) kz) ?_
                show own_GoW p e below s00 _ _ (T61.setTop (mkF m 262 #[.val (.long na), .second, .val (.long nb), .second, .val (.long nc), .second, .val (.long nq), .second, .val (.int fl), .val (.int (0 : Int32)), .val (.ref b4), .val (.ref b9), .val (.ref b14), .val (.ref b20), .val (.ref b21), .val .null, .val .null, .val .null, .val .null] [(.int (1 : Int32))]))
                refine own_byW (fun tz kz => XS.goto X61.here hx rfl (pc0 := 262) (pc' := 266) rfl (hb hby at_262) (by decide) (by decide) kz) ?_
                show own_GoW p e below s00 _ _ (T61.setTop (mkF m 266 #[.val (.long na), .second, .val (.long nb), .second, .val (.long nc), .second, .val (.long nq), .second, .val (.int fl), .val (.int (0 : Int32)), .val (.ref b4), .val (.ref b9), .val (.ref b14), .val (.ref b20), .val (.ref b21), .val .null, .val .null, .val .null, .val .null] [(.int (1 : Int32))]))
                have A62 := (own_At.up (own_At.up A20 E21.1) Kq29.1)
                refine own_retIW X61 e61 A62 hx hlk (t := .boolean) hret (by simp) rfl (hb hby at_266) ?_ (by decide) (by decide)
                exact ⟨rfl, N61⟩
              · refine own_byW (fun tz kz => XS.ifYes X29.here hx rfl (pc0 := 208) (pc' := 215) rfl (hb hby at_208) rfl ((if0 _ _).trans (feq (fun q => hc208_52 ((lw_eq nq nc).mp q))).2) (by decide) (by decide) kz) ?_
                show own_GoW p e below s00 _ _ (T29.setTop (mkF m 215 #[.val (.long na), .second, .val (.long nb), .second, .val (.long nc), .second, .val (.long nq), .second, .val (.int fl), .val (.int (0 : Int32)), .val (.ref b4), .val (.ref b9), .val (.ref b14), .val (.ref b20), .val (.ref b21), .val .null, .val .null, .val .null, .val .null] []))
                refine own_byW (fun tz kz => XS.aload X29.here hx rfl (hb hby at_215) rfl rfl kz) ?_
                show own_GoW p e below s00 _ _ (T29.setTop (mkF m 217 #[.val (.long na), .second, .val (.long nb), .second, .val (.long nc), .second, .val (.long nq), .second, .val (.int fl), .val (.int (0 : Int32)), .val (.ref b4), .val (.ref b9), .val (.ref b14), .val (.ref b20), .val (.ref b21), .val .null, .val .null, .val .null, .val .null] [(.ref b21)]))
                refine own_byW (fun tz kz => XS.lloadN X29.here hx rfl (hb hby at_217) rfl kz) ?_
                show own_GoW p e below s00 _ _ (T29.setTop (mkF m 218 #[.val (.long na), .second, .val (.long nb), .second, .val (.long nc), .second, .val (.long nq), .second, .val (.int fl), .val (.int (0 : Int32)), .val (.ref b4), .val (.ref b9), .val (.ref b14), .val (.ref b20), .val (.ref b21), .val .null, .val .null, .val .null, .val .null] [(.long na), (.ref b21)]))
                have hne63 : ∀ y ∈ ([] : List Addr), ¬ num y = na := by
                  intro y q
                  exact absurd q (by simp)
                have Fi63 : own_Find own_g0 num na none (own_H na) := by
                  exact (own_T.nil num own_H).miss (by simp) (own_H_lt _) hne63
                have hn63 : ∀ (k : Nat) (y : Addr), own_g0 k = some y → Fld Z T29.heap y "com/example/ajenda/ajenda/core/Job" "number" "J" (.long (num y)) := by
                  intro k y q0
                  have q := (own_T.nil num own_H).all k y q0
                  exact absurd q (by simp)
                have f64 := (A21.keep Kq29)
                obtain ⟨cq65, kq65, q65a, q65b, q65c⟩ := isOf hZ e29 f64
                obtain ⟨_, _, ⟨T65, L65, k65, n65⟩, -, X65, ⟨Lc65, hQ65, l65, y65, z65⟩, st65⟩ := X29.virtualBack hx (y := (⟨"com/example/ajenda/ajenda/core/JobsByNumber", "get", "(J)Lcom/example/ajenda/ajenda/core/Job;"⟩ : MethodName)) (z := (⟨"com/example/ajenda/ajenda/core/JobsByNumber", "get", "(J)Lcom/example/ajenda/ajenda/core/Job;"⟩ : MethodName)) hown (mvT hZ (hw _ (List.mem_of_getElem? (i := 80) rfl))) (mvT hZ (hw _ (List.mem_of_getElem? (i := 81) rfl))) (notFace_of_selects (args := #[]) (mvT hZ (hw _ (List.mem_of_getElem? (i := 83) rfl)))) (mvT hZ (hw _ (List.mem_of_getElem? (i := 83) rfl))) (mvT hZ (hw _ (List.mem_of_getElem? (i := 82) rfl))) (by decide) (backOf (W := 0) (rm_get l Z a0 hw [] b21 ar29 kk29 own_g0 num na none T29.heap n0 Vq29 Fq29 hn63 Fi63) hZ (hw _ (List.mem_of_getElem? (i := 84) rfl)) (hw _ (List.mem_of_getElem? (i := 50) rfl)) (by decide) (by decide)) q65a q65c (g := (mkF m 218 #[.val (.long na), .second, .val (.long nb), .second, .val (.long nc), .second, .val (.long nq), .second, .val (.int fl), .val (.int (0 : Int32)), .val (.ref b4), .val (.ref b9), .val (.ref b14), .val (.ref b20), .val (.ref b21), .val .null, .val .null, .val .null, .val .null] [(.long na), (.ref b21)])) rfl (by rw [hml]; rfl) (Steps.refl _) (argsL := [(.long na)]) (rest := []) (lenOf pd_7 rfl) rfl (by show 2 * 0 + _ ≤ _; exact Nat.le_of_eq rfl) (hb hby at_218) (fun _ _ => ⟨rfl, e29, (by decide : ((((((((1 + 2) + 5) + 2) + 5) + 2) + 5) + 1) + 1) + 0 ≤ _), (by decide : ((((((((8 + 4) + 29) + (8 + 4)) + 29) + (8 + 4)) + 29) + 2) + 16) + 0 ≤ _)⟩)
                dsimp only [Pt.U, Pt.locs, Pt.cells, Pt.slots] at X65 l65 y65 z65 st65 hQ65
                rw [l65, y65, z65] at X65
                obtain ⟨rfl, Nq65, e65⟩ := hQ65
                have N65 := Fr.app N29 Nq65
                refine own_viaW st65 ?_
                show own_GoW p e below s00 _ _ (T65.setTop (mkF m 221 #[.val (.long na), .second, .val (.long nb), .second, .val (.long nc), .second, .val (.long nq), .second, .val (.int fl), .val (.int (0 : Int32)), .val (.ref b4), .val (.ref b9), .val (.ref b14), .val (.ref b20), .val (.ref b21), .val .null, .val .null, .val .null, .val .null] [.null]))
                refine own_byW (fun tz kz => XS.aload X65.here hx rfl (hb hby at_221) rfl rfl kz) ?_
                show own_GoW p e below s00 _ _ (T65.setTop (mkF m 223 #[.val (.long na), .second, .val (.long nb), .second, .val (.long nc), .second, .val (.long nq), .second, .val (.int fl), .val (.int (0 : Int32)), .val (.ref b4), .val (.ref b9), .val (.ref b14), .val (.ref b20), .val (.ref b21), .val .null, .val .null, .val .null, .val .null] [.null, .null]))
                refine own_byW (fun tz kz => Jvm.RoadKit.acmp (g := (mkF m 223 #[.val (.long na), .second, .val (.long nb), .second, .val (.long nc), .second, .val (.long nq), .second, .val (.int fl), .val (.int (0 : Int32)), .val (.ref b4), .val (.ref b9), .val (.ref b14), .val (.ref b20), .val (.ref b21), .val .null, .val .null, .val .null, .val .null] [.null, .null])) X65 hx rfl rfl rfl (pc0 := 223) (pc' := 226) (same := true) rfl (hb hby at_223) rfl (decide_eq_true rfl) (by decide) (by decide) kz) ?_
                show own_GoW p e below s00 _ _ (T65.setTop (mkF m 226 #[.val (.long na), .second, .val (.long nb), .second, .val (.long nc), .second, .val (.long nq), .second, .val (.int fl), .val (.int (0 : Int32)), .val (.ref b4), .val (.ref b9), .val (.ref b14), .val (.ref b20), .val (.ref b21), .val .null, .val .null, .val .null, .val .null] []))
                refine own_byW (fun tz kz => XS.aload X65.here hx rfl (hb hby at_226) rfl rfl kz) ?_
                show own_GoW p e below s00 _ _ (T65.setTop (mkF m 228 #[.val (.long na), .second, .val (.long nb), .second, .val (.long nc), .second, .val (.long nq), .second, .val (.int fl), .val (.int (0 : Int32)), .val (.ref b4), .val (.ref b9), .val (.ref b14), .val (.ref b20), .val (.ref b21), .val .null, .val .null, .val .null, .val .null] [(.ref b21)]))
                refine own_byW (fun tz kz => XS.lloadN X65.here hx rfl (hb hby at_228) rfl kz) ?_
                show own_GoW p e below s00 _ _ (T65.setTop (mkF m 229 #[.val (.long na), .second, .val (.long nb), .second, .val (.long nc), .second, .val (.long nq), .second, .val (.int fl), .val (.int (0 : Int32)), .val (.ref b4), .val (.ref b9), .val (.ref b14), .val (.ref b20), .val (.ref b21), .val .null, .val .null, .val .null, .val .null] [(.long nb), (.ref b21)]))
                have hne66 : ∀ y ∈ ([] : List Addr), ¬ num y = nb := by
                  intro y q
                  exact absurd q (by simp)
                have Fi66 : own_Find own_g0 num nb none (own_H nb) := by
                  exact (own_T.nil num own_H).miss (by simp) (own_H_lt _) hne66
                have hn66 : ∀ (k : Nat) (y : Addr), own_g0 k = some y → Fld Z T29.heap y "com/example/ajenda/ajenda/core/Job" "number" "J" (.long (num y)) := by
                  intro k y q0
                  have q := (own_T.nil num own_H).all k y q0
                  exact absurd q (by simp)
                obtain ⟨cq67, kq67, q67a, q67b, q67c⟩ := isOf hZ e65 f64
                obtain ⟨_, _, ⟨T67, L67, k67, n67⟩, -, X67, ⟨Lc67, hQ67, l67, y67, z67⟩, st67⟩ := X65.virtualBack hx (y := (⟨"com/example/ajenda/ajenda/core/JobsByNumber", "get", "(J)Lcom/example/ajenda/ajenda/core/Job;"⟩ : MethodName)) (z := (⟨"com/example/ajenda/ajenda/core/JobsByNumber", "get", "(J)Lcom/example/ajenda/ajenda/core/Job;"⟩ : MethodName)) hown (mvT hZ (hw _ (List.mem_of_getElem? (i := 80) rfl))) (mvT hZ (hw _ (List.mem_of_getElem? (i := 81) rfl))) (notFace_of_selects (args := #[]) (mvT hZ (hw _ (List.mem_of_getElem? (i := 83) rfl)))) (mvT hZ (hw _ (List.mem_of_getElem? (i := 83) rfl))) (mvT hZ (hw _ (List.mem_of_getElem? (i := 82) rfl))) (by decide) (backOf (W := 0) (rm_get l Z a0 hw [] b21 ar29 kk29 own_g0 num nb none T29.heap n0 Vq29 Fq29 hn66 Fi66) hZ (hw _ (List.mem_of_getElem? (i := 84) rfl)) (hw _ (List.mem_of_getElem? (i := 50) rfl)) (by decide) (by decide)) q67a q67c (g := (mkF m 229 #[.val (.long na), .second, .val (.long nb), .second, .val (.long nc), .second, .val (.long nq), .second, .val (.int fl), .val (.int (0 : Int32)), .val (.ref b4), .val (.ref b9), .val (.ref b14), .val (.ref b20), .val (.ref b21), .val .null, .val .null, .val .null, .val .null] [(.long nb), (.ref b21)])) rfl (by rw [hml]; rfl) (Steps.refl _) (argsL := [(.long nb)]) (rest := []) (lenOf pd_7 rfl) rfl (by show 2 * 0 + _ ≤ _; exact Nat.le_of_eq rfl) (hb hby at_229) (fun _ _ => ⟨rfl, e65, (by decide : ((((((((1 + 2) + 5) + 2) + 5) + 2) + 5) + 1) + 1) + 0 ≤ _), (by decide : ((((((((8 + 4) + 29) + (8 + 4)) + 29) + (8 + 4)) + 29) + 2) + 16) + 0 ≤ _)⟩)
                dsimp only [Pt.U, Pt.locs, Pt.cells, Pt.slots] at X67 l67 y67 z67 st67 hQ67
                rw [l67, y67, z67] at X67
                obtain ⟨rfl, Nq67, e67⟩ := hQ67
                have N67 := Fr.app N65 Nq67
                refine own_viaW st67 ?_
                show own_GoW p e below s00 _ _ (T67.setTop (mkF m 232 #[.val (.long na), .second, .val (.long nb), .second, .val (.long nc), .second, .val (.long nq), .second, .val (.int fl), .val (.int (0 : Int32)), .val (.ref b4), .val (.ref b9), .val (.ref b14), .val (.ref b20), .val (.ref b21), .val .null, .val .null, .val .null, .val .null] [.null]))
                refine own_byW (fun tz kz => XS.aload X67.here hx rfl (hb hby at_232) rfl rfl kz) ?_
                show own_GoW p e below s00 _ _ (T67.setTop (mkF m 234 #[.val (.long na), .second, .val (.long nb), .second, .val (.long nc), .second, .val (.long nq), .second, .val (.int fl), .val (.int (0 : Int32)), .val (.ref b4), .val (.ref b9), .val (.ref b14), .val (.ref b20), .val (.ref b21), .val .null, .val .null, .val .null, .val .null] [.null, .null]))
                refine own_byW (fun tz kz => Jvm.RoadKit.acmp (g := (mkF m 234 #[.val (.long na), .second, .val (.long nb), .second, .val (.long nc), .second, .val (.long nq), .second, .val (.int fl), .val (.int (0 : Int32)), .val (.ref b4), .val (.ref b9), .val (.ref b14), .val (.ref b20), .val (.ref b21), .val .null, .val .null, .val .null, .val .null] [.null, .null])) X67 hx rfl rfl rfl (pc0 := 234) (pc' := 237) (same := true) rfl (hb hby at_234) rfl (decide_eq_true rfl) (by decide) (by decide) kz) ?_
                show own_GoW p e below s00 _ _ (T67.setTop (mkF m 237 #[.val (.long na), .second, .val (.long nb), .second, .val (.long nc), .second, .val (.long nq), .second, .val (.int fl), .val (.int (0 : Int32)), .val (.ref b4), .val (.ref b9), .val (.ref b14), .val (.ref b20), .val (.ref b21), .val .null, .val .null, .val .null, .val .null] []))
                refine own_byW (fun tz kz => XS.aload X67.here hx rfl (hb hby at_237) rfl rfl kz) ?_
                show own_GoW p e below s00 _ _ (T67.setTop (mkF m 239 #[.val (.long na), .second, .val (.long nb), .second, .val (.long nc), .second, .val (.long nq), .second, .val (.int fl), .val (.int (0 : Int32)), .val (.ref b4), .val (.ref b9), .val (.ref b14), .val (.ref b20), .val (.ref b21), .val .null, .val .null, .val .null, .val .null] [(.ref b21)]))
                refine own_byW (fun tz kz => XS.lload X67.here hx rfl (hb hby at_239) rfl kz) ?_
                show own_GoW p e below s00 _ _ (T67.setTop (mkF m 241 #[.val (.long na), .second, .val (.long nb), .second, .val (.long nc), .second, .val (.long nq), .second, .val (.int fl), .val (.int (0 : Int32)), .val (.ref b4), .val (.ref b9), .val (.ref b14), .val (.ref b20), .val (.ref b21), .val .null, .val .null, .val .null, .val .null] [(.long nc), (.ref b21)]))
                have hne68 : ∀ y ∈ ([] : List Addr), ¬ num y = nc := by
                  intro y q
                  exact absurd q (by simp)
                have Fi68 : own_Find own_g0 num nc none (own_H nc) := by
                  exact (own_T.nil num own_H).miss (by simp) (own_H_lt _) hne68
                have hn68 : ∀ (k : Nat) (y : Addr), own_g0 k = some y → Fld Z T29.heap y "com/example/ajenda/ajenda/core/Job" "number" "J" (.long (num y)) := by
                  intro k y q0
                  have q := (own_T.nil num own_H).all k y q0
                  exact absurd q (by simp)
                obtain ⟨cq69, kq69, q69a, q69b, q69c⟩ := isOf hZ e67 f64
                obtain ⟨_, _, ⟨T69, L69, k69, n69⟩, -, X69, ⟨Lc69, hQ69, l69, y69, z69⟩, st69⟩ := X67.virtualBack hx (y := (⟨"com/example/ajenda/ajenda/core/JobsByNumber", "get", "(J)Lcom/example/ajenda/ajenda/core/Job;"⟩ : MethodName)) (z := (⟨"com/example/ajenda/ajenda/core/JobsByNumber", "get", "(J)Lcom/example/ajenda/ajenda/core/Job;"⟩ : MethodName)) hown (mvT hZ (hw _ (List.mem_of_getElem? (i := 80) rfl))) (mvT hZ (hw _ (List.mem_of_getElem? (i := 81) rfl))) (notFace_of_selects (args := #[]) (mvT hZ (hw _ (List.mem_of_getElem? (i := 83) rfl)))) (mvT hZ (hw _ (List.mem_of_getElem? (i := 83) rfl))) (mvT hZ (hw _ (List.mem_of_getElem? (i := 82) rfl))) (by decide) (backOf (W := 0) (rm_get l Z a0 hw [] b21 ar29 kk29 own_g0 num nc none T29.heap n0 Vq29 Fq29 hn68 Fi68) hZ (hw _ (List.mem_of_getElem? (i := 84) rfl)) (hw _ (List.mem_of_getElem? (i := 50) rfl)) (by decide) (by decide)) q69a q69c (g := (mkF m 241 #[.val (.long na), .second, .val (.long nb), .second, .val (.long nc), .second, .val (.long nq), .second, .val (.int fl), .val (.int (0 : Int32)), .val (.ref b4), .val (.ref b9), .val (.ref b14), .val (.ref b20), .val (.ref b21), .val .null, .val .null, .val .null, .val .null] [(.long nc), (.ref b21)])) rfl (by rw [hml]; rfl) (Steps.refl _) (argsL := [(.long nc)]) (rest := []) (lenOf pd_7 rfl) rfl (by show 2 * 0 + _ ≤ _; exact Nat.le_of_eq rfl) (hb hby at_241) (fun _ _ => ⟨rfl, e67, (by decide : ((((((((1 + 2) + 5) + 2) + 5) + 2) + 5) + 1) + 1) + 0 ≤ _), (by decide : ((((((((8 + 4) + 29) + (8 + 4)) + 29) + (8 + 4)) + 29) + 2) + 16) + 0 ≤ _)⟩)
                dsimp only [Pt.U, Pt.locs, Pt.cells, Pt.slots] at X69 l69 y69 z69 st69 hQ69
                rw [l69, y69, z69] at X69
                obtain ⟨rfl, Nq69, e69⟩ := hQ69
                have N69 := Fr.app N67 Nq69
                refine own_viaW st69 ?_
                show own_GoW p e below s00 _ _ (T69.setTop (mkF m 244 #[.val (.long na), .second, .val (.long nb), .second, .val (.long nc), .second, .val (.long nq), .second, .val (.int fl), .val (.int (0 : Int32)), .val (.ref b4), .val (.ref b9), .val (.ref b14), .val (.ref b20), .val (.ref b21), .val .null, .val .null, .val .null, .val .null] [.null]))
                refine own_byW (fun tz kz => XS.aload X69.here hx rfl (hb hby at_244) rfl rfl kz) ?_
                show own_GoW p e below s00 _ _ (T69.setTop (mkF m 246 #[.val (.long na), .second, .val (.long nb), .second, .val (.long nc), .second, .val (.long nq), .second, .val (.int fl), .val (.int (0 : Int32)), .val (.ref b4), .val (.ref b9), .val (.ref b14), .val (.ref b20), .val (.ref b21), .val .null, .val .null, .val .null, .val .null] [.null, .null]))
                refine own_byW (fun tz kz => Jvm.RoadKit.acmp (g := (mkF m 246 #[.val (.long na), .second, .val (.long nb), .second, .val (.long nc), .second, .val (.long nq), .second, .val (.int fl), .val (.int (0 : Int32)), .val (.ref b4), .val (.ref b9), .val (.ref b14), .val (.ref b20), .val (.ref b21), .val .null, .val .null, .val .null, .val .null] [.null, .null])) X69 hx rfl rfl rfl (pc0 := 246) (pc' := 249) (same := true) rfl (hb hby at_246) rfl (decide_eq_true rfl) (by decide) (by decide) kz) ?_
                show own_GoW p e below s00 _ _ (T69.setTop (mkF m 249 #[.val (.long na), .second, .val (.long nb), .second, .val (.long nc), .second, .val (.long nq), .second, .val (.int fl), .val (.int (0 : Int32)), .val (.ref b4), .val (.ref b9), .val (.ref b14), .val (.ref b20), .val (.ref b21), .val .null, .val .null, .val .null, .val .null] []))
                refine own_byW (fun tz kz => XS.aload X69.here hx rfl (hb hby at_249) rfl rfl kz) ?_
                show own_GoW p e below s00 _ _ (T69.setTop (mkF m 251 #[.val (.long na), .second, .val (.long nb), .second, .val (.long nc), .second, .val (.long nq), .second, .val (.int fl), .val (.int (0 : Int32)), .val (.ref b4), .val (.ref b9), .val (.ref b14), .val (.ref b20), .val (.ref b21), .val .null, .val .null, .val .null, .val .null] [(.ref b21)]))
                refine own_byW (fun tz kz => XS.lload X69.here hx rfl (hb hby at_251) rfl kz) ?_
                show own_GoW p e below s00 _ _ (T69.setTop (mkF m 253 #[.val (.long na), .second, .val (.long nb), .second, .val (.long nc), .second, .val (.long nq), .second, .val (.int fl), .val (.int (0 : Int32)), .val (.ref b4), .val (.ref b9), .val (.ref b14), .val (.ref b20), .val (.ref b21), .val .null, .val .null, .val .null, .val .null] [(.long nq), (.ref b21)]))
                have hne70 : ∀ y ∈ ([] : List Addr), ¬ num y = nq := by
                  intro y q
                  exact absurd q (by simp)
                have Fi70 : own_Find own_g0 num nq none (own_H nq) := by
                  exact (own_T.nil num own_H).miss (by simp) (own_H_lt _) hne70
                have hn70 : ∀ (k : Nat) (y : Addr), own_g0 k = some y → Fld Z T29.heap y "com/example/ajenda/ajenda/core/Job" "number" "J" (.long (num y)) := by
                  intro k y q0
                  have q := (own_T.nil num own_H).all k y q0
                  exact absurd q (by simp)
                obtain ⟨cq71, kq71, q71a, q71b, q71c⟩ := isOf hZ e69 f64
                obtain ⟨_, _, ⟨T71, L71, k71, n71⟩, -, X71, ⟨Lc71, hQ71, l71, y71, z71⟩, st71⟩ := X69.virtualBack hx (y := (⟨"com/example/ajenda/ajenda/core/JobsByNumber", "get", "(J)Lcom/example/ajenda/ajenda/core/Job;"⟩ : MethodName)) (z := (⟨"com/example/ajenda/ajenda/core/JobsByNumber", "get", "(J)Lcom/example/ajenda/ajenda/core/Job;"⟩ : MethodName)) hown (mvT hZ (hw _ (List.mem_of_getElem? (i := 80) rfl))) (mvT hZ (hw _ (List.mem_of_getElem? (i := 81) rfl))) (notFace_of_selects (args := #[]) (mvT hZ (hw _ (List.mem_of_getElem? (i := 83) rfl)))) (mvT hZ (hw _ (List.mem_of_getElem? (i := 83) rfl))) (mvT hZ (hw _ (List.mem_of_getElem? (i := 82) rfl))) (by decide) (backOf (W := 0) (rm_get l Z a0 hw [] b21 ar29 kk29 own_g0 num nq none T29.heap n0 Vq29 Fq29 hn70 Fi70) hZ (hw _ (List.mem_of_getElem? (i := 84) rfl)) (hw _ (List.mem_of_getElem? (i := 50) rfl)) (by decide) (by decide)) q71a q71c (g := (mkF m 253 #[.val (.long na), .second, .val (.long nb), .second, .val (.long nc), .second, .val (.long nq), .second, .val (.int fl), .val (.int (0 : Int32)), .val (.ref b4), .val (.ref b9), .val (.ref b14), .val (.ref b20), .val (.ref b21), .val .null, .val .null, .val .null, .val .null] [(.long nq), (.ref b21)])) rfl (by rw [hml]; rfl) (Steps.refl _) (argsL := [(.long nq)]) (rest := []) (lenOf pd_7 rfl) rfl (by show 2 * 0 + _ ≤ _; exact Nat.le_of_eq rfl) (hb hby at_253) (fun _ _ => ⟨rfl, e69, (by decide : ((((((((1 + 2) + 5) + 2) + 5) + 2) + 5) + 1) + 1) + 0 ≤ _), (by decide : ((((((((8 + 4) + 29) + (8 + 4)) + 29) + (8 + 4)) + 29) + 2) + 16) + 0 ≤ _)⟩)
                dsimp only [Pt.U, Pt.locs, Pt.cells, Pt.slots] at X71 l71 y71 z71 st71 hQ71
                rw [l71, y71, z71] at X71
                obtain ⟨rfl, Nq71, e71⟩ := hQ71
                have N71 := Fr.app N69 Nq71
                refine own_viaW st71 ?_
                show own_GoW p e below s00 _ _ (T71.setTop (mkF m 256 #[.val (.long na), .second, .val (.long nb), .second, .val (.long nc), .second, .val (.long nq), .second, .val (.int fl), .val (.int (0 : Int32)), .val (.ref b4), .val (.ref b9), .val (.ref b14), .val (.ref b20), .val (.ref b21), .val .null, .val .null, .val .null, .val .null] [.null]))
                refine own_byW (fun tz kz => XS.aload X71.here hx rfl (hb hby at_256) rfl rfl kz) ?_
                show own_GoW p e below s00 _ _ (T71.setTop (mkF m 258 #[.val (.long na), .second, .val (.long nb), .second, .val (.long nc), .second, .val (.long nq), .second, .val (.int fl), .val (.int (0 : Int32)), .val (.ref b4), .val (.ref b9), .val (.ref b14), .val (.ref b20), .val (.ref b21), .val .null, .val .null, .val .null, .val .null] [.null, .null]))
                refine own_byW (fun tz kz => Jvm.RoadKit.acmp (g := (mkF m 258 #[.val (.long na), .second, .val (.long nb), .second, .val (.long nc), .second, .val (.long nq), .second, .val (.int fl), .val (.int (0 : Int32)), .val (.ref b4), .val (.ref b9), .val (.ref b14), .val (.ref b20), .val (.ref b21), .val .null, .val .null, .val .null, .val .null] [.null, .null])) X71 hx rfl rfl rfl (pc0 := 258) (pc' := 261) (same := true) rfl (hb hby at_258) rfl (decide_eq_true rfl) (by decide) (by decide) kz) ?_
                show own_GoW p e below s00 _ _ (T71.setTop (mkF m 261 #[.val (.long na), .second, .val (.long nb), .second, .val (.long nc), .second, .val (.long nq), .second, .val (.int fl), .val (.int (0 : Int32)), .val (.ref b4), .val (.ref b9), .val (.ref b14), .val (.ref b20), .val (.ref b21), .val .null, .val .null, .val .null, .val .null] []))
                refine own_byW (fun tz kz => XS.iconst X71.here hx rfl (hb hby at_261) kz) ?_
                show own_GoW p e below s00 _ _ (T71.setTop (mkF m 262 #[.val (.long na), .second, .val (.long nb), .second, .val (.long nc), .second, .val (.long nq), .second, .val (.int fl), .val (.int (0 : Int32)), .val (.ref b4), .val (.ref b9), .val (.ref b14), .val (.ref b20), .val (.ref b21), .val .null, .val .null, .val .null, .val .null] [(.int (1 : Int32))]))
                refine own_byW (fun tz kz => XS.goto X71.here hx rfl (pc0 := 262) (pc' := 266) rfl (hb hby at_262) (by decide) (by decide) kz) ?_
                show own_GoW p e below s00 _ _ (T71.setTop (mkF m 266 #[.val (.long na), .second, .val (.long nb), .second, .val (.long nc), .second, .val (.long nq), .second, .val (.int fl), .val (.int (0 : Int32)), .val (.ref b4), .val (.ref b9), .val (.ref b14), .val (.ref b20), .val (.ref b21), .val .null, .val .null, .val .null, .val .null] [(.int (1 : Int32))]))
                have A72 := (own_At.up (own_At.up A20 E21.1) Kq29.1)
                refine own_retIW X71 e71 A72 hx hlk (t := .boolean) hret (by simp) rfl (hb hby at_266) ?_ (by decide) (by decide)
                exact ⟨rfl, N71⟩
        · rw [hcs]
          show own_GoW p e below s00 _ _ (T29.setTop (mkF m 91 #[.val (.long na), .second, .val (.long nb), .second, .val (.long nc), .second, .val (.long nq), .second, .val (.int fl), .val (.int (1 : Int32)), .val (.ref b4), .val (.ref b9), .val (.ref b14), .val (.ref b20), .val (.ref b21), .unset, .unset, .unset, .unset] []))
          refine own_byW (fun tz kz => XS.iload X29.here hx rfl (hb hby at_91) rfl  kz) ?_
          show own_GoW p e below s00 _ _ (T29.setTop (mkF m 93 #[.val (.long na), .second, .val (.long nb), .second, .val (.long nc), .second, .val (.long nq), .second, .val (.int fl), .val (.int (1 : Int32)), .val (.ref b4), .val (.ref b9), .val (.ref b14), .val (.ref b20), .val (.ref b21), .unset, .unset, .unset, .unset] [(.int (1 : Int32))]))
          refine own_byW (fun tz kz => XS.iconst X29.here hx rfl (hb hby at_93) kz) ?_
          show own_GoW p e below s00 _ _ (T29.setTop (mkF m 94 #[.val (.long na), .second, .val (.long nb), .second, .val (.long nc), .second, .val (.long nq), .second, .val (.int fl), .val (.int (1 : Int32)), .val (.ref b4), .val (.ref b9), .val (.ref b14), .val (.ref b20), .val (.ref b21), .unset, .unset, .unset, .unset] [(.int (1 : Int32)), (.int (1 : Int32))]))
          refine own_byW (fun tz kz => XS.icmpNo X29.here hx rfl (hb hby at_94) rfl (flt (by decide : ¬ (1 : Int32) < (1 : Int32))).1 kz) ?_
          show own_GoW p e below s00 _ _ (T29.setTop (mkF m 97 #[.val (.long na), .second, .val (.long nb), .second, .val (.long nc), .second, .val (.long nq), .second, .val (.int fl), .val (.int (1 : Int32)), .val (.ref b4), .val (.ref b9), .val (.ref b14), .val (.ref b20), .val (.ref b21), .unset, .unset, .unset, .unset] []))
          refine own_byW (fun tz kz => XS.aload X29.here hx rfl (hb hby at_97) rfl rfl kz) ?_
          show own_GoW p e below s00 _ _ (T29.setTop (mkF m 99 #[.val (.long na), .second, .val (.long nb), .second, .val (.long nc), .second, .val (.long nq), .second, .val (.int fl), .val (.int (1 : Int32)), .val (.ref b4), .val (.ref b9), .val (.ref b14), .val (.ref b20), .val (.ref b21), .unset, .unset, .unset, .unset] [(.ref b21)]))
          refine own_byW (fun tz kz => XS.aload X29.here hx rfl (hb hby at_99) rfl rfl kz) ?_
          show own_GoW p e below s00 _ _ (T29.setTop (mkF m 101 #[.val (.long na), .second, .val (.long nb), .second, .val (.long nc), .second, .val (.long nq), .second, .val (.int fl), .val (.int (1 : Int32)), .val (.ref b4), .val (.ref b9), .val (.ref b14), .val (.ref b20), .val (.ref b21), .unset, .unset, .unset, .unset] [(.ref b9), (.ref b21)]))
          obtain ⟨kf73, Fr73⟩ := own_T.free (own_T.nil num own_H) (by simp) (own_H_lt na)
          have hne73 : ∀ y ∈ ([] : List Addr), ¬ num y = num b9 := by
            intro y q
            exact absurd q (by simp)
          have Ta73 := own_T.put (own_T.nil num own_H) (j := b9) (k' := kf73) (by rw [n1]; exact Fr73) hne73
          have f74 := (f26.keep Kq29)
          have f75 := ((((((Fq9.ext E10).keep Kq14 nin0).ext E15).keep Kq20 nin0).ext E21).keep Kq29 (ninS ne_b9_b21 nin0))
          have f76 := (A21.keep Kq29)
          obtain ⟨cq77, kq77, q77a, q77b, q77c⟩ := isOf hZ e29 f76
          obtain ⟨_, _, ⟨T77, L77, k77, n77⟩, -, X77, ⟨Lc77, hQ77, l77, y77, z77⟩, st77⟩ := X29.virtualBack hx (y := (⟨"com/example/ajenda/ajenda/core/JobsByNumber", "add", "(Lcom/example/ajenda/ajenda/core/Job;)V"⟩ : MethodName)) (z := (⟨"com/example/ajenda/ajenda/core/JobsByNumber", "add", "(Lcom/example/ajenda/ajenda/core/Job;)V"⟩ : MethodName)) hown (mvT hZ (hw _ (List.mem_of_getElem? (i := 59) rfl))) (mvT hZ (hw _ (List.mem_of_getElem? (i := 60) rfl))) (notFace_of_selects (args := #[]) (mvT hZ (hw _ (List.mem_of_getElem? (i := 62) rfl)))) (mvT hZ (hw _ (List.mem_of_getElem? (i := 62) rfl))) (mvT hZ (hw _ (List.mem_of_getElem? (i := 61) rfl))) (by decide) (backOf (W := 0) (rm_add l Z a0 hw [] b21 ar29 b9 kk29 own_g0 na kf73 (0 : Int32) T29.heap n0 O29 Vq29 Ov29 f74 f75 Fr73 g_ar29 f76 Fq29 Gq29 g_b21 ne_b21_ar29 ne_b9_ar29 ne_b9_b21 (by decide)) hZ (hw _ (List.mem_of_getElem? (i := 63) rfl)) (hw _ (List.mem_of_getElem? (i := 50) rfl)) (by decide) (by decide)) q77a q77c (g := (mkF m 101 #[.val (.long na), .second, .val (.long nb), .second, .val (.long nc), .second, .val (.long nq), .second, .val (.int fl), .val (.int (1 : Int32)), .val (.ref b4), .val (.ref b9), .val (.ref b14), .val (.ref b20), .val (.ref b21), .unset, .unset, .unset, .unset] [(.ref b9), (.ref b21)])) rfl (by rw [hml]; rfl) (Steps.refl _) (argsL := [(.ref b9)]) (rest := []) (lenOf pd_3 rfl) rfl (by show 2 * 0 + _ ≤ _; exact Nat.le_of_eq rfl) (hb hby at_101) (fun _ _ => ⟨rfl, e29, (by decide : ((((((((1 + 2) + 5) + 2) + 5) + 2) + 5) + 1) + 1) + 0 ≤ _), (by decide : ((((((((8 + 4) + 29) + (8 + 4)) + 29) + (8 + 4)) + 29) + 2) + 16) + 0 ≤ _)⟩)
          dsimp only [Pt.U, Pt.locs, Pt.cells, Pt.slots] at X77 l77 y77 z77 st77 hQ77
          rw [l77, y77, z77] at X77
          obtain ⟨rfl, Nq77, Kq77, Vq77, Fq77, Gq77⟩ := hQ77
          have N77 := Fr.app N29 Nq77
          have e77 : T77.heap = T77.heap := rfl
          refine own_viaW st77 ?_
          have O77 := O29.keep Kq77 (allS g_b21 (allS g_ar29 all0))
          have K77 := K29.trans Kq77 (allS (Or.inr sz_b21) (allS (Or.inr sz_ar29) all0))
          show own_GoW p e below s00 _ _ (T77.setTop (mkF m 104 #[.val (.long na), .second, .val (.long nb), .second, .val (.long nc), .second, .val (.long nq), .second, .val (.int fl), .val (.int (1 : Int32)), .val (.ref b4), .val (.ref b9), .val (.ref b14), .val (.ref b20), .val (.ref b21), .unset, .unset, .unset, .unset] []))
          refine own_byW (fun tz kz => XS.iload X77.here hx rfl (hb hby at_104) rfl  kz) ?_
          show own_GoW p e below s00 _ _ (T77.setTop (mkF m 106 #[.val (.long na), .second, .val (.long nb), .second, .val (.long nc), .second, .val (.long nq), .second, .val (.int fl), .val (.int (1 : Int32)), .val (.ref b4), .val (.ref b9), .val (.ref b14), .val (.ref b20), .val (.ref b21), .unset, .unset, .unset, .unset] [(.int (1 : Int32))]))
          refine own_byW (fun tz kz => XS.iconst X77.here hx rfl (hb hby at_106) kz) ?_
          show own_GoW p e below s00 _ _ (T77.setTop (mkF m 107 #[.val (.long na), .second, .val (.long nb), .second, .val (.long nc), .second, .val (.long nq), .second, .val (.int fl), .val (.int (1 : Int32)), .val (.ref b4), .val (.ref b9), .val (.ref b14), .val (.ref b20), .val (.ref b21), .unset, .unset, .unset, .unset] [(.int (2 : Int32)), (.int (1 : Int32))]))
          refine own_byW (fun tz kz => XS.icmpYes X77.here hx rfl (pc0 := 107) (pc' := 117) rfl (hb hby at_107) rfl (tlt (by decide : (1 : Int32) < (2 : Int32))).1 (by decide) (by decide) kz) ?_
          show own_GoW p e below s00 _ _ (T77.setTop (mkF m 117 #[.val (.long na), .second, .val (.long nb), .second, .val (.long nc), .second, .val (.long nq), .second, .val (.int fl), .val (.int (1 : Int32)), .val (.ref b4), .val (.ref b9), .val (.ref b14), .val (.ref b20), .val (.ref b21), .unset, .unset, .unset, .unset] []))
          refine own_byW (fun tz kz => XS.iload X77.here hx rfl (hb hby at_117) rfl  kz) ?_
          show own_GoW p e below s00 _ _ (T77.setTop (mkF m 119 #[.val (.long na), .second, .val (.long nb), .second, .val (.long nc), .second, .val (.long nq), .second, .val (.int fl), .val (.int (1 : Int32)), .val (.ref b4), .val (.ref b9), .val (.ref b14), .val (.ref b20), .val (.ref b21), .unset, .unset, .unset, .unset] [(.int (1 : Int32))]))
          refine own_byW (fun tz kz => XS.iconst X77.here hx rfl (hb hby at_119) kz) ?_
          show own_GoW p e below s00 _ _ (T77.setTop (mkF m 120 #[.val (.long na), .second, .val (.long nb), .second, .val (.long nc), .second, .val (.long nq), .second, .val (.int fl), .val (.int (1 : Int32)), .val (.ref b4), .val (.ref b9), .val (.ref b14), .val (.ref b20), .val (.ref b21), .unset, .unset, .unset, .unset] [(.int (3 : Int32)), (.int (1 : Int32))]))
          refine own_byW (fun tz kz => XS.icmpYes X77.here hx rfl (pc0 := 120) (pc' := 130) rfl (hb hby at_120) rfl (tlt (by decide : (1 : Int32) < (3 : Int32))).1 (by decide) (by decide) kz) ?_
          show own_GoW p e below s00 _ _ (T77.setTop (mkF m 130 #[.val (.long na), .second, .val (.long nb), .second, .val (.long nc), .second, .val (.long nq), .second, .val (.int fl), .val (.int (1 : Int32)), .val (.ref b4), .val (.ref b9), .val (.ref b14), .val (.ref b20), .val (.ref b21), .unset, .unset, .unset, .unset] []))
          refine own_byW (fun tz kz => XS.iload X77.here hx rfl (hb hby at_130) rfl  kz) ?_
          show own_GoW p e below s00 _ _ (T77.setTop (mkF m 132 #[.val (.long na), .second, .val (.long nb), .second, .val (.long nc), .second, .val (.long nq), .second, .val (.int fl), .val (.int (1 : Int32)), .val (.ref b4), .val (.ref b9), .val (.ref b14), .val (.ref b20), .val (.ref b21), .unset, .unset, .unset, .unset] [(.int (1 : Int32))]))
          refine own_byW (fun tz kz => XS.iconst X77.here hx rfl (hb hby at_132) kz) ?_
          show own_GoW p e below s00 _ _ (T77.setTop (mkF m 133 #[.val (.long na), .second, .val (.long nb), .second, .val (.long nc), .second, .val (.long nq), .second, .val (.int fl), .val (.int (1 : Int32)), .val (.ref b4), .val (.ref b9), .val (.ref b14), .val (.ref b20), .val (.ref b21), .unset, .unset, .unset, .unset] [(.int (1 : Int32)), (.int (1 : Int32))]))
          refine own_byW (fun tz kz => XS.icmpNo X77.here hx rfl (hb hby at_133) rfl (flt (by decide : ¬ (1 : Int32) < (1 : Int32))).1 kz) ?_
          show own_GoW p e below s00 _ _ (T77.setTop (mkF m 136 #[.val (.long na), .second, .val (.long nb), .second, .val (.long nc), .second, .val (.long nq), .second, .val (.int fl), .val (.int (1 : Int32)), .val (.ref b4), .val (.ref b9), .val (.ref b14), .val (.ref b20), .val (.ref b21), .unset, .unset, .unset, .unset] []))
          refine own_byW (fun tz kz => XS.aload X77.here hx rfl (hb hby at_136) rfl rfl kz) ?_
          show own_GoW p e below s00 _ _ (T77.setTop (mkF m 138 #[.val (.long na), .second, .val (.long nb), .second, .val (.long nc), .second, .val (.long nq), .second, .val (.int fl), .val (.int (1 : Int32)), .val (.ref b4), .val (.ref b9), .val (.ref b14), .val (.ref b20), .val (.ref b21), .unset, .unset, .unset, .unset] [(.ref b9)]))
          refine own_byW (fun tz kz => XS.goto X77.here hx rfl (pc0 := 138) (pc' := 142) rfl (hb hby at_138) (by decide) (by decide) kz) ?_
          show own_GoW p e below s00 _ _ (T77.setTop (mkF m 142 #[.val (.long na), .second, .val (.long nb), .second, .val (.long nc), .second, .val (.long nq), .second, .val (.int fl), .val (.int (1 : Int32)), .val (.ref b4), .val (.ref b9), .val (.ref b14), .val (.ref b20), .val (.ref b21), .unset, .unset, .unset, .unset] [(.ref b9)]))
          refine own_byW (fun tz kz => XS.astore X77.here hx rfl (hb hby at_142) rfl rfl (l' := #[.val (.long na), .second, .val (.long nb), .second, .val (.long nc), .second, .val (.long nq), .second, .val (.int fl), .val (.int (1 : Int32)), .val (.ref b4), .val (.ref b9), .val (.ref b14), .val (.ref b20), .val (.ref b21), .val (.ref b9), .unset, .unset, .unset]) rfl kz) ?_
          show own_GoW p e below s00 _ _ (T77.setTop (mkF m 144 #[.val (.long na), .second, .val (.long nb), .second, .val (.long nc), .second, .val (.long nq), .second, .val (.int fl), .val (.int (1 : Int32)), .val (.ref b4), .val (.ref b9), .val (.ref b14), .val (.ref b20), .val (.ref b21), .val (.ref b9), .unset, .unset, .unset] []))
          refine own_byW (fun tz kz => XS.iload X77.here hx rfl (hb hby at_144) rfl  kz) ?_
          show own_GoW p e below s00 _ _ (T77.setTop (mkF m 146 #[.val (.long na), .second, .val (.long nb), .second, .val (.long nc), .second, .val (.long nq), .second, .val (.int fl), .val (.int (1 : Int32)), .val (.ref b4), .val (.ref b9), .val (.ref b14), .val (.ref b20), .val (.ref b21), .val (.ref b9), .unset, .unset, .unset] [(.int (1 : Int32))]))
          refine own_byW (fun tz kz => XS.iconst X77.here hx rfl (hb hby at_146) kz) ?_
          show own_GoW p e below s00 _ _ (T77.setTop (mkF m 147 #[.val (.long na), .second, .val (.long nb), .second, .val (.long nc), .second, .val (.long nq), .second, .val (.int fl), .val (.int (1 : Int32)), .val (.ref b4), .val (.ref b9), .val (.ref b14), .val (.ref b20), .val (.ref b21), .val (.ref b9), .unset, .unset, .unset] [(.int (2 : Int32)), (.int (1 : Int32))]))
          refine own_byW (fun tz kz => XS.icmpYes X77.here hx rfl (pc0 := 147) (pc' := 155) rfl (hb hby at_147) rfl (tlt (by decide : (1 : Int32) < (2 : Int32))).1 (by decide) (by decide) kz) ?_
          show own_GoW p e below s00 _ _ (T77.setTop (mkF m 155 #[.val (.long na), .second, .val (.long nb), .second, .val (.long nc), .second, .val (.long nq), .second, .val (.int fl), .val (.int (1 : Int32)), .val (.ref b4), .val (.ref b9), .val (.ref b14), .val (.ref b20), .val (.ref b21), .val (.ref b9), .unset, .unset, .unset] []))
          refine own_byW (fun tz kz => XS.aconstNull X77.here hx rfl (hb hby at_155) kz) ?_
          show own_GoW p e below s00 _ _ (T77.setTop (mkF m 156 #[.val (.long na), .second, .val (.long nb), .second, .val (.long nc), .second, .val (.long nq), .second, .val (.int fl), .val (.int (1 : Int32)), .val (.ref b4), .val (.ref b9), .val (.ref b14), .val (.ref b20), .val (.ref b21), .val (.ref b9), .unset, .unset, .unset] [.null]))
          refine own_byW (fun tz kz => XS.astore X77.here hx rfl (hb hby at_156) rfl rfl (l' := #[.val (.long na), .second, .val (.long nb), .second, .val (.long nc), .second, .val (.long nq), .second, .val (.int fl), .val (.int (1 : Int32)), .val (.ref b4), .val (.ref b9), .val (.ref b14), .val (.ref b20), .val (.ref b21), .val (.ref b9), .val .null, .unset, .unset]) rfl kz) ?_
          show own_GoW p e below s00 _ _ (T77.setTop (mkF m 158 #[.val (.long na), .second, .val (.long nb), .second, .val (.long nc), .second, .val (.long nq), .second, .val (.int fl), .val (.int (1 : Int32)), .val (.ref b4), .val (.ref b9), .val (.ref b14), .val (.ref b20), .val (.ref b21), .val (.ref b9), .val .null, .unset, .unset] []))
          refine own_byW (fun tz kz => XS.iload X77.here hx rfl (hb hby at_158) rfl  kz) ?_
          show own_GoW p e below s00 _ _ (T77.setTop (mkF m 160 #[.val (.long na), .second, .val (.long nb), .second, .val (.long nc), .second, .val (.long nq), .second, .val (.int fl), .val (.int (1 : Int32)), .val (.ref b4), .val (.ref b9), .val (.ref b14), .val (.ref b20), .val (.ref b21), .val (.ref b9), .val .null, .unset, .unset] [(.int (1 : Int32))]))
          refine own_byW (fun tz kz => XS.iconst X77.here hx rfl (hb hby at_160) kz) ?_
          show own_GoW p e below s00 _ _ (T77.setTop (mkF m 161 #[.val (.long na), .second, .val (.long nb), .second, .val (.long nc), .second, .val (.long nq), .second, .val (.int fl), .val (.int (1 : Int32)), .val (.ref b4), .val (.ref b9), .val (.ref b14), .val (.ref b20), .val (.ref b21), .val (.ref b9), .val .null, .unset, .unset] [(.int (3 : Int32)), (.int (1 : Int32))]))
          refine own_byW (fun tz kz => XS.icmpYes X77.here hx rfl (pc0 := 161) (pc' := 169) rfl (hb hby at_161) rfl (tlt (by decide : (1 : Int32) < (3 : Int32))).1 (by decide) (by decide) kz) ?_
          show own_GoW p e below s00 _ _ (T77.setTop (mkF m 169 #[.val (.long na), .second, .val (.long nb), .second, .val (.long nc), .second, .val (.long nq), .second, .val (.int fl), .val (.int (1 : Int32)), .val (.ref b4), .val (.ref b9), .val (.ref b14), .val (.ref b20), .val (.ref b21), .val (.ref b9), .val .null, .unset, .unset] []))
          refine own_byW (fun tz kz => XS.aconstNull X77.here hx rfl (hb hby at_169) kz) ?_
          show own_GoW p e below s00 _ _ (T77.setTop (mkF m 170 #[.val (.long na), .second, .val (.long nb), .second, .val (.long nc), .second, .val (.long nq), .second, .val (.int fl), .val (.int (1 : Int32)), .val (.ref b4), .val (.ref b9), .val (.ref b14), .val (.ref b20), .val (.ref b21), .val (.ref b9), .val .null, .unset, .unset] [.null]))
          refine own_byW (fun tz kz => XS.astore X77.here hx rfl (hb hby at_170) rfl rfl (l' := #[.val (.long na), .second, .val (.long nb), .second, .val (.long nc), .second, .val (.long nq), .second, .val (.int fl), .val (.int (1 : Int32)), .val (.ref b4), .val (.ref b9), .val (.ref b14), .val (.ref b20), .val (.ref b21), .val (.ref b9), .val .null, .val .null, .unset]) rfl kz) ?_
          show own_GoW p e below s00 _ _ (T77.setTop (mkF m 172 #[.val (.long na), .second, .val (.long nb), .second, .val (.long nc), .second, .val (.long nq), .second, .val (.int fl), .val (.int (1 : Int32)), .val (.ref b4), .val (.ref b9), .val (.ref b14), .val (.ref b20), .val (.ref b21), .val (.ref b9), .val .null, .val .null, .unset] []))
          refine own_byW (fun tz kz => XS.aconstNull X77.here hx rfl (hb hby at_172) kz) ?_
          show own_GoW p e below s00 _ _ (T77.setTop (mkF m 173 #[.val (.long na), .second, .val (.long nb), .second, .val (.long nc), .second, .val (.long nq), .second, .val (.int fl), .val (.int (1 : Int32)), .val (.ref b4), .val (.ref b9), .val (.ref b14), .val (.ref b20), .val (.ref b21), .val (.ref b9), .val .null, .val .null, .unset] [.null]))
          refine own_byW (fun tz kz => XS.astore X77.here hx rfl (hb hby at_173) rfl rfl (l' := #[.val (.long na), .second, .val (.long nb), .second, .val (.long nc), .second, .val (.long nq), .second, .val (.int fl), .val (.int (1 : Int32)), .val (.ref b4), .val (.ref b9), .val (.ref b14), .val (.ref b20), .val (.ref b21), .val (.ref b9), .val .null, .val .null, .val .null]) rfl kz) ?_
          show own_GoW p e below s00 _ _ (T77.setTop (mkF m 175 #[.val (.long na), .second, .val (.long nb), .second, .val (.long nc), .second, .val (.long nq), .second, .val (.int fl), .val (.int (1 : Int32)), .val (.ref b4), .val (.ref b9), .val (.ref b14), .val (.ref b20), .val (.ref b21), .val (.ref b9), .val .null, .val .null, .val .null] []))
          refine own_byW (fun tz kz => XS.lload X77.here hx rfl (hb hby at_175) rfl kz) ?_
          show own_GoW p e below s00 _ _ (T77.setTop (mkF m 177 #[.val (.long na), .second, .val (.long nb), .second, .val (.long nc), .second, .val (.long nq), .second, .val (.int fl), .val (.int (1 : Int32)), .val (.ref b4), .val (.ref b9), .val (.ref b14), .val (.ref b20), .val (.ref b21), .val (.ref b9), .val .null, .val .null, .val .null] [(.long nq)]))
          refine own_byW (fun tz kz => XS.lloadN X77.here hx rfl (hb hby at_177) rfl kz) ?_
          show own_GoW p e below s00 _ _ (T77.setTop (mkF m 178 #[.val (.long na), .second, .val (.long nb), .second, .val (.long nc), .second, .val (.long nq), .second, .val (.int fl), .val (.int (1 : Int32)), .val (.ref b4), .val (.ref b9), .val (.ref b14), .val (.ref b20), .val (.ref b21), .val (.ref b9), .val .null, .val .null, .val .null] [(.long na), (.long nq)]))
          refine own_byW (fun tz kz => XS.lcmp X77.here hx rfl (hb hby at_178) rfl kz) ?_
          show own_GoW p e below s00 _ _ (T77.setTop (mkF m 179 #[.val (.long na), .second, .val (.long nb), .second, .val (.long nc), .second, .val (.long nq), .second, .val (.int fl), .val (.int (1 : Int32)), .val (.ref b4), .val (.ref b9), .val (.ref b14), .val (.ref b20), .val (.ref b21), .val (.ref b9), .val .null, .val .null, .val .null] [(.int (lcmpW nq na))]))
          by_cases hc179_78 : nq = na
          · refine own_byW (fun tz kz => XS.ifNo X77.here hx rfl (hb hby at_179) rfl ((if0 _ _).trans (teq ((lw_eq nq na).mpr hc179_78)).2) kz) ?_
            show own_GoW p e below s00 _ _ (T77.setTop (mkF m 182 #[.val (.long na), .second, .val (.long nb), .second, .val (.long nc), .second, .val (.long nq), .second, .val (.int fl), .val (.int (1 : Int32)), .val (.ref b4), .val (.ref b9), .val (.ref b14), .val (.ref b20), .val (.ref b21), .val (.ref b9), .val .null, .val .null, .val .null] []))
            refine own_byW (fun tz kz => XS.aload X77.here hx rfl (hb hby at_182) rfl rfl kz) ?_
            show own_GoW p e below s00 _ _ (T77.setTop (mkF m 184 #[.val (.long na), .second, .val (.long nb), .second, .val (.long nc), .second, .val (.long nq), .second, .val (.int fl), .val (.int (1 : Int32)), .val (.ref b4), .val (.ref b9), .val (.ref b14), .val (.ref b20), .val (.ref b21), .val (.ref b9), .val .null, .val .null, .val .null] [(.ref b9)]))
            refine own_byW (fun tz kz => XS.astore X77.here hx rfl (hb hby at_184) rfl rfl (l' := #[.val (.long na), .second, .val (.long nb), .second, .val (.long nc), .second, .val (.long nq), .second, .val (.int fl), .val (.int (1 : Int32)), .val (.ref b4), .val (.ref b9), .val (.ref b14), .val (.ref b20), .val (.ref b21), .val (.ref b9), .val .null, .val .null, .val (.ref b9)]) rfl kz) ?_
            show own_GoW p e below s00 _ _ (T77.setTop (mkF m 186 #[.val (.long na), .second, .val (.long nb), .second, .val (.long nc), .second, .val (.long nq), .second, .val (.int fl), .val (.int (1 : Int32)), .val (.ref b4), .val (.ref b9), .val (.ref b14), .val (.ref b20), .val (.ref b21), .val (.ref b9), .val .null, .val .null, .val (.ref b9)] []))
            refine own_byW (fun tz kz => XS.goto X77.here hx rfl (pc0 := 186) (pc' := 215) rfl (hb hby at_186) (by decide) (by decide) kz) ?_
            show own_GoW p e below s00 _ _ (T77.setTop (mkF m 215 #[.val (.long na), .second, .val (.long nb), .second, .val (.long nc), .second, .val (.long nq), .second, .val (.int fl), .val (.int (1 : Int32)), .val (.ref b4), .val (.ref b9), .val (.ref b14), .val (.ref b20), .val (.ref b21), .val (.ref b9), .val .null, .val .null, .val (.ref b9)] []))
            refine own_byW (fun tz kz => XS.aload X77.here hx rfl (hb hby at_215) rfl rfl kz) ?_
            show own_GoW p e below s00 _ _ (T77.setTop (mkF m 217 #[.val (.long na), .second, .val (.long nb), .second, .val (.long nc), .second, .val (.long nq), .second, .val (.int fl), .val (.int (1 : Int32)), .val (.ref b4), .val (.ref b9), .val (.ref b14), .val (.ref b20), .val (.ref b21), .val (.ref b9), .val .null, .val .null, .val (.ref b9)] [(.ref b21)]))
            refine own_byW (fun tz kz => XS.lloadN X77.here hx rfl (hb hby at_217) rfl kz) ?_
            show own_GoW p e below s00 _ _ (T77.setTop (mkF m 218 #[.val (.long na), .second, .val (.long nb), .second, .val (.long nc), .second, .val (.long nq), .second, .val (.int fl), .val (.int (1 : Int32)), .val (.ref b4), .val (.ref b9), .val (.ref b14), .val (.ref b20), .val (.ref b21), .val (.ref b9), .val .null, .val .null, .val (.ref b9)] [(.long na), (.ref b21)]))
            have f79 := (f75.keep Kq77 (ninS ne_b9_b21 (ninS ne_b9_ar29 nin0)))
            have Fi80 : own_Find (own_set own_g0 kf73 b9) num na (some b9) (own_H na) := by
              have q := (Ta73).path b9 (by simp)
              rw [n1] at q; exact q
            have hn80 : ∀ (k : Nat) (y : Addr), (own_set own_g0 kf73 b9) k = some y → Fld Z T77.heap y "com/example/ajenda/ajenda/core/Job" "number" "J" (.long (num y)) := by
              intro k y q0
              have q := (Ta73).all k y q0
              simp only [List.mem_cons, List.not_mem_nil, or_false] at q
              rw [q]; rw [n1]; exact f79
            have f81 := (f76.keep Kq77)
            obtain ⟨cq82, kq82, q82a, q82b, q82c⟩ := isOf hZ e77 f81
            obtain ⟨_, _, ⟨T82, L82, k82, n82⟩, -, X82, ⟨Lc82, hQ82, l82, y82, z82⟩, st82⟩ := X77.virtualBack hx (y := (⟨"com/example/ajenda/ajenda/core/JobsByNumber", "get", "(J)Lcom/example/ajenda/ajenda/core/Job;"⟩ : MethodName)) (z := (⟨"com/example/ajenda/ajenda/core/JobsByNumber", "get", "(J)Lcom/example/ajenda/ajenda/core/Job;"⟩ : MethodName)) hown (mvT hZ (hw _ (List.mem_of_getElem? (i := 80) rfl))) (mvT hZ (hw _ (List.mem_of_getElem? (i := 81) rfl))) (notFace_of_selects (args := #[]) (mvT hZ (hw _ (List.mem_of_getElem? (i := 83) rfl)))) (mvT hZ (hw _ (List.mem_of_getElem? (i := 83) rfl))) (mvT hZ (hw _ (List.mem_of_getElem? (i := 82) rfl))) (by decide) (backOf (W := 0) (rm_get l Z a0 hw [] b21 ar29 kk29 (own_set own_g0 kf73 b9) num na (some b9) T77.heap n0 Vq77 Fq77 hn80 Fi80) hZ (hw _ (List.mem_of_getElem? (i := 84) rfl)) (hw _ (List.mem_of_getElem? (i := 50) rfl)) (by decide) (by decide)) q82a q82c (g := (mkF m 218 #[.val (.long na), .second, .val (.long nb), .second, .val (.long nc), .second, .val (.long nq), .second, .val (.int fl), .val (.int (1 : Int32)), .val (.ref b4), .val (.ref b9), .val (.ref b14), .val (.ref b20), .val (.ref b21), .val (.ref b9), .val .null, .val .null, .val (.ref b9)] [(.long na), (.ref b21)])) rfl (by rw [hml]; rfl) (Steps.refl _) (argsL := [(.long na)]) (rest := []) (lenOf pd_7 rfl) rfl (by show 2 * 0 + _ ≤ _; exact Nat.le_of_eq rfl) (hb hby at_218) (fun _ _ => ⟨rfl, e77, (by decide : ((((((((1 + 2) + 5) + 2) + 5) + 2) + 5) + 1) + 1) + 0 ≤ _), (by decide : ((((((((8 + 4) + 29) + (8 + 4)) + 29) + (8 + 4)) + 29) + 2) + 16) + 0 ≤ _)⟩)
            dsimp only [Pt.U, Pt.locs, Pt.cells, Pt.slots] at X82 l82 y82 z82 st82 hQ82
            rw [l82, y82, z82] at X82
            obtain ⟨rfl, Nq82, e82⟩ := hQ82
            have N82 := Fr.app N77 Nq82
            refine own_viaW st82 ?_
            show own_GoW p e below s00 _ _ (T82.setTop (mkF m 221 #[.val (.long na), .second, .val (.long nb), .second, .val (.long nc), .second, .val (.long nq), .second, .val (.int fl), .val (.int (1 : Int32)), .val (.ref b4), .val (.ref b9), .val (.ref b14), .val (.ref b20), .val (.ref b21), .val (.ref b9), .val .null, .val .null, .val (.ref b9)] [(.ref b9)]))
            refine own_byW (fun tz kz => XS.aload X82.here hx rfl (hb hby at_221) rfl rfl kz) ?_
            show own_GoW p e below s00 _ _ (T82.setTop (mkF m 223 #[.val (.long na), .second, .val (.long nb), .second, .val (.long nc), .second, .val (.long nq), .second, .val (.int fl), .val (.int (1 : Int32)), .val (.ref b4), .val (.ref b9), .val (.ref b14), .val (.ref b20), .val (.ref b21), .val (.ref b9), .val .null, .val .null, .val (.ref b9)] [(.ref b9), (.ref b9)]))
            refine own_byW (fun tz kz => Jvm.RoadKit.acmp (g := (mkF m 223 #[.val (.long na), .second, .val (.long nb), .second, .val (.long nc), .second, .val (.long nq), .second, .val (.int fl), .val (.int (1 : Int32)), .val (.ref b4), .val (.ref b9), .val (.ref b14), .val (.ref b20), .val (.ref b21), .val (.ref b9), .val .null, .val .null, .val (.ref b9)] [(.ref b9), (.ref b9)])) X82 hx rfl rfl rfl (pc0 := 223) (pc' := 226) (same := true) rfl (hb hby at_223) rfl (decide_eq_true rfl) (by decide) (by decide) kz) ?_
            show own_GoW p e below s00 _ _ (T82.setTop (mkF m 226 #[.val (.long na), .second, .val (.long nb), .second, .val (.long nc), .second, .val (.long nq), .second, .val (.int fl), .val (.int (1 : Int32)), .val (.ref b4), .val (.ref b9), .val (.ref b14), .val (.ref b20), .val (.ref b21), .val (.ref b9), .val .null, .val .null, .val (.ref b9)] []))
            refine own_byW (fun tz kz => XS.aload X82.here hx rfl (hb hby at_226) rfl rfl kz) ?_
            show own_GoW p e below s00 _ _ (T82.setTop (mkF m 228 #[.val (.long na), .second, .val (.long nb), .second, .val (.long nc), .second, .val (.long nq), .second, .val (.int fl), .val (.int (1 : Int32)), .val (.ref b4), .val (.ref b9), .val (.ref b14), .val (.ref b20), .val (.ref b21), .val (.ref b9), .val .null, .val .null, .val (.ref b9)] [(.ref b21)]))
            refine own_byW (fun tz kz => XS.lloadN X82.here hx rfl (hb hby at_228) rfl kz) ?_
            show own_GoW p e below s00 _ _ (T82.setTop (mkF m 229 #[.val (.long na), .second, .val (.long nb), .second, .val (.long nc), .second, .val (.long nq), .second, .val (.int fl), .val (.int (1 : Int32)), .val (.ref b4), .val (.ref b9), .val (.ref b14), .val (.ref b20), .val (.ref b21), .val (.ref b9), .val .null, .val .null, .val (.ref b9)] [(.long nb), (.ref b21)]))
            have hne83 : ∀ y ∈ ([b9] : List Addr), ¬ num y = nb := by
              intro y q
              simp only [List.mem_cons, List.not_mem_nil, or_false] at q
              rw [q]; rw [n1]; exact hc3_1
            have Fi83 : own_Find (own_set own_g0 kf73 b9) num nb none (own_H nb) := by
              exact (Ta73).miss (by simp) (own_H_lt _) hne83
            have hn83 : ∀ (k : Nat) (y : Addr), (own_set own_g0 kf73 b9) k = some y → Fld Z T77.heap y "com/example/ajenda/ajenda/core/Job" "number" "J" (.long (num y)) := by
              intro k y q0
              have q := (Ta73).all k y q0
              simp only [List.mem_cons, List.not_mem_nil, or_false] at q
              rw [q]; rw [n1]; exact f79
            obtain ⟨cq84, kq84, q84a, q84b, q84c⟩ := isOf hZ e82 f81
            obtain ⟨_, _, ⟨T84, L84, k84, n84⟩, -, X84, ⟨Lc84, hQ84, l84, y84, z84⟩, st84⟩ := X82.virtualBack hx (y := (⟨"com/example/ajenda/ajenda/core/JobsByNumber", "get", "(J)Lcom/example/ajenda/ajenda/core/Job;"⟩ : MethodName)) (z := (⟨"com/example/ajenda/ajenda/core/JobsByNumber", "get", "(J)Lcom/example/ajenda/ajenda/core/Job;"⟩ : MethodName)) hown (mvT hZ (hw _ (List.mem_of_getElem? (i := 80) rfl))) (mvT hZ (hw _ (List.mem_of_getElem? (i := 81) rfl))) (notFace_of_selects (args := #[]) (mvT hZ (hw _ (List.mem_of_getElem? (i := 83) rfl)))) (mvT hZ (hw _ (List.mem_of_getElem? (i := 83) rfl))) (mvT hZ (hw _ (List.mem_of_getElem? (i := 82) rfl))) (by decide) (backOf (W := 0) (rm_get l Z a0 hw [] b21 ar29 kk29 (own_set own_g0 kf73 b9) num nb none T77.heap n0 Vq77 Fq77 hn83 Fi83) hZ (hw _ (List.mem_of_getElem? (i := 84) rfl)) (hw _ (List.mem_of_getElem? (i := 50) rfl)) (by decide) (by decide)) q84a q84c (g := (mkF m 229 #[.val (.long na), .second, .val (.long nb), .second, .val (.long nc), .second, .val (.long nq), .second, .val (.int fl), .val (.int (1 : Int32)), .val (.ref b4), .val (.ref b9), .val (.ref b14), .val (.ref b20), .val (.ref b21), .val (.ref b9), .val .null, .val .null, .val (.ref b9)] [(.long nb), (.ref b21)])) rfl (by rw [hml]; rfl) (Steps.refl _) (argsL := [(.long nb)]) (rest := []) (lenOf pd_7 rfl) rfl (by show 2 * 0 + _ ≤ _; exact Nat.le_of_eq rfl) (hb hby at_229) (fun _ _ => ⟨rfl, e82, (by decide : ((((((((1 + 2) + 5) + 2) + 5) + 2) + 5) + 1) + 1) + 0 ≤ _), (by decide : ((((((((8 + 4) + 29) + (8 + 4)) + 29) + (8 + 4)) + 29) + 2) + 16) + 0 ≤ _)⟩)
            dsimp only [Pt.U, Pt.locs, Pt.cells, Pt.slots] at X84 l84 y84 z84 st84 hQ84
            rw [l84, y84, z84] at X84
            obtain ⟨rfl, Nq84, e84⟩ := hQ84
            have N84 := Fr.app N82 Nq84
            refine own_viaW st84 ?_
            show own_GoW p e below s00 _ _ (T84.setTop (mkF m 232 #[.val (.long na), .second, .val (.long nb), .second, .val (.long nc), .second, .val (.long nq), .second, .val (.int fl), .val (.int (1 : Int32)), .val (.ref b4), .val (.ref b9), .val (.ref b14), .val (.ref b20), .val (.ref b21), .val (.ref b9), .val .null, .val .null, .val (.ref b9)] [.null]))
            refine own_byW (fun tz kz => XS.aload X84.here hx rfl (hb hby at_232) rfl rfl kz) ?_
            show own_GoW p e below s00 _ _ (T84.setTop (mkF m 234 #[.val (.long na), .second, .val (.long nb), .second, .val (.long nc), .second, .val (.long nq), .second, .val (.int fl), .val (.int (1 : Int32)), .val (.ref b4), .val (.ref b9), .val (.ref b14), .val (.ref b20), .val (.ref b21), .val (.ref b9), .val .null, .val .null, .val (.ref b9)] [.null, .null]))
            refine own_byW (fun tz kz => Jvm.RoadKit.acmp (g := (mkF m 234 #[.val (.long na), .second, .val (.long nb), .second, .val (.long nc), .second, .val (.long nq), .second, .val (.int fl), .val (.int (1 : Int32)), .val (.ref b4), .val (.ref b9), .val (.ref b14), .val (.ref b20), .val (.ref b21), .val (.ref b9), .val .null, .val .null, .val (.ref b9)] [.null, .null])) X84 hx rfl rfl rfl (pc0 := 234) (pc' := 237) (same := true) rfl (hb hby at_234) rfl (decide_eq_true rfl) (by decide) (by decide) kz) ?_
            show own_GoW p e below s00 _ _ (T84.setTop (mkF m 237 #[.val (.long na), .second, .val (.long nb), .second, .val (.long nc), .second, .val (.long nq), .second, .val (.int fl), .val (.int (1 : Int32)), .val (.ref b4), .val (.ref b9), .val (.ref b14), .val (.ref b20), .val (.ref b21), .val (.ref b9), .val .null, .val .null, .val (.ref b9)] []))
            refine own_byW (fun tz kz => XS.aload X84.here hx rfl (hb hby at_237) rfl rfl kz) ?_
            show own_GoW p e below s00 _ _ (T84.setTop (mkF m 239 #[.val (.long na), .second, .val (.long nb), .second, .val (.long nc), .second, .val (.long nq), .second, .val (.int fl), .val (.int (1 : Int32)), .val (.ref b4), .val (.ref b9), .val (.ref b14), .val (.ref b20), .val (.ref b21), .val (.ref b9), .val .null, .val .null, .val (.ref b9)] [(.ref b21)]))
            refine own_byW (fun tz kz => XS.lload X84.here hx rfl (hb hby at_239) rfl kz) ?_
            show own_GoW p e below s00 _ _ (T84.setTop (mkF m 241 #[.val (.long na), .second, .val (.long nb), .second, .val (.long nc), .second, .val (.long nq), .second, .val (.int fl), .val (.int (1 : Int32)), .val (.ref b4), .val (.ref b9), .val (.ref b14), .val (.ref b20), .val (.ref b21), .val (.ref b9), .val .null, .val .null, .val (.ref b9)] [(.long nc), (.ref b21)]))
            have hne85 : ∀ y ∈ ([b9] : List Addr), ¬ num y = nc := by
              intro y q
              simp only [List.mem_cons, List.not_mem_nil, or_false] at q
              rw [q]; rw [n1]; exact hc10_2
            have Fi85 : own_Find (own_set own_g0 kf73 b9) num nc none (own_H nc) := by
              exact (Ta73).miss (by simp) (own_H_lt _) hne85
            have hn85 : ∀ (k : Nat) (y : Addr), (own_set own_g0 kf73 b9) k = some y → Fld Z T77.heap y "com/example/ajenda/ajenda/core/Job" "number" "J" (.long (num y)) := by
              intro k y q0
              have q := (Ta73).all k y q0
              simp only [List.mem_cons, List.not_mem_nil, or_false] at q
              rw [q]; rw [n1]; exact f79
            obtain ⟨cq86, kq86, q86a, q86b, q86c⟩ := isOf hZ e84 f81
            obtain ⟨_, _, ⟨T86, L86, k86, n86⟩, -, X86, ⟨Lc86, hQ86, l86, y86, z86⟩, st86⟩ := X84.virtualBack hx (y := (⟨"com/example/ajenda/ajenda/core/JobsByNumber", "get", "(J)Lcom/example/ajenda/ajenda/core/Job;"⟩ : MethodName)) (z := (⟨"com/example/ajenda/ajenda/core/JobsByNumber", "get", "(J)Lcom/example/ajenda/ajenda/core/Job;"⟩ : MethodName)) hown (mvT hZ (hw _ (List.mem_of_getElem? (i := 80) rfl))) (mvT hZ (hw _ (List.mem_of_getElem? (i := 81) rfl))) (notFace_of_selects (args := #[]) (mvT hZ (hw _ (List.mem_of_getElem? (i := 83) rfl)))) (mvT hZ (hw _ (List.mem_of_getElem? (i := 83) rfl))) (mvT hZ (hw _ (List.mem_of_getElem? (i := 82) rfl))) (by decide) (backOf (W := 0) (rm_get l Z a0 hw [] b21 ar29 kk29 (own_set own_g0 kf73 b9) num nc none T77.heap n0 Vq77 Fq77 hn85 Fi85) hZ (hw _ (List.mem_of_getElem? (i := 84) rfl)) (hw _ (List.mem_of_getElem? (i := 50) rfl)) (by decide) (by decide)) q86a q86c (g := (mkF m 241 #[.val (.long na), .second, .val (.long nb), .second, .val (.long nc), .second, .val (.long nq), .second, .val (.int fl), .val (.int (1 : Int32)), .val (.ref b4), .val (.ref b9), .val (.ref b14), .val (.ref b20), .val (.ref b21), .val (.ref b9), .val .null, .val .null, .val (.ref b9)] [(.long nc), (.ref b21)])) rfl (by rw [hml]; rfl) (Steps.refl _) (argsL := [(.long nc)]) (rest := []) (lenOf pd_7 rfl) rfl (by show 2 * 0 + _ ≤ _; exact Nat.le_of_eq rfl) (hb hby at_241) (fun _ _ => ⟨rfl, e84, (by decide : ((((((((1 + 2) + 5) + 2) + 5) + 2) + 5) + 1) + 1) + 0 ≤ _), (by decide : ((((((((8 + 4) + 29) + (8 + 4)) + 29) + (8 + 4)) + 29) + 2) + 16) + 0 ≤ _)⟩)
            dsimp only [Pt.U, Pt.locs, Pt.cells, Pt.slots] at X86 l86 y86 z86 st86 hQ86
            rw [l86, y86, z86] at X86
            obtain ⟨rfl, Nq86, e86⟩ := hQ86
            have N86 := Fr.app N84 Nq86
            refine own_viaW st86 ?_
            show own_GoW p e below s00 _ _ (T86.setTop (mkF m 244 #[.val (.long na), .second, .val (.long nb), .second, .val (.long nc), .second, .val (.long nq), .second, .val (.int fl), .val (.int (1 : Int32)), .val (.ref b4), .val (.ref b9), .val (.ref b14), .val (.ref b20), .val (.ref b21), .val (.ref b9), .val .null, .val .null, .val (.ref b9)] [.null]))
            refine own_byW (fun tz kz => XS.aload X86.here hx rfl (hb hby at_244) rfl rfl kz) ?_
            show own_GoW p e below s00 _ _ (T86.setTop (mkF m 246 #[.val (.long na), .second, .val (.long nb), .second, .val (.long nc), .second, .val (.long nq), .second, .val (.int fl), .val (.int (1 : Int32)), .val (.ref b4), .val (.ref b9), .val (.ref b14), .val (.ref b20), .val (.ref b21), .val (.ref b9), .val .null, .val .null, .val (.ref b9)] [.null, .null]))
            refine own_byW (fun tz kz => Jvm.RoadKit.acmp (g := (mkF m 246 #[.val (.long na), .second, .val (.long nb), .second, .val (.long nc), .second, .val (.long nq), .second, .val (.int fl), .val (.int (1 : Int32)), .val (.ref b4), .val (.ref b9), .val (.ref b14), .val (.ref b20), .val (.ref b21), .val (.ref b9), .val .null, .val .null, .val (.ref b9)] [.null, .null])) X86 hx rfl rfl rfl (pc0 := 246) (pc' := 249) (same := true) rfl (hb hby at_246) rfl (decide_eq_true rfl) (by decide) (by decide) kz) ?_
            show own_GoW p e below s00 _ _ (T86.setTop (mkF m 249 #[.val (.long na), .second, .val (.long nb), .second, .val (.long nc), .second, .val (.long nq), .second, .val (.int fl), .val (.int (1 : Int32)), .val (.ref b4), .val (.ref b9), .val (.ref b14), .val (.ref b20), .val (.ref b21), .val (.ref b9), .val .null, .val .null, .val (.ref b9)] []))
            refine own_byW (fun tz kz => XS.aload X86.here hx rfl (hb hby at_249) rfl rfl kz) ?_
            show own_GoW p e below s00 _ _ (T86.setTop (mkF m 251 #[.val (.long na), .second, .val (.long nb), .second, .val (.long nc), .second, .val (.long nq), .second, .val (.int fl), .val (.int (1 : Int32)), .val (.ref b4), .val (.ref b9), .val (.ref b14), .val (.ref b20), .val (.ref b21), .val (.ref b9), .val .null, .val .null, .val (.ref b9)] [(.ref b21)]))
            refine own_byW (fun tz kz => XS.lload X86.here hx rfl (hb hby at_251) rfl kz) ?_
            show own_GoW p e below s00 _ _ (T86.setTop (mkF m 253 #[.val (.long na), .second, .val (.long nb), .second, .val (.long nc), .second, .val (.long nq), .second, .val (.int fl), .val (.int (1 : Int32)), .val (.ref b4), .val (.ref b9), .val (.ref b14), .val (.ref b20), .val (.ref b21), .val (.ref b9), .val .null, .val .null, .val (.ref b9)] [(.long nq), (.ref b21)]))
            have Fi87 : own_Find (own_set own_g0 kf73 b9) num nq (some b9) (own_H nq) := by
              rw [hc179_78]
              have q := (Ta73).path b9 (by simp)
              rw [n1] at q; exact q
            have hn87 : ∀ (k : Nat) (y : Addr), (own_set own_g0 kf73 b9) k = some y → Fld Z T77.heap y "com/example/ajenda/ajenda/core/Job" "number" "J" (.long (num y)) := by
              intro k y q0
              have q := (Ta73).all k y q0
              simp only [List.mem_cons, List.not_mem_nil, or_false] at q
              rw [q]; rw [n1]; exact f79
            obtain ⟨cq88, kq88, q88a, q88b, q88c⟩ := isOf hZ e86 f81
            obtain ⟨_, _, ⟨T88, L88, k88, n88⟩, -, X88, ⟨Lc88, hQ88, l88, y88, z88⟩, st88⟩ := X86.virtualBack hx (y := (⟨"com/example/ajenda/ajenda/core/JobsByNumber", "get", "(J)Lcom/example/ajenda/ajenda/core/Job;"⟩ : MethodName)) (z := (⟨"com/example/ajenda/ajenda/core/JobsByNumber", "get", "(J)Lcom/example/ajenda/ajenda/core/Job;"⟩ : MethodName)) hown (mvT hZ (hw _ (List.mem_of_getElem? (i := 80) rfl))) (mvT hZ (hw _ (List.mem_of_getElem? (i := 81) rfl))) (notFace_of_selects (args := #[]) (mvT hZ (hw _ (List.mem_of_getElem? (i := 83) rfl)))) (mvT hZ (hw _ (List.mem_of_getElem? (i := 83) rfl))) (mvT hZ (hw _ (List.mem_of_getElem? (i := 82) rfl))) (by decide) (backOf (W := 0) (rm_get l Z a0 hw [] b21 ar29 kk29 (own_set own_g0 kf73 b9) num nq (some b9) T77.heap n0 Vq77 Fq77 hn87 Fi87) hZ (hw _ (List.mem_of_getElem? (i := 84) rfl)) (hw _ (List.mem_of_getElem? (i := 50) rfl)) (by decide) (by decide)) q88a q88c (g := (mkF m 253 #[.val (.long na), .second, .val (.long nb), .second, .val (.long nc), .second, .val (.long nq), .second, .val (.int fl), .val (.int (1 : Int32)), .val (.ref b4), .val (.ref b9), .val (.ref b14), .val (.ref b20), .val (.ref b21), .val (.ref b9), .val .null, .val .null, .val (.ref b9)] [(.long nq), (.ref b21)])) rfl (by rw [hml]; rfl) (Steps.refl _) (argsL := [(.long nq)]) (rest := []) (lenOf pd_7 rfl) rfl (by show 2 * 0 + _ ≤ _; exact Nat.le_of_eq rfl) (hb hby at_253) (fun _ _ => ⟨rfl, e86, (by decide : ((((((((1 + 2) + 5) + 2) + 5) + 2) + 5) + 1) + 1) + 0 ≤ _), (by decide : ((((((((8 + 4) + 29) + (8 + 4)) + 29) + (8 + 4)) + 29) + 2) + 16) + 0 ≤ _)⟩)
            dsimp only [Pt.U, Pt.locs, Pt.cells, Pt.slots] at X88 l88 y88 z88 st88 hQ88
            rw [l88, y88, z88] at X88
            obtain ⟨rfl, Nq88, e88⟩ := hQ88
            have N88 := Fr.app N86 Nq88
            refine own_viaW st88 ?_
            show own_GoW p e below s00 _ _ (T88.setTop (mkF m 256 #[.val (.long na), .second, .val (.long nb), .second, .val (.long nc), .second, .val (.long nq), .second, .val (.int fl), .val (.int (1 : Int32)), .val (.ref b4), .val (.ref b9), .val (.ref b14), .val (.ref b20), .val (.ref b21), .val (.ref b9), .val .null, .val .null, .val (.ref b9)] [(.ref b9)]))
            refine own_byW (fun tz kz => XS.aload X88.here hx rfl (hb hby at_256) rfl rfl kz) ?_
            show own_GoW p e below s00 _ _ (T88.setTop (mkF m 258 #[.val (.long na), .second, .val (.long nb), .second, .val (.long nc), .second, .val (.long nq), .second, .val (.int fl), .val (.int (1 : Int32)), .val (.ref b4), .val (.ref b9), .val (.ref b14), .val (.ref b20), .val (.ref b21), .val (.ref b9), .val .null, .val .null, .val (.ref b9)] [(.ref b9), (.ref b9)]))
            refine own_byW (fun tz kz => Jvm.RoadKit.acmp (g := (mkF m 258 #[.val (.long na), .second, .val (.long nb), .second, .val (.long nc), .second, .val (.long nq), .second, .val (.int fl), .val (.int (1 : Int32)), .val (.ref b4), .val (.ref b9), .val (.ref b14), .val (.ref b20), .val (.ref b21), .val (.ref b9), .val .null, .val .null, .val (.ref b9)] [(.ref b9), (.ref b9)])) X88 hx rfl rfl rfl (pc0 := 258) (pc' := 261) (same := true) rfl (hb hby at_258) rfl (decide_eq_true rfl) (by decide) (by decide) kz) ?_
            show own_GoW p e below s00 _ _ (T88.setTop (mkF m 261 #[.val (.long na), .second, .val (.long nb), .second, .val (.long nc), .second, .val (.long nq), .second, .val (.int fl), .val (.int (1 : Int32)), .val (.ref b4), .val (.ref b9), .val (.ref b14), .val (.ref b20), .val (.ref b21), .val (.ref b9), .val .null, .val .null, .val (.ref b9)] []))
            refine own_byW (fun tz kz => XS.iconst X88.here hx rfl (hb hby at_261) kz) ?_
            show own_GoW p e below s00 _ _ (T88.setTop (mkF m 262 #[.val (.long na), .second, .val (.long nb), .second, .val (.long nc), .second, .val (.long nq), .second, .val (.int fl), .val (.int (1 : Int32)), .val (.ref b4), .val (.ref b9), .val (.ref b14), .val (.ref b20), .val (.ref b21), .val (.ref b9), .val .null, .val .null, .val (.ref b9)] [(.int (1 : Int32))]))
            refine own_byW (fun tz kz => XS.goto X88.here hx rfl (pc0 := 262) (pc' := 266) rfl (hb hby at_262) (by decide) (by decide) kz) ?_
            show own_GoW p e below s00 _ _ (T88.setTop (mkF m 266 #[.val (.long na), .second, .val (.long nb), .second, .val (.long nc), .second, .val (.long nq), .second, .val (.int fl), .val (.int (1 : Int32)), .val (.ref b4), .val (.ref b9), .val (.ref b14), .val (.ref b20), .val (.ref b21), .val (.ref b9), .val .null, .val .null, .val (.ref b9)] [(.int (1 : Int32))]))
            have A89 := (own_At.up (own_At.up (own_At.up A20 E21.1) Kq29.1) Kq77.1)
            refine own_retIW X88 e88 A89 hx hlk (t := .boolean) hret (by simp) rfl (hb hby at_266) ?_ (by decide) (by decide)
            exact ⟨rfl, N88⟩
          · refine own_byW (fun tz kz => XS.ifYes X77.here hx rfl (pc0 := 179) (pc' := 189) rfl (hb hby at_179) rfl ((if0 _ _).trans (feq (fun q => hc179_78 ((lw_eq nq na).mp q))).2) (by decide) (by decide) kz) ?_
            show own_GoW p e below s00 _ _ (T77.setTop (mkF m 189 #[.val (.long na), .second, .val (.long nb), .second, .val (.long nc), .second, .val (.long nq), .second, .val (.int fl), .val (.int (1 : Int32)), .val (.ref b4), .val (.ref b9), .val (.ref b14), .val (.ref b20), .val (.ref b21), .val (.ref b9), .val .null, .val .null, .val .null] []))
            refine own_byW (fun tz kz => XS.lload X77.here hx rfl (hb hby at_189) rfl kz) ?_
            show own_GoW p e below s00 _ _ (T77.setTop (mkF m 191 #[.val (.long na), .second, .val (.long nb), .second, .val (.long nc), .second, .val (.long nq), .second, .val (.int fl), .val (.int (1 : Int32)), .val (.ref b4), .val (.ref b9), .val (.ref b14), .val (.ref b20), .val (.ref b21), .val (.ref b9), .val .null, .val .null, .val .null] [(.long nq)]))
            refine own_byW (fun tz kz => XS.lloadN X77.here hx rfl (hb hby at_191) rfl kz) ?_
            show own_GoW p e below s00 _ _ (T77.setTop (mkF m 192 #[.val (.long na), .second, .val (.long nb), .second, .val (.long nc), .second, .val (.long nq), .second, .val (.int fl), .val (.int (1 : Int32)), .val (.ref b4), .val (.ref b9), .val (.ref b14), .val (.ref b20), .val (.ref b21), .val (.ref b9), .val .null, .val .null, .val .null] [(.long nb), (.long nq)]))
            refine own_byW (fun tz kz => XS.lcmp X77.here hx rfl (hb hby at_192) rfl kz) ?_
            show own_GoW p e below s00 _ _ (T77.setTop (mkF m 193 #[.val (.long na), .second, .val (.long nb), .second, .val (.long nc), .second, .val (.long nq), .second, .val (.int fl), .val (.int (1 : Int32)), .val (.ref b4), .val (.ref b9), .val (.ref b14), .val (.ref b20), .val (.ref b21), .val (.ref b9), .val .null, .val .null, .val .null] [(.int (lcmpW nq nb))]))
            by_cases hc193_90 : nq = nb
            · refine own_byW (fun tz kz => XS.ifNo X77.here hx rfl (hb hby at_193) rfl ((if0 _ _).trans (teq ((lw_eq nq nb).mpr hc193_90)).2) kz) ?_
              show own_GoW p e below s00 _ _ (T77.setTop (mkF m 196 #[.val (.long na), .second, .val (.long nb), .second, .val (.long nc), .second, .val (.long nq), .second, .val (.int fl), .val (.int (1 : Int32)), .val (.ref b4), .val (.ref b9), .val (.ref b14), .val (.ref b20), .val (.ref b21), .val (.ref b9), .val .null, .val .null, .val .null] []))
              refine own_byW (fun tz kz => XS.aload X77.here hx rfl (hb hby at_196) rfl rfl kz) ?_
              show own_GoW p e below s00 _ _ (T77.setTop (mkF m 198 #[.val (.long na), .second, .val (.long nb), .second, .val (.long nc), .second, .val (.long nq), .second, .val (.int fl), .val (.int (1 : Int32)), .val (.ref b4), .val (.ref b9), .val (.ref b14), .val (.ref b20), .val (.ref b21), .val (.ref b9), .val .null, .val .null, .val .null] [.null]))
              refine own_byW (fun tz kz => XS.astore X77.here hx rfl (hb hby at_198) rfl rfl (l' := #[.val (.long na), .second, .val (.long nb), .second, .val (.long nc), .second, .val (.long nq), .second, .val (.int fl), .val (.int (1 : Int32)), .val (.ref b4), .val (.ref b9), .val (.ref b14), .val (.ref b20), .val (.ref b21), .val (.ref b9), .val .null, .val .null, .val .null]) rfl kz) ?_
              show own_GoW p e below s00 _ _ (T77.setTop (mkF m 200 #[.val (.long na), .second, .val (.long nb), .second, .val (.long nc), .second, .val (.long nq), .second, .val (.int fl), .val (.int (1 : Int32)), .val (.ref b4), .val (.ref b9), .val (.ref b14), .val (.ref b20), .val (.ref b21), .val (.ref b9), .val .null, .val .null, .val .null] []))
              refine own_byW (fun tz kz => XS.goto X77.here hx rfl (pc0 := 200) (pc' := 215) rfl (hb hby at_200) (by decide) (by decide) kz) ?_
              show own_GoW p e below s00 _ _ (T77.setTop (mkF m 215 #[.val (.long na), .second, .val (.long nb), .second, .val (.long nc), .second, .val (.long nq), .second, .val (.int fl), .val (.int (1 : Int32)), .val (.ref b4), .val (.ref b9), .val (.ref b14), .val (.ref b20), .val (.ref b21), .val (.ref b9), .val .null, .val .null, .val .null] []))
              refine own_byW (fun tz kz => XS.aload X77.here hx rfl (hb hby at_215) rfl rfl kz) ?_
              show own_GoW p e below s00 _ _ (T77.setTop (mkF m 217 #[.val (.long na), .second, .val (.long nb), .second, .val (.long nc), .second, .val (.long nq), .second, .val (.int fl), .val (.int (1 : Int32)), .val (.ref b4), .val (.ref b9), .val (.ref b14), .val (.ref b20), .val (.ref b21), .val (.ref b9), .val .null, .val .null, .val .null] [(.ref b21)]))
              refine own_byW (fun tz kz => XS.lloadN X77.here hx rfl (hb hby at_217) rfl kz) ?_
              show own_GoW p e below s00 _ _ (T77.setTop (mkF m 218 #[.val (.long na), .second, .val (.long nb), .second, .val (.long nc), .second, .val (.long nq), .second, .val (.int fl), .val (.int (1 : Int32)), .val (.ref b4), .val (.ref b9), .val (.ref b14), .val (.ref b20), .val (.ref b21), .val (.ref b9), .val .null, .val .null, .val .null] [(.long na), (.ref b21)]))
              have f91 := (f75.keep Kq77 (ninS ne_b9_b21 (ninS ne_b9_ar29 nin0)))
              have Fi92 : own_Find (own_set own_g0 kf73 b9) num na (some b9) (own_H na) := by
                have q := (Ta73).path b9 (by simp)
                rw [n1] at q; exact q
              have hn92 : ∀ (k : Nat) (y : Addr), (own_set own_g0 kf73 b9) k = some y → Fld Z T77.heap y "com/example/ajenda/ajenda/core/Job" "number" "J" (.long (num y)) := by
                intro k y q0
                have q := (Ta73).all k y q0
                simp only [List.mem_cons, List.not_mem_nil, or_false] at q
                rw [q]; rw [n1]; exact f91
              have f93 := (f76.keep Kq77)
              obtain ⟨cq94, kq94, q94a, q94b, q94c⟩ := isOf hZ e77 f93
              obtain ⟨_, _, ⟨T94, L94, k94, n94⟩, -, X94, ⟨Lc94, hQ94, l94, y94, z94⟩, st94⟩ := X77.virtualBack hx (y := (⟨"com/example/ajenda/ajenda/core/JobsByNumber", "get", "(J)Lcom/example/ajenda/ajenda/core/Job;"⟩ : MethodName)) (z := (⟨"com/example/ajenda/ajenda/core/JobsByNumber", "get", "(J)Lcom/example/ajenda/ajenda/core/Job;"⟩ : MethodName)) hown (mvT hZ (hw _ (List.mem_of_getElem? (i := 80) rfl))) (mvT hZ (hw _ (List.mem_of_getElem? (i := 81) rfl))) (notFace_of_selects (args := #[]) (mvT hZ (hw _ (List.mem_of_getElem? (i := 83) rfl)))) (mvT hZ (hw _ (List.mem_of_getElem? (i := 83) rfl))) (mvT hZ (hw _ (List.mem_of_getElem? (i := 82) rfl))) (by decide) (backOf (W := 0) (rm_get l Z a0 hw [] b21 ar29 kk29 (own_set own_g0 kf73 b9) num na (some b9) T77.heap n0 Vq77 Fq77 hn92 Fi92) hZ (hw _ (List.mem_of_getElem? (i := 84) rfl)) (hw _ (List.mem_of_getElem? (i := 50) rfl)) (by decide) (by decide)) q94a q94c (g := (mkF m 218 #[.val (.long na), .second, .val (.long nb), .second, .val (.long nc), .second, .val (.long nq), .second, .val (.int fl), .val (.int (1 : Int32)), .val (.ref b4), .val (.ref b9), .val (.ref b14), .val (.ref b20), .val (.ref b21), .val (.ref b9), .val .null, .val .null, .val .null] [(.long na), (.ref b21)])) rfl (by rw [hml]; rfl) (Steps.refl _) (argsL := [(.long na)]) (rest := []) (lenOf pd_7 rfl) rfl (by show 2 * 0 + _ ≤ _; exact Nat.le_of_eq rfl) (hb hby at_218) (fun _ _ => ⟨rfl, e77, (by decide : ((((((((1 + 2) + 5) + 2) + 5) + 2) + 5) + 1) + 1) + 0 ≤ _), (by decide : ((((((((8 + 4) + 29) + (8 + 4)) + 29) + (8 + 4)) + 29) + 2) + 16) + 0 ≤ _)⟩)
              dsimp only [Pt.U, Pt.locs, Pt.cells, Pt.slots] at X94 l94 y94 z94 st94 hQ94
              rw [l94, y94, z94] at X94
              obtain ⟨rfl, Nq94, e94⟩ := hQ94
              have N94 := Fr.app N77 Nq94
              refine own_viaW st94 ?_
              show own_GoW p e below s00 _ _ (T94.setTop (mkF m 221 #[.val (.long na), .second, .val (.long nb), .second, .val (.long nc), .second, .val (.long nq), .second, .val (.int fl), .val (.int (1 : Int32)), .val (.ref b4), .val (.ref b9), .val (.ref b14), .val (.ref b20), .val (.ref b21), .val (.ref b9), .val .null, .val .null, .val .null] [(.ref b9)]))
              refine own_byW (fun tz kz => XS.aload X94.here hx rfl (hb hby at_221) rfl rfl kz) ?_
              show own_GoW p e below s00 _ _ (T94.setTop (mkF m 223 #[.val (.long na), .second, .val (.long nb), .second, .val (.long nc), .second, .val (.long nq), .second, .val (.int fl), .val (.int (1 : Int32)), .val (.ref b4), .val (.ref b9), .val (.ref b14), .val (.ref b20), .val (.ref b21), .val (.ref b9), .val .null, .val .null, .val .null] [(.ref b9), (.ref b9)]))
              refine own_byW (fun tz kz => Jvm.RoadKit.acmp (g := (mkF m 223 #[.val (.long na), .second, .val (.long nb), .second, .val (.long nc), .second, .val (.long nq), .second, .val (.int fl), .val (.int (1 : Int32)), .val (.ref b4), .val (.ref b9), .val (.ref b14), .val (.ref b20), .val (.ref b21), .val (.ref b9), .val .null, .val .null, .val .null] [(.ref b9), (.ref b9)])) X94 hx rfl rfl rfl (pc0 := 223) (pc' := 226) (same := true) rfl (hb hby at_223) rfl (decide_eq_true rfl) (by decide) (by decide) kz) ?_
              show own_GoW p e below s00 _ _ (T94.setTop (mkF m 226 #[.val (.long na), .second, .val (.long nb), .second, .val (.long nc), .second, .val (.long nq), .second, .val (.int fl), .val (.int (1 : Int32)), .val (.ref b4), .val (.ref b9), .val (.ref b14), .val (.ref b20), .val (.ref b21), .val (.ref b9), .val .null, .val .null, .val .null] []))
              refine own_byW (fun tz kz => XS.aload X94.here hx rfl (hb hby at_226) rfl rfl kz) ?_
              show own_GoW p e below s00 _ _ (T94.setTop (mkF m 228 #[.val (.long na), .second, .val (.long nb), .second, .val (.long nc), .second, .val (.long nq), .second, .val (.int fl), .val (.int (1 : Int32)), .val (.ref b4), .val (.ref b9), .val (.ref b14), .val (.ref b20), .val (.ref b21), .val (.ref b9), .val .null, .val .null, .val .null] [(.ref b21)]))
              refine own_byW (fun tz kz => XS.lloadN X94.here hx rfl (hb hby at_228) rfl kz) ?_
              show own_GoW p e below s00 _ _ (T94.setTop (mkF m 229 #[.val (.long na), .second, .val (.long nb), .second, .val (.long nc), .second, .val (.long nq), .second, .val (.int fl), .val (.int (1 : Int32)), .val (.ref b4), .val (.ref b9), .val (.ref b14), .val (.ref b20), .val (.ref b21), .val (.ref b9), .val .null, .val .null, .val .null] [(.long nb), (.ref b21)]))
              have hne95 : ∀ y ∈ ([b9] : List Addr), ¬ num y = nb := by
                intro y q
                simp only [List.mem_cons, List.not_mem_nil, or_false] at q
                rw [q]; rw [n1]; exact hc3_1
              have Fi95 : own_Find (own_set own_g0 kf73 b9) num nb none (own_H nb) := by
                exact (Ta73).miss (by simp) (own_H_lt _) hne95
              have hn95 : ∀ (k : Nat) (y : Addr), (own_set own_g0 kf73 b9) k = some y → Fld Z T77.heap y "com/example/ajenda/ajenda/core/Job" "number" "J" (.long (num y)) := by
                intro k y q0
                have q := (Ta73).all k y q0
                simp only [List.mem_cons, List.not_mem_nil, or_false] at q
                rw [q]; rw [n1]; exact f91
              obtain ⟨cq96, kq96, q96a, q96b, q96c⟩ := isOf hZ e94 f93
              obtain ⟨_, _, ⟨T96, L96, k96, n96⟩, -, X96, ⟨Lc96, hQ96, l96, y96, z96⟩, st96⟩ := X94.virtualBack hx (y := (⟨"com/example/ajenda/ajenda/core/JobsByNumber", "get", "(J)Lcom/example/ajenda/ajenda/core/Job;"⟩ : MethodName)) (z := (⟨"com/example/ajenda/ajenda/core/JobsByNumber", "get", "(J)Lcom/example/ajenda/ajenda/core/Job;"⟩ : MethodName)) hown (mvT hZ (hw _ (List.mem_of_getElem? (i := 80) rfl))) (mvT hZ (hw _ (List.mem_of_getElem? (i := 81) rfl))) (notFace_of_selects (args := #[]) (mvT hZ (hw _ (List.mem_of_getElem? (i := 83) rfl)))) (mvT hZ (hw _ (List.mem_of_getElem? (i := 83) rfl))) (mvT hZ (hw _ (List.mem_of_getElem? (i := 82) rfl))) (by decide) (backOf (W := 0) (rm_get l Z a0 hw [] b21 ar29 kk29 (own_set own_g0 kf73 b9) num nb none T77.heap n0 Vq77 Fq77 hn95 Fi95) hZ (hw _ (List.mem_of_getElem? (i := 84) rfl)) (hw _ (List.mem_of_getElem? (i := 50) rfl)) (by decide) (by decide)) q96a q96c (g := (mkF m 229 #[.val (.long na), .second, .val (.long nb), .second, .val (.long nc), .second, .val (.long nq), .second, .val (.int fl), .val (.int (1 : Int32)), .val (.ref b4), .val (.ref b9), .val (.ref b14), .val (.ref b20), .val (.ref b21), .val (.ref b9), .val .null, .val .null, .val .null] [(.long nb), (.ref b21)])) rfl (by rw [hml]; rfl) (Steps.refl _) (argsL := [(.long nb)]) (rest := []) (lenOf pd_7 rfl) rfl (by show 2 * 0 + _ ≤ _; exact Nat.le_of_eq rfl) (hb hby at_229) (fun _ _ => ⟨rfl, e94, (by decide : ((((((((1 + 2) + 5) + 2) + 5) + 2) + 5) + 1) + 1) + 0 ≤ _), (by decide : ((((((((8 + 4) + 29) + (8 + 4)) + 29) + (8 + 4)) + 29) + 2) + 16) + 0 ≤ _)⟩)
              dsimp only [Pt.U, Pt.locs, Pt.cells, Pt.slots] at X96 l96 y96 z96 st96 hQ96
              rw [l96, y96, z96] at X96
              obtain ⟨rfl, Nq96, e96⟩ := hQ96
              have N96 := Fr.app N94 Nq96
              refine own_viaW st96 ?_
              show own_GoW p e below s00 _ _ (T96.setTop (mkF m 232 #[.val (.long na), .second, .val (.long nb), .second, .val (.long nc), .second, .val (.long nq), .second, .val (.int fl), .val (.int (1 : Int32)), .val (.ref b4), .val (.ref b9), .val (.ref b14), .val (.ref b20), .val (.ref b21), .val (.ref b9), .val .null, .val .null, .val .null] [.null]))
              refine own_byW (fun tz kz => XS.aload X96.here hx rfl (hb hby at_232) rfl rfl kz) ?_
              show own_GoW p e below s00 _ _ (T96.setTop (mkF m 234 #[.val (.long na), .second, .val (.long nb), .second, .val (.long nc), .second, .val (.long nq), .second, .val (.int fl), .val (.int (1 : Int32)), .val (.ref b4), .val (.ref b9), .val (.ref b14), .val (.ref b20), .val (.ref b21), .val (.ref b9), .val .null, .val .null, .val .null] [.null, .null]))
              refine own_byW (fun tz kz => Jvm.RoadKit.acmp (g := (mkF m 234 #[.val (.long na), .second, .val (.long nb), .second, .val (.long nc), .second, .val (.long nq), .second, .val (.int fl), .val (.int (1 : Int32)), .val (.ref b4), .val (.ref b9), .val (.ref b14), .val (.ref b20), .val (.ref b21), .val (.ref b9), .val .null, .val .null, .val .null] [.null, .null])) X96 hx rfl rfl rfl (pc0 := 234) (pc' := 237) (same := true) rfl (hb hby at_234) rfl (decide_eq_true rfl) (by decide) (by decide) kz) ?_
              show own_GoW p e below s00 _ _ (T96.setTop (mkF m 237 #[.val (.long na), .second, .val (.long nb), .second, .val (.long nc), .second, .val (.long nq), .second, .val (.int fl), .val (.int (1 : Int32)), .val (.ref b4), .val (.ref b9), .val (.ref b14), .val (.ref b20), .val (.ref b21), .val (.ref b9), .val .null, .val .null, .val .null] []))
              refine own_byW (fun tz kz => XS.aload X96.here hx rfl (hb hby at_237) rfl rfl kz) ?_
              show own_GoW p e below s00 _ _ (T96.setTop (mkF m 239 #[.val (.long na), .second, .val (.long nb), .second, .val (.long nc), .second, .val (.long nq), .second, .val (.int fl), .val (.int (1 : Int32)), .val (.ref b4), .val (.ref b9), .val (.ref b14), .val (.ref b20), .val (.ref b21), .val (.ref b9), .val .null, .val .null, .val .null] [(.ref b21)]))
              refine own_byW (fun tz kz => XS.lload X96.here hx rfl (hb hby at_239) rfl kz) ?_
              show own_GoW p e below s00 _ _ (T96.setTop (mkF m 241 #[.val (.long na), .second, .val (.long nb), .second, .val (.long nc), .second, .val (.long nq), .second, .val (.int fl), .val (.int (1 : Int32)), .val (.ref b4), .val (.ref b9), .val (.ref b14), .val (.ref b20), .val (.ref b21), .val (.ref b9), .val .null, .val .null, .val .null] [(.long nc), (.ref b21)]))
              have hne97 : ∀ y ∈ ([b9] : List Addr), ¬ num y = nc := by
                intro y q
                simp only [List.mem_cons, List.not_mem_nil, or_false] at q
                rw [q]; rw [n1]; exact hc10_2
              have Fi97 : own_Find (own_set own_g0 kf73 b9) num nc none (own_H nc) := by
                exact (Ta73).miss (by simp) (own_H_lt _) hne97
              have hn97 : ∀ (k : Nat) (y : Addr), (own_set own_g0 kf73 b9) k = some y → Fld Z T77.heap y "com/example/ajenda/ajenda/core/Job" "number" "J" (.long (num y)) := by
                intro k y q0
                have q := (Ta73).all k y q0
                simp only [List.mem_cons, List.not_mem_nil, or_false] at q
                rw [q]; rw [n1]; exact f91
              obtain ⟨cq98, kq98, q98a, q98b, q98c⟩ := isOf hZ e96 f93
              obtain ⟨_, _, ⟨T98, L98, k98, n98⟩, -, X98, ⟨Lc98, hQ98, l98, y98, z98⟩, st98⟩ := X96.virtualBack hx (y := (⟨"com/example/ajenda/ajenda/core/JobsByNumber", "get", "(J)Lcom/example/ajenda/ajenda/core/Job;"⟩ : MethodName)) (z := (⟨"com/example/ajenda/ajenda/core/JobsByNumber", "get", "(J)Lcom/example/ajenda/ajenda/core/Job;"⟩ : MethodName)) hown (mvT hZ (hw _ (List.mem_of_getElem? (i := 80) rfl))) (mvT hZ (hw _ (List.mem_of_getElem? (i := 81) rfl))) (notFace_of_selects (args := #[]) (mvT hZ (hw _ (List.mem_of_getElem? (i := 83) rfl)))) (mvT hZ (hw _ (List.mem_of_getElem? (i := 83) rfl))) (mvT hZ (hw _ (List.mem_of_getElem? (i := 82) rfl))) (by decide) (backOf (W := 0) (rm_get l Z a0 hw [] b21 ar29 kk29 (own_set own_g0 kf73 b9) num nc none T77.heap n0 Vq77 Fq77 hn97 Fi97) hZ (hw _ (List.mem_of_getElem? (i := 84) rfl)) (hw _ (List.mem_of_getElem? (i := 50) rfl)) (by decide) (by decide)) q98a q98c (g := (mkF m 241 #[.val (.long na), .second, .val (.long nb), .second, .val (.long nc), .second, .val (.long nq), .second, .val (.int fl), .val (.int (1 : Int32)), .val (.ref b4), .val (.ref b9), .val (.ref b14), .val (.ref b20), .val (.ref b21), .val (.ref b9), .val .null, .val .null, .val .null] [(.long nc), (.ref b21)])) rfl (by rw [hml]; rfl) (Steps.refl _) (argsL := [(.long nc)]) (rest := []) (lenOf pd_7 rfl) rfl (by show 2 * 0 + _ ≤ _; exact Nat.le_of_eq rfl) (hb hby at_241) (fun _ _ => ⟨rfl, e96, (by decide : ((((((((1 + 2) + 5) + 2) + 5) + 2) + 5) + 1) + 1) + 0 ≤ _), (by decide : ((((((((8 + 4) + 29) + (8 + 4)) + 29) + (8 + 4)) + 29) + 2) + 16) + 0 ≤ _)⟩)
              dsimp only [Pt.U, Pt.locs, Pt.cells, Pt.slots] at X98 l98 y98 z98 st98 hQ98
              rw [l98, y98, z98] at X98
              obtain ⟨rfl, Nq98, e98⟩ := hQ98
              have N98 := Fr.app N96 Nq98
              refine own_viaW st98 ?_
              show own_GoW p e below s00 _ _ (T98.setTop (mkF m 244 #[.val (.long na), .second, .val (.long nb), .second, .val (.long nc), .second, .val (.long nq), .second, .val (.int fl), .val (.int (1 : Int32)), .val (.ref b4), .val (.ref b9), .val (.ref b14), .val (.ref b20), .val (.ref b21), .val (.ref b9), .val .null, .val .null, .val .null] [.null]))
              refine own_byW (fun tz kz => XS.aload X98.here hx rfl (hb hby at_244) rfl rfl kz) ?_
              show own_GoW p e below s00 _ _ (T98.setTop (mkF m 246 #[.val (.long na), .second, .val (.long nb), .second, .val (.long nc), .second, .val (.long nq), .second, .val (.int fl), .val (.int (1 : Int32)), .val (.ref b4), .val (.ref b9), .val (.ref b14), .val (.ref b20), .val (.ref b21), .val (.ref b9), .val .null, .val .null, .val .null] [.null, .null]))
              refine own_byW (fun tz kz => Jvm.RoadKit.acmp (g := (mkF m 246 #[.val (.long na), .second, .val (.long nb), .second, .val (.long nc), .second, .val (.long nq), .second, .val (.int fl), .val (.int (1 : Int32)), .val (.ref b4), .val (.ref b9), .val (.ref b14), .val (.ref b20), .val (.ref b21), .val (.ref b9), .val .null, .val .null, .val .null] [.null, .null])) X98 hx rfl rfl rfl (pc0 := 246) (pc' := 249) (same := true) rfl (hb hby at_246) rfl (decide_eq_true rfl) (by decide) (by decide) kz) ?_
              show own_GoW p e below s00 _ _ (T98.setTop (mkF m 249 #[.val (.long na), .second, .val (.long nb), .second, .val (.long nc), .second, .val (.long nq), .second, .val (.int fl), .val (.int (1 : Int32)), .val (.ref b4), .val (.ref b9), .val (.ref b14), .val (.ref b20), .val (.ref b21), .val (.ref b9), .val .null, .val .null, .val .null] []))
              refine own_byW (fun tz kz => XS.aload X98.here hx rfl (hb hby at_249) rfl rfl kz) ?_
              show own_GoW p e below s00 _ _ (T98.setTop (mkF m 251 #[.val (.long na), .second, .val (.long nb), .second, .val (.long nc), .second, .val (.long nq), .second, .val (.int fl), .val (.int (1 : Int32)), .val (.ref b4), .val (.ref b9), .val (.ref b14), .val (.ref b20), .val (.ref b21), .val (.ref b9), .val .null, .val .null, .val .null] [(.ref b21)]))
              refine own_byW (fun tz kz => XS.lload X98.here hx rfl (hb hby at_251) rfl kz) ?_
              show own_GoW p e below s00 _ _ (T98.setTop (mkF m 253 #[.val (.long na), .second, .val (.long nb), .second, .val (.long nc), .second, .val (.long nq), .second, .val (.int fl), .val (.int (1 : Int32)), .val (.ref b4), .val (.ref b9), .val (.ref b14), .val (.ref b20), .val (.ref b21), .val (.ref b9), .val .null, .val .null, .val .null] [(.long nq), (.ref b21)]))
              have hne99 : ∀ y ∈ ([b9] : List Addr), ¬ num y = nb := by
                intro y q
                simp only [List.mem_cons, List.not_mem_nil, or_false] at q
                rw [q]; rw [n1]; exact hc3_1
              have Fi99 : own_Find (own_set own_g0 kf73 b9) num nq none (own_H nq) := by
                rw [hc193_90]
                exact (Ta73).miss (by simp) (own_H_lt _) hne99
              have hn99 : ∀ (k : Nat) (y : Addr), (own_set own_g0 kf73 b9) k = some y → Fld Z T77.heap y "com/example/ajenda/ajenda/core/Job" "number" "J" (.long (num y)) := by
                intro k y q0
                have q := (Ta73).all k y q0
                simp only [List.mem_cons, List.not_mem_nil, or_false] at q
                rw [q]; rw [n1]; exact f91
              obtain ⟨cq100, kq100, q100a, q100b, q100c⟩ := isOf hZ e98 f93
              obtain ⟨_, _, ⟨T100, L100, k100, n100⟩, -, X100, ⟨Lc100, hQ100, l100, y100, z100⟩, st100⟩ := X98.virtualBack hx (y := (⟨"com/example/ajenda/ajenda/core/JobsByNumber", "get", "(J)Lcom/example/ajenda/ajenda/core/Job;"⟩ : MethodName)) (z := (⟨"com/example/ajenda/ajenda/core/JobsByNumber", "get", "(J)Lcom/example/ajenda/ajenda/core/Job;"⟩ : MethodName)) hown (mvT hZ (hw _ (List.mem_of_getElem? (i := 80) rfl))) (mvT hZ (hw _ (List.mem_of_getElem? (i := 81) rfl))) (notFace_of_selects (args := #[]) (mvT hZ (hw _ (List.mem_of_getElem? (i := 83) rfl)))) (mvT hZ (hw _ (List.mem_of_getElem? (i := 83) rfl))) (mvT hZ (hw _ (List.mem_of_getElem? (i := 82) rfl))) (by decide) (backOf (W := 0) (rm_get l Z a0 hw [] b21 ar29 kk29 (own_set own_g0 kf73 b9) num nq none T77.heap n0 Vq77 Fq77 hn99 Fi99) hZ (hw _ (List.mem_of_getElem? (i := 84) rfl)) (hw _ (List.mem_of_getElem? (i := 50) rfl)) (by decide) (by decide)) q100a q100c (g := (mkF m 253 #[.val (.long na), .second, .val (.long nb), .second, .val (.long nc), .second, .val (.long nq), .second, .val (.int fl), .val (.int (1 : Int32)), .val (.ref b4), .val (.ref b9), .val (.ref b14), .val (.ref b20), .val (.ref b21), .val (.ref b9), .val .null, .val .null, .val .null] [(.long nq), (.ref b21)])) rfl (by rw [hml]; rfl) (Steps.refl _) (argsL := [(.long nq)]) (rest := []) (lenOf pd_7 rfl) rfl (by show 2 * 0 + _ ≤ _; exact Nat.le_of_eq rfl) (hb hby at_253) (fun _ _ => ⟨rfl, e98, (by decide : ((((((((1 + 2) + 5) + 2) + 5) + 2) + 5) + 1) + 1) + 0 ≤ _), (by decide : ((((((((8 + 4) + 29) + (8 + 4)) + 29) + (8 + 4)) + 29) + 2) + 16) + 0 ≤ _)⟩)
              dsimp only [Pt.U, Pt.locs, Pt.cells, Pt.slots] at X100 l100 y100 z100 st100 hQ100
              rw [l100, y100, z100] at X100
              obtain ⟨rfl, Nq100, e100⟩ := hQ100
              have N100 := Fr.app N98 Nq100
              refine own_viaW st100 ?_
              show own_GoW p e below s00 _ _ (T100.setTop (mkF m 256 #[.val (.long na), .second, .val (.long nb), .second, .val (.long nc), .second, .val (.long nq), .second, .val (.int fl), .val (.int (1 : Int32)), .val (.ref b4), .val (.ref b9), .val (.ref b14), .val (.ref b20), .val (.ref b21), .val (.ref b9), .val .null, .val .null, .val .null] [.null]))
              refine own_byW (fun tz kz => XS.aload X100.here hx rfl (hb hby at_256) rfl rfl kz) ?_
              show own_GoW p e below s00 _ _ (T100.setTop (mkF m 258 #[.val (.long na), .second, .val (.long nb), .second, .val (.long nc), .second, .val (.long nq), .second, .val (.int fl), .val (.int (1 : Int32)), .val (.ref b4), .val (.ref b9), .val (.ref b14), .val (.ref b20), .val (.ref b21), .val (.ref b9), .val .null, .val .null, .val .null] [.null, .null]))
              refine own_byW (fun tz kz => Jvm.RoadKit.acmp (g := (mkF m 258 #[.val (.long na), .second, .val (.long nb), .second, .val (.long nc), .second, .val (.long nq), .second, .val (.int fl), .val (.int (1 : Int32)), .val (.ref b4), .val (.ref b9), .val (.ref b14), .val (.ref b20), .val (.ref b21), .val (.ref b9), .val .null, .val .null, .val .null] [.null, .null])) X100 hx rfl rfl rfl (pc0 := 258) (pc' := 261) (same := true) rfl (hb hby at_258) rfl (decide_eq_true rfl) (by decide) (by decide) kz) ?_
              show own_GoW p e below s00 _ _ (T100.setTop (mkF m 261 #[.val (.long na), .second, .val (.long nb), .second, .val (.long nc), .second, .val (.long nq), .second, .val (.int fl), .val (.int (1 : Int32)), .val (.ref b4), .val (.ref b9), .val (.ref b14), .val (.ref b20), .val (.ref b21), .val (.ref b9), .val .null, .val .null, .val .null] []))
              refine own_byW (fun tz kz => XS.iconst X100.here hx rfl (hb hby at_261) kz) ?_
              show own_GoW p e below s00 _ _ (T100.setTop (mkF m 262 #[.val (.long na), .second, .val (.long nb), .second, .val (.long nc), .second, .val (.long nq), .second, .val (.int fl), .val (.int (1 : Int32)), .val (.ref b4), .val (.ref b9), .val (.ref b14), .val (.ref b20), .val (.ref b21), .val (.ref b9), .val .null, .val .null, .val .null] [(.int (1 : Int32))]))
              refine own_byW (fun tz kz => XS.goto X100.here hx rfl (pc0 := 262) (pc' := 266) rfl (hb hby at_262) (by decide) (by decide) kz) ?_
              show own_GoW p e below s00 _ _ (T100.setTop (mkF m 266 #[.val (.long na), .second, .val (.long nb), .second, .val (.long nc), .second, .val (.long nq), .second, .val (.int fl), .val (.int (1 : Int32)), .val (.ref b4), .val (.ref b9), .val (.ref b14), .val (.ref b20), .val (.ref b21), .val (.ref b9), .val .null, .val .null, .val .null] [(.int (1 : Int32))]))
              have A101 := (own_At.up (own_At.up (own_At.up A20 E21.1) Kq29.1) Kq77.1)
              refine own_retIW X100 e100 A101 hx hlk (t := .boolean) hret (by simp) rfl (hb hby at_266) ?_ (by decide) (by decide)
              exact ⟨rfl, N100⟩
            · refine own_byW (fun tz kz => XS.ifYes X77.here hx rfl (pc0 := 193) (pc' := 203) rfl (hb hby at_193) rfl ((if0 _ _).trans (feq (fun q => hc193_90 ((lw_eq nq nb).mp q))).2) (by decide) (by decide) kz) ?_
              show own_GoW p e below s00 _ _ (T77.setTop (mkF m 203 #[.val (.long na), .second, .val (.long nb), .second, .val (.long nc), .second, .val (.long nq), .second, .val (.int fl), .val (.int (1 : Int32)), .val (.ref b4), .val (.ref b9), .val (.ref b14), .val (.ref b20), .val (.ref b21), .val (.ref b9), .val .null, .val .null, .val .null] []))
              refine own_byW (fun tz kz => XS.lload X77.here hx rfl (hb hby at_203) rfl kz) ?_
              show own_GoW p e below s00 _ _ (T77.setTop (mkF m 205 #[.val (.long na), .second, .val (.long nb), .second, .val (.long nc), .second, .val (.long nq), .second, .val (.int fl), .val (.int (1 : Int32)), .val (.ref b4), .val (.ref b9), .val (.ref b14), .val (.ref b20), .val (.ref b21), .val (.ref b9), .val .null, .val .null, .val .null] [(.long nq)]))
              refine own_byW (fun tz kz => XS.lload X77.here hx rfl (hb hby at_205) rfl kz) ?_
              show own_GoW p e below s00 _ _ (T77.setTop (mkF m 207 #[.val (.long na), .second, .val (.long nb), .second, .val (.long nc), .second, .val (.long nq), .second, .val (.int fl), .val (.int (1 : Int32)), .val (.ref b4), .val (.ref b9), .val (.ref b14), .val (.ref b20), .val (.ref b21), .val (.ref b9), .val .null, .val .null, .val .null] [(.long nc), (.long nq)]))
              refine own_byW (fun tz kz => XS.lcmp X77.here hx rfl (hb hby at_207) rfl kz) ?_
              show own_GoW p e below s00 _ _ (T77.setTop (mkF m 208 #[.val (.long na), .second, .val (.long nb), .second, .val (.long nc), .second, .val (.long nq), .second, .val (.int fl), .val (.int (1 : Int32)), .val (.ref b4), .val (.ref b9), .val (.ref b14), .val (.ref b20), .val (.ref b21), .val (.ref b9), .val .null, .val .null, .val .null] [(.int (lcmpW nq nc))]))
              by_cases hc208_102 : nq = nc
              · refine own_byW (fun tz kz => XS.ifNo X77.here hx rfl (hb hby at_208) rfl ((if0 _ _).trans (teq ((lw_eq nq nc).mpr hc208_102)).2) kz) ?_
                show own_GoW p e below s00 _ _ (T77.setTop (mkF m 211 #[.val (.long na), .second, .val (.long nb), .second, .val (.long nc), .second, .val (.long nq), .second, .val (.int fl), .val (.int (1 : Int32)), .val (.ref b4), .val (.ref b9), .val (.ref b14), .val (.ref b20), .val (.ref b21), .val (.ref b9), .val .null, .val .null, .val .null] []))
                refine own_byW (fun tz kz => XS.aload X77.here hx rfl (hb hby at_211) rfl rfl kz) ?_
                show own_GoW p e below s00 _ _ (T77.setTop (mkF m 213 #[.val (.long na), .second, .val (.long nb), .second, .val (.long nc), .second, .val (.long nq), .second, .val (.int fl), .val (.int (1 : Int32)), .val (.ref b4), .val (.ref b9), .val (.ref b14), .val (.ref b20), .val (.ref b21), .val (.ref b9), .val .null, .val .null, .val .null] [.null]))
                refine own_byW (fun tz kz => XS.astore X77.here hx rfl (hb hby at_213) rfl rfl (l' := #[.val (.long na), .second, .val (.long nb), .second, .val (.long nc), .second, .val (.long nq), .second, .val (.int fl), .val (.int (1 : Int32)), .val (.ref b4), .val (.ref b9), .val (.ref b14), .val (.ref b20), .val (.ref b21), .val (.ref b9), .val .null, .val .null, .val .null]) rfl kz) ?_
                show own_GoW p e below s00 _ _ (T77.setTop (mkF m 215 #[.val (.long na), .second, .val (.long nb), .second, .val (.long nc), .second, .val (.long nq), .second, .val (.int fl), .val (.int (1 : Int32)), .val (.ref b4), .val (.ref b9), .val (.ref b14), .val (.ref b20), .val (.ref b21), .val (.ref b9), .val .null, .val .null, .val .null] []))
                refine own_byW (fun tz kz => XS.aload X77.here hx rfl (hb hby at_215) rfl rfl kz) ?_
                show own_GoW p e below s00 _ _ (T77.setTop (mkF m 217 #[.val (.long na), .second, .val (.long nb), .second, .val (.long nc), .second, .val (.long nq), .second, .val (.int fl), .val (.int (1 : Int32)), .val (.ref b4), .val (.ref b9), .val (.ref b14), .val (.ref b20), .val (.ref b21), .val (.ref b9), .val .null, .val .null, .val .null] [(.ref b21)]))
                refine own_byW (fun tz kz => XS.lloadN X77.here hx rfl (hb hby at_217) rfl kz) ?_
                show own_GoW p e below s00 _ _ (T77.setTop (mkF m 218 #[.val (.long na), .second, .val (.long nb), .second, .val (.long nc), .second, .val (.long nq), .second, .val (.int fl), .val (.int (1 : Int32)), .val (.ref b4), .val (.ref b9), .val (.ref b14), .val (.ref b20), .val (.ref b21), .val (.ref b9), .val .null, .val .null, .val .null] [(.long na), (.ref b21)]))
                have f103 := (f75.keep Kq77 (ninS ne_b9_b21 (ninS ne_b9_ar29 nin0)))
                have Fi104 : own_Find (own_set own_g0 kf73 b9) num na (some b9) (own_H na) := by
                  have q := (Ta73).path b9 (by simp)
                  rw [n1] at q; exact q
                have hn104 : ∀ (k : Nat) (y : Addr), (own_set own_g0 kf73 b9) k = some y → Fld Z T77.heap y "com/example/ajenda/ajenda/core/Job" "number" "J" (.long (num y)) := by
                  intro k y q0
                  have q := (Ta73).all k y q0
                  simp only [List.mem_cons, List.not_mem_nil, or_false] at q
                  rw [q]; rw [n1]; exact f103
                have f105 := (f76.keep Kq77)
                obtain ⟨cq106, kq106, q106a, q106b, q106c⟩ := isOf hZ e77 f105
                obtain ⟨_, _, ⟨T106, L106, k106, n106⟩, -, X106, ⟨Lc106, hQ106, l106, y106, z106⟩, st106⟩ := X77.virtualBack hx (y := (⟨"com/example/ajenda/ajenda/core/JobsByNumber", "get", "(J)Lcom/example/ajenda/ajenda/core/Job;"⟩ : MethodName)) (z := (⟨"com/example/ajenda/ajenda/core/JobsByNumber", "get", "(J)Lcom/example/ajenda/ajenda/core/Job;"⟩ : MethodName)) hown (mvT hZ (hw _ (List.mem_of_getElem? (i := 80) rfl))) (mvT hZ (hw _ (List.mem_of_getElem? (i := 81) rfl))) (notFace_of_selects (args := #[]) (mvT hZ (hw _ (List.mem_of_getElem? (i := 83) rfl)))) (mvT hZ (hw _ (List.mem_of_getElem? (i := 83) rfl))) (mvT hZ (hw _ (List.mem_of_getElem? (i := 82) rfl))) (by decide) (backOf (W := 0) (rm_get l Z a0 hw [] b21 ar29 kk29 (own_set own_g0 kf73 b9) num na (some b9) T77.heap n0 Vq77 Fq77 hn104 Fi104) hZ (hw _ (List.mem_of_getElem? (i := 84) rfl)) (hw _ (List.mem_of_getElem? (i := 50) rfl)) (by decide) (by decide)) q106a q106c (g := (mkF m 218 #[.val (.long na), .second, .val (.long nb), .second, .val (.long nc), .second, .val (.long nq), .second, .val (.int fl), .val (.int (1 : Int32)), .val (.ref b4), .val (.ref b9), .val (.ref b14), .val (.ref b20), .val (.ref b21), .val (.ref b9), .val .null, .val .null, .val .null] [(.long na), (.ref b21)])) rfl (by rw [hml]; rfl) (Steps.refl _) (argsL := [(.long na)]) (rest := []) (lenOf pd_7 rfl) rfl (by show 2 * 0 + _ ≤ _; exact Nat.le_of_eq rfl) (hb hby at_218) (fun _ _ => ⟨rfl, e77, (by decide : ((((((((1 + 2) + 5) + 2) + 5) + 2) + 5) + 1) + 1) + 0 ≤ _), (by decide : ((((((((8 + 4) + 29) + (8 + 4)) + 29) + (8 + 4)) + 29) + 2) + 16) + 0 ≤ _)⟩)
                dsimp only [Pt.U, Pt.locs, Pt.cells, Pt.slots] at X106 l106 y106 z106 st106 hQ106
                rw [l106, y106, z106] at X106
                obtain ⟨rfl, Nq106, e106⟩ := hQ106
                have N106 := Fr.app N77 Nq106
                refine own_viaW st106 ?_
                show own_GoW p e below s00 _ _ (T106.setTop (mkF m 221 #[.val (.long na), .second, .val (.long nb), .second, .val (.long nc), .second, .val (.long nq), .second, .val (.int fl), .val (.int (1 : Int32)), .val (.ref b4), .val (.ref b9), .val (.ref b14), .val (.ref b20), .val (.ref b21), .val (.ref b9), .val .null, .val .null, .val .null] [(.ref b9)]))
                refine own_byW (fun tz kz => XS.aload X106.here hx rfl (hb hby at_221) rfl rfl kz) ?_
                show own_GoW p e below s00 _ _ (T106.setTop (mkF m 223 #[.val (.long na), .second, .val (.long nb), .second, .val (.long nc), .second, .val (.long nq), .second, .val (.int fl), .val (.int (1 : Int32)), .val (.ref b4), .val (.ref b9), .val (.ref b14), .val (.ref b20), .val (.ref b21), .val (.ref b9), .val .null, .val .null, .val .null] [(.ref b9), (.ref b9)]))
                refine own_byW (fun tz kz => Jvm.RoadKit.acmp (g := (mkF m 223 #[.val (.long na), .second, .val (.long nb), .second, .val (.long nc), .second, .val (.long nq), .second, .val (.int fl), .val (.int (1 : Int32)), .val (.ref b4), .val (.ref b9), .val (.ref b14), .val (.ref b20), .val (.ref b21), .val (.ref b9), .val .null, .val .null, .val .null] [(.ref b9), (.ref b9)])) X106 hx rfl rfl rfl (pc0 := 223) (pc' := 226) (same := true) rfl (hb hby at_223) rfl (decide_eq_true rfl) (by decide) (by decide) kz) ?_
                show own_GoW p e below s00 _ _ (T106.setTop (mkF m 226 #[.val (.long na), .second, .val (.long nb), .second, .val (.long nc), .second, .val (.long nq), .second, .val (.int fl), .val (.int (1 : Int32)), .val (.ref b4), .val (.ref b9), .val (.ref b14), .val (.ref b20), .val (.ref b21), .val (.ref b9), .val .null, .val .null, .val .null] []))
                refine own_byW (fun tz kz => XS.aload X106.here hx rfl (hb hby at_226) rfl rfl kz) ?_
                show own_GoW p e below s00 _ _ (T106.setTop (mkF m 228 #[.val (.long na), .second, .val (.long nb), .second, .val (.long nc), .second, .val (.long nq), .second, .val (.int fl), .val (.int (1 : Int32)), .val (.ref b4), .val (.ref b9), .val (.ref b14), .val (.ref b20), .val (.ref b21), .val (.ref b9), .val .null, .val .null, .val .null] [(.ref b21)]))
                refine own_byW (fun tz kz => XS.lloadN X106.here hx rfl (hb hby at_228) rfl kz) ?_
                show own_GoW p e below s00 _ _ (T106.setTop (mkF m 229 #[.val (.long na), .second, .val (.long nb), .second, .val (.long nc), .second, .val (.long nq), .second, .val (.int fl), .val (.int (1 : Int32)), .val (.ref b4), .val (.ref b9), .val (.ref b14), .val (.ref b20), .val (.ref b21), .val (.ref b9), .val .null, .val .null, .val .null] [(.long nb), (.ref b21)]))
                have hne107 : ∀ y ∈ ([b9] : List Addr), ¬ num y = nb := by
                  intro y q
                  simp only [List.mem_cons, List.not_mem_nil, or_false] at q
                  rw [q]; rw [n1]; exact hc3_1
                have Fi107 : own_Find (own_set own_g0 kf73 b9) num nb none (own_H nb) := by
                  exact (Ta73).miss (by simp) (own_H_lt _) hne107
                have hn107 : ∀ (k : Nat) (y : Addr), (own_set own_g0 kf73 b9) k = some y → Fld Z T77.heap y "com/example/ajenda/ajenda/core/Job" "number" "J" (.long (num y)) := by
                  intro k y q0
                  have q := (Ta73).all k y q0
                  simp only [List.mem_cons, List.not_mem_nil, or_false] at q
                  rw [q]; rw [n1]; exact f103
                obtain ⟨cq108, kq108, q108a, q108b, q108c⟩ := isOf hZ e106 f105
                obtain ⟨_, _, ⟨T108, L108, k108, n108⟩, -, X108, ⟨Lc108, hQ108, l108, y108, z108⟩, st108⟩ := X106.virtualBack hx (y := (⟨"com/example/ajenda/ajenda/core/JobsByNumber", "get", "(J)Lcom/example/ajenda/ajenda/core/Job;"⟩ : MethodName)) (z := (⟨"com/example/ajenda/ajenda/core/JobsByNumber", "get", "(J)Lcom/example/ajenda/ajenda/core/Job;"⟩ : MethodName)) hown (mvT hZ (hw _ (List.mem_of_getElem? (i := 80) rfl))) (mvT hZ (hw _ (List.mem_of_getElem? (i := 81) rfl))) (notFace_of_selects (args := #[]) (mvT hZ (hw _ (List.mem_of_getElem? (i := 83) rfl)))) (mvT hZ (hw _ (List.mem_of_getElem? (i := 83) rfl))) (mvT hZ (hw _ (List.mem_of_getElem? (i := 82) rfl))) (by decide) (backOf (W := 0) (rm_get l Z a0 hw [] b21 ar29 kk29 (own_set own_g0 kf73 b9) num nb none T77.heap n0 Vq77 Fq77 hn107 Fi107) hZ (hw _ (List.mem_of_getElem? (i := 84) rfl)) (hw _ (List.mem_of_getElem? (i := 50) rfl)) (by decide) (by decide)) q108a q108c (g := (mkF m 229 #[.val (.long na), .second, .val (.long nb), .second, .val (.long nc), .second, .val (.long nq), .second, .val (.int fl), .val (.int (1 : Int32)), .val (.ref b4), .val (.ref b9), .val (.ref b14), .val (.ref b20), .val (.ref b21), .val (.ref b9), .val .null, .val .null, .val .null] [(.long nb), (.ref b21)])) rfl (by rw [hml]; rfl) (Steps.refl _) (argsL := [(.long nb)]) (rest := []) (lenOf pd_7 rfl) rfl (by show 2 * 0 + _ ≤ _; exact Nat.le_of_eq rfl) (hb hby at_229) (fun _ _ => ⟨rfl, e106, (by decide : ((((((((1 + 2) + 5) + 2) + 5) + 2) + 5) + 1) + 1) + 0 ≤ _), (by decide : ((((((((8 + 4) + 29) + (8 + 4)) + 29) + (8 + 4)) + 29) + 2) + 16) + 0 ≤ _)⟩)
                dsimp only [Pt.U, Pt.locs, Pt.cells, Pt.slots] at X108 l108 y108 z108 st108 hQ108
                rw [l108, y108, z108] at X108
                obtain ⟨rfl, Nq108, e108⟩ := hQ108
                have N108 := Fr.app N106 Nq108
                refine own_viaW st108 ?_
                show own_GoW p e below s00 _ _ (T108.setTop (mkF m 232 #[.val (.long na), .second, .val (.long nb), .second, .val (.long nc), .second, .val (.long nq), .second, .val (.int fl), .val (.int (1 : Int32)), .val (.ref b4), .val (.ref b9), .val (.ref b14), .val (.ref b20), .val (.ref b21), .val (.ref b9), .val .null, .val .null, .val .null] [.null]))
                refine own_byW (fun tz kz => XS.aload X108.here hx rfl (hb hby at_232) rfl rfl kz) ?_
                show own_GoW p e below s00 _ _ (T108.setTop (mkF m 234 #[.val (.long na), .second, .val (.long nb), .second, .val (.long nc), .second, .val (.long nq), .second, .val (.int fl), .val (.int (1 : Int32)), .val (.ref b4), .val (.ref b9), .val (.ref b14), .val (.ref b20), .val (.ref b21), .val (.ref b9), .val .null, .val .null, .val .null] [.null, .null]))
                refine own_byW (fun tz kz => Jvm.RoadKit.acmp (g := (mkF m 234 #[.val (.long na), .second, .val (.long nb), .second, .val (.long nc), .second, .val (.long nq), .second, .val (.int fl), .val (.int (1 : Int32)), .val (.ref b4), .val (.ref b9), .val (.ref b14), .val (.ref b20), .val (.ref b21), .val (.ref b9), .val .null, .val .null, .val .null] [.null, .null])) X108 hx rfl rfl rfl (pc0 := 234) (pc' := 237) (same := true) rfl (hb hby at_234) rfl (decide_eq_true rfl) (by decide) (by decide) kz) ?_
                show own_GoW p e below s00 _ _ (T108.setTop (mkF m 237 #[.val (.long na), .second, .val (.long nb), .second, .val (.long nc), .second, .val (.long nq), .second, .val (.int fl), .val (.int (1 : Int32)), .val (.ref b4), .val (.ref b9), .val (.ref b14), .val (.ref b20), .val (.ref b21), .val (.ref b9), .val .null, .val .null, .val .null] []))
                refine own_byW (fun tz kz => XS.aload X108.here hx rfl (hb hby at_237) rfl rfl kz) ?_
                show own_GoW p e below s00 _ _ (T108.setTop (mkF m 239 #[.val (.long na), .second, .val (.long nb), .second, .val (.long nc), .second, .val (.long nq), .second, .val (.int fl), .val (.int (1 : Int32)), .val (.ref b4), .val (.ref b9), .val (.ref b14), .val (.ref b20), .val (.ref b21), .val (.ref b9), .val .null, .val .null, .val .null] [(.ref b21)]))
                refine own_byW (fun tz kz => XS.lload X108.here hx rfl (hb hby at_239) rfl kz) ?_
                show own_GoW p e below s00 _ _ (T108.setTop (mkF m 241 #[.val (.long na), .second, .val (.long nb), .second, .val (.long nc), .second, .val (.long nq), .second, .val (.int fl), .val (.int (1 : Int32)), .val (.ref b4), .val (.ref b9), .val (.ref b14), .val (.ref b20), .val (.ref b21), .val (.ref b9), .val .null, .val .null, .val .null] [(.long nc), (.ref b21)]))
                have hne109 : ∀ y ∈ ([b9] : List Addr), ¬ num y = nc := by
                  intro y q
                  simp only [List.mem_cons, List.not_mem_nil, or_false] at q
                  rw [q]; rw [n1]; exact hc10_2
                have Fi109 : own_Find (own_set own_g0 kf73 b9) num nc none (own_H nc) := by
                  exact (Ta73).miss (by simp) (own_H_lt _) hne109
                have hn109 : ∀ (k : Nat) (y : Addr), (own_set own_g0 kf73 b9) k = some y → Fld Z T77.heap y "com/example/ajenda/ajenda/core/Job" "number" "J" (.long (num y)) := by
                  intro k y q0
                  have q := (Ta73).all k y q0
                  simp only [List.mem_cons, List.not_mem_nil, or_false] at q
                  rw [q]; rw [n1]; exact f103
                obtain ⟨cq110, kq110, q110a, q110b, q110c⟩ := isOf hZ e108 f105
                obtain ⟨_, _, ⟨T110, L110, k110, n110⟩, -, X110, ⟨Lc110, hQ110, l110, y110, z110⟩, st110⟩ := X108.virtualBack hx (y := (⟨"com/example/ajenda/ajenda/core/JobsByNumber", "get", "(J)Lcom/example/ajenda/ajenda/core/Job;"⟩ : MethodName)) (z := (⟨"com/example/ajenda/ajenda/core/JobsByNumber", "get", "(J)Lcom/example/ajenda/ajenda/core/Job;"⟩ : MethodName)) hown (mvT hZ (hw _ (List.mem_of_getElem? (i := 80) rfl))) (mvT hZ (hw _ (List.mem_of_getElem? (i := 81) rfl))) (notFace_of_selects (args := #[]) (mvT hZ (hw _ (List.mem_of_getElem? (i := 83) rfl)))) (mvT hZ (hw _ (List.mem_of_getElem? (i := 83) rfl))) (mvT hZ (hw _ (List.mem_of_getElem? (i := 82) rfl))) (by decide) (backOf (W := 0) (rm_get l Z a0 hw [] b21 ar29 kk29 (own_set own_g0 kf73 b9) num nc none T77.heap n0 Vq77 Fq77 hn109 Fi109) hZ (hw _ (List.mem_of_getElem? (i := 84) rfl)) (hw _ (List.mem_of_getElem? (i := 50) rfl)) (by decide) (by decide)) q110a q110c (g := (mkF m 241 #[.val (.long na), .second, .val (.long nb), .second, .val (.long nc), .second, .val (.long nq), .second, .val (.int fl), .val (.int (1 : Int32)), .val (.ref b4), .val (.ref b9), .val (.ref b14), .val (.ref b20), .val (.ref b21), .val (.ref b9), .val .null, .val .null, .val .null] [(.long nc), (.ref b21)])) rfl (by rw [hml]; rfl) (Steps.refl _) (argsL := [(.long nc)]) (rest := []) (lenOf pd_7 rfl) rfl (by show 2 * 0 + _ ≤ _; exact Nat.le_of_eq rfl) (hb hby at_241) (fun _ _ => ⟨rfl, e108, (by decide : ((((((((1 + 2) + 5) + 2) + 5) + 2) + 5) + 1) + 1) + 0 ≤ _), (by decide : ((((((((8 + 4) + 29) + (8 + 4)) + 29) + (8 + 4)) + 29) + 2) + 16) + 0 ≤ _)⟩)
                dsimp only [Pt.U, Pt.locs, Pt.cells, Pt.slots] at X110 l110 y110 z110 st110 hQ110
                rw [l110, y110, z110] at X110
                obtain ⟨rfl, Nq110, e110⟩ := hQ110
                have N110 := Fr.app N108 Nq110
                refine own_viaW st110 ?_
                show own_GoW p e below s00 _ _ (T110.setTop (mkF m 244 #[.val (.long na), .second, .val (.long nb), .second, .val (.long nc), .second, .val (.long nq), .second, .val (.int fl), .val (.int (1 : Int32)), .val (.ref b4), .val (.ref b9), .val (.ref b14), .val (.ref b20), .val (.ref b21), .val (.ref b9), .val .null, .val .null, .val .null] [.null]))
                refine own_byW (fun tz kz => XS.aload X110.here hx rfl (hb hby at_244) rfl rfl kz) ?_
                show own_GoW p e below s00 _ _ (T110.setTop (mkF m 246 #[.val (.long na), .second, .val (.long nb), .second, .val (.long nc), .second, .val (.long nq), .second, .val (.int fl), .val (.int (1 : Int32)), .val (.ref b4), .val (.ref b9), .val (.ref b14), .val (.ref b20), .val (.ref b21), .val (.ref b9), .val .null, .val .null, .val .null] [.null, .null]))
                refine own_byW (fun tz kz => Jvm.RoadKit.acmp (g := (mkF m 246 #[.val (.long na), .second, .val (.long nb), .second, .val (.long nc), .second, .val (.long nq), .second, .val (.int fl), .val (.int (1 : Int32)), .val (.ref b4), .val (.ref b9), .val (.ref b14), .val (.ref b20), .val (.ref b21), .val (.ref b9), .val .null, .val .null, .val .null] [.null, .null])) X110 hx rfl rfl rfl (pc0 := 246) (pc' := 249) (same := true) rfl (hb hby at_246) rfl (decide_eq_true rfl) (by decide) (by decide) kz) ?_
                show own_GoW p e below s00 _ _ (T110.setTop (mkF m 249 #[.val (.long na), .second, .val (.long nb), .second, .val (.long nc), .second, .val (.long nq), .second, .val (.int fl), .val (.int (1 : Int32)), .val (.ref b4), .val (.ref b9), .val (.ref b14), .val (.ref b20), .val (.ref b21), .val (.ref b9), .val .null, .val .null, .val .null] []))
                refine own_byW (fun tz kz => XS.aload X110.here hx rfl (hb hby at_249) rfl rfl kz) ?_
                show own_GoW p e below s00 _ _ (T110.setTop (mkF m 251 #[.val (.long na), .second, .val (.long nb), .second, .val (.long nc), .second, .val (.long nq), .second, .val (.int fl), .val (.int (1 : Int32)), .val (.ref b4), .val (.ref b9), .val (.ref b14), .val (.ref b20), .val (.ref b21), .val (.ref b9), .val .null, .val .null, .val .null] [(.ref b21)]))
                refine own_byW (fun tz kz => XS.lload X110.here hx rfl (hb hby at_251) rfl kz) ?_
                show own_GoW p e below s00 _ _ (T110.setTop (mkF m 253 #[.val (.long na), .second, .val (.long nb), .second, .val (.long nc), .second, .val (.long nq), .second, .val (.int fl), .val (.int (1 : Int32)), .val (.ref b4), .val (.ref b9), .val (.ref b14), .val (.ref b20), .val (.ref b21), .val (.ref b9), .val .null, .val .null, .val .null] [(.long nq), (.ref b21)]))
                have hne111 : ∀ y ∈ ([b9] : List Addr), ¬ num y = nc := by
                  intro y q
                  simp only [List.mem_cons, List.not_mem_nil, or_false] at q
                  rw [q]; rw [n1]; exact hc10_2
                have Fi111 : own_Find (own_set own_g0 kf73 b9) num nq none (own_H nq) := by
                  rw [hc208_102]
                  exact (Ta73).miss (by simp) (own_H_lt _) hne111
                have hn111 : ∀ (k : Nat) (y : Addr), (own_set own_g0 kf73 b9) k = some y → Fld Z T77.heap y "com/example/ajenda/ajenda/core/Job" "number" "J" (.long (num y)) := by
                  intro k y q0
                  have q := (Ta73).all k y q0
                  simp only [List.mem_cons, List.not_mem_nil, or_false] at q
                  rw [q]; rw [n1]; exact f103
                obtain ⟨cq112, kq112, q112a, q112b, q112c⟩ := isOf hZ e110 f105
                obtain ⟨_, _, ⟨T112, L112, k112, n112⟩, -, X112, ⟨Lc112, hQ112, l112, y112, z112⟩, st112⟩ := X110.virtualBack hx (y := (⟨"com/example/ajenda/ajenda/core/JobsByNumber", "get", "(J)Lcom/example/ajenda/ajenda/core/Job;"⟩ : MethodName)) (z := (⟨"com/example/ajenda/ajenda/core/JobsByNumber", "get", "(J)Lcom/example/ajenda/ajenda/core/Job;"⟩ : MethodName)) hown (mvT hZ (hw _ (List.mem_of_getElem? (i := 80) rfl))) (mvT hZ (hw _ (List.mem_of_getElem? (i := 81) rfl))) (notFace_of_selects (args := #[]) (mvT hZ (hw _ (List.mem_of_getElem? (i := 83) rfl)))) (mvT hZ (hw _ (List.mem_of_getElem? (i := 83) rfl))) (mvT hZ (hw _ (List.mem_of_getElem? (i := 82) rfl))) (by decide) (backOf (W := 0) (rm_get l Z a0 hw [] b21 ar29 kk29 (own_set own_g0 kf73 b9) num nq none T77.heap n0 Vq77 Fq77 hn111 Fi111) hZ (hw _ (List.mem_of_getElem? (i := 84) rfl)) (hw _ (List.mem_of_getElem? (i := 50) rfl)) (by decide) (by decide)) q112a q112c (g := (mkF m 253 #[.val (.long na), .second, .val (.long nb), .second, .val (.long nc), .second, .val (.long nq), .second, .val (.int fl), .val (.int (1 : Int32)), .val (.ref b4), .val (.ref b9), .val (.ref b14), .val (.ref b20), .val (.ref b21), .val (.ref b9), .val .null, .val .null, .val .null] [(.long nq), (.ref b21)])) rfl (by rw [hml]; rfl) (Steps.refl _) (argsL := [(.long nq)]) (rest := []) (lenOf pd_7 rfl) rfl (by show 2 * 0 + _ ≤ _; exact Nat.le_of_eq rfl) (hb hby at_253) (fun _ _ => ⟨rfl, e110, (by decide : ((((((((1 + 2) + 5) + 2) + 5) + 2) + 5) + 1) + 1) + 0 ≤ _), (by decide : ((((((((8 + 4) + 29) + (8 + 4)) + 29) + (8 + 4)) + 29) + 2) + 16) + 0 ≤ _)⟩)
                dsimp only [Pt.U, Pt.locs, Pt.cells, Pt.slots] at X112 l112 y112 z112 st112 hQ112
                rw [l112, y112, z112] at X112
                obtain ⟨rfl, Nq112, e112⟩ := hQ112
                have N112 := Fr.app N110 Nq112
                refine own_viaW st112 ?_
                show own_GoW p e below s00 _ _ (T112.setTop (mkF m 256 #[.val (.long na), .second, .val (.long nb), .second, .val (.long nc), .second, .val (.long nq), .second, .val (.int fl), .val (.int (1 : Int32)), .val (.ref b4), .val (.ref b9), .val (.ref b14), .val (.ref b20), .val (.ref b21), .val (.ref b9), .val .null, .val .null, .val .null] [.null]))
                refine own_byW (fun tz kz => XS.aload X112.here hx rfl (hb hby at_256) rfl rfl kz) ?_
                show own_GoW p e below s00 _ _ (T112.setTop (mkF m 258 #[.val (.long na), .second, .val (.long nb), .second, .val (.long nc), .second, .val (.long nq), .second, .val (.int fl), .val (.int (1 : Int32)), .val (.ref b4), .val (.ref b9), .val (.ref b14), .val (.ref b20), .val (.ref b21), .val (.ref b9), .val .null, .val .null, .val .null] [.null, .null]))
                refine own_byW (fun tz kz => Jvm.RoadKit.acmp (g := (mkF m 258 #[.val (.long na), .second, .val (.long nb), .second, .val (.long nc), .second, .val (.long nq), .second, .val (.int fl), .val (.int (1 : Int32)), .val (.ref b4), .val (.ref b9), .val (.ref b14), .val (.ref b20), .val (.ref b21), .val (.ref b9), .val .null, .val .null, .val .null] [.null, .null])) X112 hx rfl rfl rfl (pc0 := 258) (pc' := 261) (same := true) rfl (hb hby at_258) rfl (decide_eq_true rfl) (by decide) (by decide) kz) ?_
                show own_GoW p e below s00 _ _ (T112.setTop (mkF m 261 #[.val (.long na), .second, .val (.long nb), .second, .val (.long nc), .second, .val (.long nq), .second, .val (.int fl), .val (.int (1 : Int32)), .val (.ref b4), .val (.ref b9), .val (.ref b14), .val (.ref b20), .val (.ref b21), .val (.ref b9), .val .null, .val .null, .val .null] []))
                refine own_byW (fun tz kz => XS.iconst X112.here hx rfl (hb hby at_261) kz) ?_
                show own_GoW p e below s00 _ _ (T112.setTop (mkF m 262 #[.val (.long na), .second, .val (.long nb), .second, .val (.long nc), .second, .val (.long nq), .second, .val (.int fl), .val (.int (1 : Int32)), .val (.ref b4), .val (.ref b9), .val (.ref b14), .val (.ref b20), .val (.ref b21), .val (.ref b9), .val .null, .val .null, .val .null] [(.int (1 : Int32))]))
                refine own_byW (fun tz kz => XS.goto X112.here hx rfl (pc0 := 262) (pc' := 266) rfl (hb hby at_262) (by decide) (by decide) kz) ?_
                show own_GoW p e below s00 _ _ (T112.setTop (mkF m 266 #[.val (.long na), .second, .val (.long nb), .second, .val (.long nc), .second, .val (.long nq), .second, .val (.int fl), .val (.int (1 : Int32)), .val (.ref b4), .val (.ref b9), .val (.ref b14), .val (.ref b20), .val (.ref b21), .val (.ref b9), .val .null, .val .null, .val .null] [(.int (1 : Int32))]))
                have A113 := (own_At.up (own_At.up (own_At.up A20 E21.1) Kq29.1) Kq77.1)
                refine own_retIW X112 e112 A113 hx hlk (t := .boolean) hret (by simp) rfl (hb hby at_266) ?_ (by decide) (by decide)
                exact ⟨rfl, N112⟩
              · refine own_byW (fun tz kz => XS.ifYes X77.here hx rfl (pc0 := 208) (pc' := 215) rfl (hb hby at_208) rfl ((if0 _ _).trans (feq (fun q => hc208_102 ((lw_eq nq nc).mp q))).2) (by decide) (by decide) kz) ?_
                show own_GoW p e below s00 _ _ (T77.setTop (mkF m 215 #[.val (.long na), .second, .val (.long nb), .second, .val (.long nc), .second, .val (.long nq), .second, .val (.int fl), .val (.int (1 : Int32)), .val (.ref b4), .val (.ref b9), .val (.ref b14), .val (.ref b20), .val (.ref b21), .val (.ref b9), .val .null, .val .null, .val .null] []))
                refine own_byW (fun tz kz => XS.aload X77.here hx rfl (hb hby at_215) rfl rfl kz) ?_
                show own_GoW p e below s00 _ _ (T77.setTop (mkF m 217 #[.val (.long na), .second, .val (.long nb), .second, .val (.long nc), .second, .val (.long nq), .second, .val (.int fl), .val (.int (1 : Int32)), .val (.ref b4), .val (.ref b9), .val (.ref b14), .val (.ref b20), .val (.ref b21), .val (.ref b9), .val .null, .val .null, .val .null] [(.ref b21)]))
                refine own_byW (fun tz kz => XS.lloadN X77.here hx rfl (hb hby at_217) rfl kz) ?_
                show own_GoW p e below s00 _ _ (T77.setTop (mkF m 218 #[.val (.long na), .second, .val (.long nb), .second, .val (.long nc), .second, .val (.long nq), .second, .val (.int fl), .val (.int (1 : Int32)), .val (.ref b4), .val (.ref b9), .val (.ref b14), .val (.ref b20), .val (.ref b21), .val (.ref b9), .val .null, .val .null, .val .null] [(.long na), (.ref b21)]))
                have f114 := (f75.keep Kq77 (ninS ne_b9_b21 (ninS ne_b9_ar29 nin0)))
                have Fi115 : own_Find (own_set own_g0 kf73 b9) num na (some b9) (own_H na) := by
                  have q := (Ta73).path b9 (by simp)
                  rw [n1] at q; exact q
                have hn115 : ∀ (k : Nat) (y : Addr), (own_set own_g0 kf73 b9) k = some y → Fld Z T77.heap y "com/example/ajenda/ajenda/core/Job" "number" "J" (.long (num y)) := by
                  intro k y q0
                  have q := (Ta73).all k y q0
                  simp only [List.mem_cons, List.not_mem_nil, or_false] at q
                  rw [q]; rw [n1]; exact f114
                have f116 := (f76.keep Kq77)
                obtain ⟨cq117, kq117, q117a, q117b, q117c⟩ := isOf hZ e77 f116
                obtain ⟨_, _, ⟨T117, L117, k117, n117⟩, -, X117, ⟨Lc117, hQ117, l117, y117, z117⟩, st117⟩ := X77.virtualBack hx (y := (⟨"com/example/ajenda/ajenda/core/JobsByNumber", "get", "(J)Lcom/example/ajenda/ajenda/core/Job;"⟩ : MethodName)) (z := (⟨"com/example/ajenda/ajenda/core/JobsByNumber", "get", "(J)Lcom/example/ajenda/ajenda/core/Job;"⟩ : MethodName)) hown (mvT hZ (hw _ (List.mem_of_getElem? (i := 80) rfl))) (mvT hZ (hw _ (List.mem_of_getElem? (i := 81) rfl))) (notFace_of_selects (args := #[]) (mvT hZ (hw _ (List.mem_of_getElem? (i := 83) rfl)))) (mvT hZ (hw _ (List.mem_of_getElem? (i := 83) rfl))) (mvT hZ (hw _ (List.mem_of_getElem? (i := 82) rfl))) (by decide) (backOf (W := 0) (rm_get l Z a0 hw [] b21 ar29 kk29 (own_set own_g0 kf73 b9) num na (some b9) T77.heap n0 Vq77 Fq77 hn115 Fi115) hZ (hw _ (List.mem_of_getElem? (i := 84) rfl)) (hw _ (List.mem_of_getElem? (i := 50) rfl)) (by decide) (by decide)) q117a q117c (g := (mkF m 218 #[.val (.long na), .second, .val (.long nb), .second, .val (.long nc), .second, .val (.long nq), .second, .val (.int fl), .val (.int (1 : Int32)), .val (.ref b4), .val (.ref b9), .val (.ref b14), .val (.ref b20), .val (.ref b21), .val (.ref b9), .val .null, .val .null, .val .null] [(.long na), (.ref b21)])) rfl (by rw [hml]; rfl) (Steps.refl _) (argsL := [(.long na)]) (rest := []) (lenOf pd_7 rfl) rfl (by show 2 * 0 + _ ≤ _; exact Nat.le_of_eq rfl) (hb hby at_218) (fun _ _ => ⟨rfl, e77, (by decide : ((((((((1 + 2) + 5) + 2) + 5) + 2) + 5) + 1) + 1) + 0 ≤ _), (by decide : ((((((((8 + 4) + 29) + (8 + 4)) + 29) + (8 + 4)) + 29) + 2) + 16) + 0 ≤ _)⟩)
                dsimp only [Pt.U, Pt.locs, Pt.cells, Pt.slots] at X117 l117 y117 z117 st117 hQ117
                rw [l117, y117, z117] at X117
                obtain ⟨rfl, Nq117, e117⟩ := hQ117
                have N117 := Fr.app N77 Nq117
                refine own_viaW st117 ?_
                show own_GoW p e below s00 _ _ (T117.setTop (mkF m 221 #[.val (.long na), .second, .val (.long nb), .second, .val (.long nc), .second, .val (.long nq), .second, .val (.int fl), .val (.int (1 : Int32)), .val (.ref b4), .val (.ref b9), .val (.ref b14), .val (.ref b20), .val (.ref b21), .val (.ref b9), .val .null, .val .null, .val .null] [(.ref b9)]))
                refine own_byW (fun tz kz => XS.aload X117.here hx rfl (hb hby at_221) rfl rfl kz) ?_
                show own_GoW p e below s00 _ _ (T117.setTop (mkF m 223 #[.val (.long na), .second, .val (.long nb), .second, .val (.long nc), .second, .val (.long nq), .second, .val (.int fl), .val (.int (1 : Int32)), .val (.ref b4), .val (.ref b9), .val (.ref b14), .val (.ref b20), .val (.ref b21), .val (.ref b9), .val .null, .val .null, .val .null] [(.ref b9), (.ref b9)]))
                refine own_byW (fun tz kz => Jvm.RoadKit.acmp (g := (mkF m 223 #[.val (.long na), .second, .val (.long nb), .second, .val (.long nc), .second, .val (.long nq), .second, .val (.int fl), .val (.int (1 : Int32)), .val (.ref b4), .val (.ref b9), .val (.ref b14), .val (.ref b20), .val (.ref b21), .val (.ref b9), .val .null, .val .null, .val .null] [(.ref b9), (.ref b9)])) X117 hx rfl rfl rfl (pc0 := 223) (pc' := 226) (same := true) rfl (hb hby at_223) rfl (decide_eq_true rfl) (by decide) (by decide) kz) ?_
                show own_GoW p e below s00 _ _ (T117.setTop (mkF m 226 #[.val (.long na), .second, .val (.long nb), .second, .val (.long nc), .second, .val (.long nq), .second, .val (.int fl), .val (.int (1 : Int32)), .val (.ref b4), .val (.ref b9), .val (.ref b14), .val (.ref b20), .val (.ref b21), .val (.ref b9), .val .null, .val .null, .val .null] []))
                refine own_byW (fun tz kz => XS.aload X117.here hx rfl (hb hby at_226) rfl rfl kz) ?_
                show own_GoW p e below s00 _ _ (T117.setTop (mkF m 228 #[.val (.long na), .second, .val (.long nb), .second, .val (.long nc), .second, .val (.long nq), .second, .val (.int fl), .val (.int (1 : Int32)), .val (.ref b4), .val (.ref b9), .val (.ref b14), .val (.ref b20), .val (.ref b21), .val (.ref b9), .val .null, .val .null, .val .null] [(.ref b21)]))
                refine own_byW (fun tz kz => XS.lloadN X117.here hx rfl (hb hby at_228) rfl kz) ?_
                show own_GoW p e below s00 _ _ (T117.setTop (mkF m 229 #[.val (.long na), .second, .val (.long nb), .second, .val (.long nc), .second, .val (.long nq), .second, .val (.int fl), .val (.int (1 : Int32)), .val (.ref b4), .val (.ref b9), .val (.ref b14), .val (.ref b20), .val (.ref b21), .val (.ref b9), .val .null, .val .null, .val .null] [(.long nb), (.ref b21)]))
                have hne118 : ∀ y ∈ ([b9] : List Addr), ¬ num y = nb := by
                  intro y q
                  simp only [List.mem_cons, List.not_mem_nil, or_false] at q
                  rw [q]; rw [n1]; exact hc3_1
                have Fi118 : own_Find (own_set own_g0 kf73 b9) num nb none (own_H nb) := by
                  exact (Ta73).miss (by simp) (own_H_lt _) hne118
                have hn118 : ∀ (k : Nat) (y : Addr), (own_set own_g0 kf73 b9) k = some y → Fld Z T77.heap y "com/example/ajenda/ajenda/core/Job" "number" "J" (.long (num y)) := by
                  intro k y q0
                  have q := (Ta73).all k y q0
                  simp only [List.mem_cons, List.not_mem_nil, or_false] at q
                  rw [q]; rw [n1]; exact f114
                obtain ⟨cq119, kq119, q119a, q119b, q119c⟩ := isOf hZ e117 f116
                obtain ⟨_, _, ⟨T119, L119, k119, n119⟩, -, X119, ⟨Lc119, hQ119, l119, y119, z119⟩, st119⟩ := X117.virtualBack hx (y := (⟨"com/example/ajenda/ajenda/core/JobsByNumber", "get", "(J)Lcom/example/ajenda/ajenda/core/Job;"⟩ : MethodName)) (z := (⟨"com/example/ajenda/ajenda/core/JobsByNumber", "get", "(J)Lcom/example/ajenda/ajenda/core/Job;"⟩ : MethodName)) hown (mvT hZ (hw _ (List.mem_of_getElem? (i := 80) rfl))) (mvT hZ (hw _ (List.mem_of_getElem? (i := 81) rfl))) (notFace_of_selects (args := #[]) (mvT hZ (hw _ (List.mem_of_getElem? (i := 83) rfl)))) (mvT hZ (hw _ (List.mem_of_getElem? (i := 83) rfl))) (mvT hZ (hw _ (List.mem_of_getElem? (i := 82) rfl))) (by decide) (backOf (W := 0) (rm_get l Z a0 hw [] b21 ar29 kk29 (own_set own_g0 kf73 b9) num nb none T77.heap n0 Vq77 Fq77 hn118 Fi118) hZ (hw _ (List.mem_of_getElem? (i := 84) rfl)) (hw _ (List.mem_of_getElem? (i := 50) rfl)) (by decide) (by decide)) q119a q119c (g := (mkF m 229 #[.val (.long na), .second, .val (.long nb), .second, .val (.long nc), .second, .val (.long nq), .second, .val (.int fl), .val (.int (1 : Int32)), .val (.ref b4), .val (.ref b9), .val (.ref b14), .val (.ref b20), .val (.ref b21), .val (.ref b9), .val .null, .val .null, .val .null] [(.long nb), (.ref b21)])) rfl (by rw [hml]; rfl) (Steps.refl _) (argsL := [(.long nb)]) (rest := []) (lenOf pd_7 rfl) rfl (by show 2 * 0 + _ ≤ _; exact Nat.le_of_eq rfl) (hb hby at_229) (fun _ _ => ⟨rfl, e117, (by decide : ((((((((1 + 2) + 5) + 2) + 5) + 2) + 5) + 1) + 1) + 0 ≤ _), (by decide : ((((((((8 + 4) + 29) + (8 + 4)) + 29) + (8 + 4)) + 29) + 2) + 16) + 0 ≤ _)⟩)
                dsimp only [Pt.U, Pt.locs, Pt.cells, Pt.slots] at X119 l119 y119 z119 st119 hQ119
                rw [l119, y119, z119] at X119
                obtain ⟨rfl, Nq119, e119⟩ := hQ119
                have N119 := Fr.app N117 Nq119
                refine own_viaW st119 ?_
                show own_GoW p e below s00 _ _ (T119.setTop (mkF m 232 #[.val (.long na), .second, .val (.long nb), .second, .val (.long nc), .second, .val (.long nq), .second, .val (.int fl), .val (.int (1 : Int32)), .val (.ref b4), .val (.ref b9), .val (.ref b14), .val (.ref b20), .val (.ref b21), .val (.ref b9), .val .null, .val .null, .val .null] [.null]))
                refine own_byW (fun tz kz => XS.aload X119.here hx rfl (hb hby at_232) rfl rfl kz) ?_
                show own_GoW p e below s00 _ _ (T119.setTop (mkF m 234 #[.val (.long na), .second, .val (.long nb), .second, .val (.long nc), .second, .val (.long nq), .second, .val (.int fl), .val (.int (1 : Int32)), .val (.ref b4), .val (.ref b9), .val (.ref b14), .val (.ref b20), .val (.ref b21), .val (.ref b9), .val .null, .val .null, .val .null] [.null, .null]))
                refine own_byW (fun tz kz => Jvm.RoadKit.acmp (g := (mkF m 234 #[.val (.long na), .second, .val (.long nb), .second, .val (.long nc), .second, .val (.long nq), .second, .val (.int fl), .val (.int (1 : Int32)), .val (.ref b4), .val (.ref b9), .val (.ref b14), .val (.ref b20), .val (.ref b21), .val (.ref b9), .val .null, .val .null, .val .null] [.null, .null])) X119 hx rfl rfl rfl (pc0 := 234) (pc' := 237) (same := true) rfl (hb hby at_234) rfl (decide_eq_true rfl) (by decide) (by decide) kz) ?_
                show own_GoW p e below s00 _ _ (T119.setTop (mkF m 237 #[.val (.long na), .second, .val (.long nb), .second, .val (.long nc), .second, .val (.long nq), .second, .val (.int fl), .val (.int (1 : Int32)), .val (.ref b4), .val (.ref b9), .val (.ref b14), .val (.ref b20), .val (.ref b21), .val (.ref b9), .val .null, .val .null, .val .null] []))
                refine own_byW (fun tz kz => XS.aload X119.here hx rfl (hb hby at_237) rfl rfl kz) ?_
                show own_GoW p e below s00 _ _ (T119.setTop (mkF m 239 #[.val (.long na), .second, .val (.long nb), .second, .val (.long nc), .second, .val (.long nq), .second, .val (.int fl), .val (.int (1 : Int32)), .val (.ref b4), .val (.ref b9), .val (.ref b14), .val (.ref b20), .val (.ref b21), .val (.ref b9), .val .null, .val .null, .val .null] [(.ref b21)]))
                refine own_byW (fun tz kz => XS.lload X119.here hx rfl (hb hby at_239) rfl kz) ?_
                show own_GoW p e below s00 _ _ (T119.setTop (mkF m 241 #[.val (.long na), .second, .val (.long nb), .second, .val (.long nc), .second, .val (.long nq), .second, .val (.int fl), .val (.int (1 : Int32)), .val (.ref b4), .val (.ref b9), .val (.ref b14), .val (.ref b20), .val (.ref b21), .val (.ref b9), .val .null, .val .null, .val .null] [(.long nc), (.ref b21)]))
                have hne120 : ∀ y ∈ ([b9] : List Addr), ¬ num y = nc := by
                  intro y q
                  simp only [List.mem_cons, List.not_mem_nil, or_false] at q
                  rw [q]; rw [n1]; exact hc10_2
                have Fi120 : own_Find (own_set own_g0 kf73 b9) num nc none (own_H nc) := by
                  exact (Ta73).miss (by simp) (own_H_lt _) hne120
                have hn120 : ∀ (k : Nat) (y : Addr), (own_set own_g0 kf73 b9) k = some y → Fld Z T77.heap y "com/example/ajenda/ajenda/core/Job" "number" "J" (.long (num y)) := by
                  intro k y q0
                  have q := (Ta73).all k y q0
                  simp only [List.mem_cons, List.not_mem_nil, or_false] at q
                  rw [q]; rw [n1]; exact f114
                obtain ⟨cq121, kq121, q121a, q121b, q121c⟩ := isOf hZ e119 f116
                obtain ⟨_, _, ⟨T121, L121, k121, n121⟩, -, X121, ⟨Lc121, hQ121, l121, y121, z121⟩, st121⟩ := X119.virtualBack hx (y := (⟨"com/example/ajenda/ajenda/core/JobsByNumber", "get", "(J)Lcom/example/ajenda/ajenda/core/Job;"⟩ : MethodName)) (z := (⟨"com/example/ajenda/ajenda/core/JobsByNumber", "get", "(J)Lcom/example/ajenda/ajenda/core/Job;"⟩ : MethodName)) hown (mvT hZ (hw _ (List.mem_of_getElem? (i := 80) rfl))) (mvT hZ (hw _ (List.mem_of_getElem? (i := 81) rfl))) (notFace_of_selects (args := #[]) (mvT hZ (hw _ (List.mem_of_getElem? (i := 83) rfl)))) (mvT hZ (hw _ (List.mem_of_getElem? (i := 83) rfl))) (mvT hZ (hw _ (List.mem_of_getElem? (i := 82) rfl))) (by decide) (backOf (W := 0) (rm_get l Z a0 hw [] b21 ar29 kk29 (own_set own_g0 kf73 b9) num nc none T77.heap n0 Vq77 Fq77 hn120 Fi120) hZ (hw _ (List.mem_of_getElem? (i := 84) rfl)) (hw _ (List.mem_of_getElem? (i := 50) rfl)) (by decide) (by decide)) q121a q121c (g := (mkF m 241 #[.val (.long na), .second, .val (.long nb), .second, .val (.long nc), .second, .val (.long nq), .second, .val (.int fl), .val (.int (1 : Int32)), .val (.ref b4), .val (.ref b9), .val (.ref b14), .val (.ref b20), .val (.ref b21), .val (.ref b9), .val .null, .val .null, .val .null] [(.long nc), (.ref b21)])) rfl (by rw [hml]; rfl) (Steps.refl _) (argsL := [(.long nc)]) (rest := []) (lenOf pd_7 rfl) rfl (by show 2 * 0 + _ ≤ _; exact Nat.le_of_eq rfl) (hb hby at_241) (fun _ _ => ⟨rfl, e119, (by decide : ((((((((1 + 2) + 5) + 2) + 5) + 2) + 5) + 1) + 1) + 0 ≤ _), (by decide : ((((((((8 + 4) + 29) + (8 + 4)) + 29) + (8 + 4)) + 29) + 2) + 16) + 0 ≤ _)⟩)
                dsimp only [Pt.U, Pt.locs, Pt.cells, Pt.slots] at X121 l121 y121 z121 st121 hQ121
                rw [l121, y121, z121] at X121
                obtain ⟨rfl, Nq121, e121⟩ := hQ121
                have N121 := Fr.app N119 Nq121
                refine own_viaW st121 ?_
                show own_GoW p e below s00 _ _ (T121.setTop (mkF m 244 #[.val (.long na), .second, .val (.long nb), .second, .val (.long nc), .second, .val (.long nq), .second, .val (.int fl), .val (.int (1 : Int32)), .val (.ref b4), .val (.ref b9), .val (.ref b14), .val (.ref b20), .val (.ref b21), .val (.ref b9), .val .null, .val .null, .val .null] [.null]))
                refine own_byW (fun tz kz => XS.aload X121.here hx rfl (hb hby at_244) rfl rfl kz) ?_
                show own_GoW p e below s00 _ _ (T121.setTop (mkF m 246 #[.val (.long na), .second, .val (.long nb), .second, .val (.long nc), .second, .val (.long nq), .second, .val (.int fl), .val (.int (1 : Int32)), .val (.ref b4), .val (.ref b9), .val (.ref b14), .val (.ref b20), .val (.ref b21), .val (.ref b9), .val .null, .val .null, .val .null] [.null, .null]))
                refine own_byW (fun tz kz => Jvm.RoadKit.acmp (g := (mkF m 246 #[.val (.long na), .second, .val (.long nb), .second, .val (.long nc), .second, .val (.long nq), .second, .val (.int fl), .val (.int (1 : Int32)), .val (.ref b4), .val (.ref b9), .val (.ref b14), .val (.ref b20), .val (.ref b21), .val (.ref b9), .val .null, .val .null, .val .null] [.null, .null])) X121 hx rfl rfl rfl (pc0 := 246) (pc' := 249) (same := true) rfl (hb hby at_246) rfl (decide_eq_true rfl) (by decide) (by decide) kz) ?_
                show own_GoW p e below s00 _ _ (T121.setTop (mkF m 249 #[.val (.long na), .second, .val (.long nb), .second, .val (.long nc), .second, .val (.long nq), .second, .val (.int fl), .val (.int (1 : Int32)), .val (.ref b4), .val (.ref b9), .val (.ref b14), .val (.ref b20), .val (.ref b21), .val (.ref b9), .val .null, .val .null, .val .null] []))
                refine own_byW (fun tz kz => XS.aload X121.here hx rfl (hb hby at_249) rfl rfl kz) ?_
                show own_GoW p e below s00 _ _ (T121.setTop (mkF m 251 #[.val (.long na), .second, .val (.long nb), .second, .val (.long nc), .second, .val (.long nq), .second, .val (.int fl), .val (.int (1 : Int32)), .val (.ref b4), .val (.ref b9), .val (.ref b14), .val (.ref b20), .val (.ref b21), .val (.ref b9), .val .null, .val .null, .val .null] [(.ref b21)]))
                refine own_byW (fun tz kz => XS.lload X121.here hx rfl (hb hby at_251) rfl kz) ?_
                show own_GoW p e below s00 _ _ (T121.setTop (mkF m 253 #[.val (.long na), .second, .val (.long nb), .second, .val (.long nc), .second, .val (.long nq), .second, .val (.int fl), .val (.int (1 : Int32)), .val (.ref b4), .val (.ref b9), .val (.ref b14), .val (.ref b20), .val (.ref b21), .val (.ref b9), .val .null, .val .null, .val .null] [(.long nq), (.ref b21)]))
                have hne122 : ∀ y ∈ ([b9] : List Addr), ¬ num y = nq := by
                  intro y q
                  simp only [List.mem_cons, List.not_mem_nil, or_false] at q
                  rw [q]; rw [n1]; exact (fun z => hc179_78 z.symm)
                have Fi122 : own_Find (own_set own_g0 kf73 b9) num nq none (own_H nq) := by
                  exact (Ta73).miss (by simp) (own_H_lt _) hne122
                have hn122 : ∀ (k : Nat) (y : Addr), (own_set own_g0 kf73 b9) k = some y → Fld Z T77.heap y "com/example/ajenda/ajenda/core/Job" "number" "J" (.long (num y)) := by
                  intro k y q0
                  have q := (Ta73).all k y q0
                  simp only [List.mem_cons, List.not_mem_nil, or_false] at q
                  rw [q]; rw [n1]; exact f114
                obtain ⟨cq123, kq123, q123a, q123b, q123c⟩ := isOf hZ e121 f116
                obtain ⟨_, _, ⟨T123, L123, k123, n123⟩, -, X123, ⟨Lc123, hQ123, l123, y123, z123⟩, st123⟩ := X121.virtualBack hx (y := (⟨"com/example/ajenda/ajenda/core/JobsByNumber", "get", "(J)Lcom/example/ajenda/ajenda/core/Job;"⟩ : MethodName)) (z := (⟨"com/example/ajenda/ajenda/core/JobsByNumber", "get", "(J)Lcom/example/ajenda/ajenda/core/Job;"⟩ : MethodName)) hown (mvT hZ (hw _ (List.mem_of_getElem? (i := 80) rfl))) (mvT hZ (hw _ (List.mem_of_getElem? (i := 81) rfl))) (notFace_of_selects (args := #[]) (mvT hZ (hw _ (List.mem_of_getElem? (i := 83) rfl)))) (mvT hZ (hw _ (List.mem_of_getElem? (i := 83) rfl))) (mvT hZ (hw _ (List.mem_of_getElem? (i := 82) rfl))) (by decide) (backOf (W := 0) (rm_get l Z a0 hw [] b21 ar29 kk29 (own_set own_g0 kf73 b9) num nq none T77.heap n0 Vq77 Fq77 hn122 Fi122) hZ (hw _ (List.mem_of_getElem? (i := 84) rfl)) (hw _ (List.mem_of_getElem? (i := 50) rfl)) (by decide) (by decide)) q123a q123c (g := (mkF m 253 #[.val (.long na), .second, .val (.long nb), .second, .val (.long nc), .second, .val (.long nq), .second, .val (.int fl), .val (.int (1 : Int32)), .val (.ref b4), .val (.ref b9), .val (.ref b14), .val (.ref b20), .val (.ref b21), .val (.ref b9), .val .null, .val .null, .val .null] [(.long nq), (.ref b21)])) rfl (by rw [hml]; rfl) (Steps.refl _) (argsL := [(.long nq)]) (rest := []) (lenOf pd_7 rfl) rfl (by show 2 * 0 + _ ≤ _; exact Nat.le_of_eq rfl) (hb hby at_253) (fun _ _ => ⟨rfl, e121, (by decide : ((((((((1 + 2) + 5) + 2) + 5) + 2) + 5) + 1) + 1) + 0 ≤ _), (by decide : ((((((((8 + 4) + 29) + (8 + 4)) + 29) + (8 + 4)) + 29) + 2) + 16) + 0 ≤ _)⟩)
                dsimp only [Pt.U, Pt.locs, Pt.cells, Pt.slots] at X123 l123 y123 z123 st123 hQ123
                rw [l123, y123, z123] at X123
                obtain ⟨rfl, Nq123, e123⟩ := hQ123
                have N123 := Fr.app N121 Nq123
                refine own_viaW st123 ?_
                show own_GoW p e below s00 _ _ (T123.setTop (mkF m 256 #[.val (.long na), .second, .val (.long nb), .second, .val (.long nc), .second, .val (.long nq), .second, .val (.int fl), .val (.int (1 : Int32)), .val (.ref b4), .val (.ref b9), .val (.ref b14), .val (.ref b20), .val (.ref b21), .val (.ref b9), .val .null, .val .null, .val .null] [.null]))
                refine own_byW (fun tz kz => XS.aload X123.here hx rfl (hb hby at_256) rfl rfl kz) ?_
                show own_GoW p e below s00 _ _ (T123.setTop (mkF m 258 #[.val (.long na), .second, .val (.long nb), .second, .val (.long nc), .second, .val (.long nq), .second, .val (.int fl), .val (.int (1 : Int32)), .val (.ref b4), .val (.ref b9), .val (.ref b14), .val (.ref b20), .val (.ref b21), .val (.ref b9), .val .null, .val .null, .val .null] [.null, .null]))
                refine own_byW (fun tz kz => Jvm.RoadKit.acmp (g := (mkF m 258 #[.val (.long na), .second, .val (.long nb), .second, .val (.long nc), .second, .val (.long nq), .second, .val (.int fl), .val (.int (1 : Int32)), .val (.ref b4), .val (.ref b9), .val (.ref b14), .val (.ref b20), .val (.ref b21), .val (.ref b9), .val .null, .val .null, .val .null] [.null, .null])) X123 hx rfl rfl rfl (pc0 := 258) (pc' := 261) (same := true) rfl (hb hby at_258) rfl (decide_eq_true rfl) (by decide) (by decide) kz) ?_
                show own_GoW p e below s00 _ _ (T123.setTop (mkF m 261 #[.val (.long na), .second, .val (.long nb), .second, .val (.long nc), .second, .val (.long nq), .second, .val (.int fl), .val (.int (1 : Int32)), .val (.ref b4), .val (.ref b9), .val (.ref b14), .val (.ref b20), .val (.ref b21), .val (.ref b9), .val .null, .val .null, .val .null] []))
                refine own_byW (fun tz kz => XS.iconst X123.here hx rfl (hb hby at_261) kz) ?_
                show own_GoW p e below s00 _ _ (T123.setTop (mkF m 262 #[.val (.long na), .second, .val (.long nb), .second, .val (.long nc), .second, .val (.long nq), .second, .val (.int fl), .val (.int (1 : Int32)), .val (.ref b4), .val (.ref b9), .val (.ref b14), .val (.ref b20), .val (.ref b21), .val (.ref b9), .val .null, .val .null, .val .null] [(.int (1 : Int32))]))
                refine own_byW (fun tz kz => XS.goto X123.here hx rfl (pc0 := 262) (pc' := 266) rfl (hb hby at_262) (by decide) (by decide) kz) ?_
                show own_GoW p e below s00 _ _ (T123.setTop (mkF m 266 #[.val (.long na), .second, .val (.long nb), .second, .val (.long nc), .second, .val (.long nq), .second, .val (.int fl), .val (.int (1 : Int32)), .val (.ref b4), .val (.ref b9), .val (.ref b14), .val (.ref b20), .val (.ref b21), .val (.ref b9), .val .null, .val .null, .val .null] [(.int (1 : Int32))]))
                have A124 := (own_At.up (own_At.up (own_At.up A20 E21.1) Kq29.1) Kq77.1)
                refine own_retIW X123 e123 A124 hx hlk (t := .boolean) hret (by simp) rfl (hb hby at_266) ?_ (by decide) (by decide)
                exact ⟨rfl, N123⟩
        · rw [hcs]
          show own_GoW p e below s00 _ _ (T29.setTop (mkF m 91 #[.val (.long na), .second, .val (.long nb), .second, .val (.long nc), .second, .val (.long nq), .second, .val (.int fl), .val (.int (2 : Int32)), .val (.ref b4), .val (.ref b9), .val (.ref b14), .val (.ref b20), .val (.ref b21), .unset, .unset, .unset, .unset] []))
          refine own_byW (fun tz kz => XS.iload X29.here hx rfl (hb hby at_91) rfl  kz) ?_
          show own_GoW p e below s00 _ _ (T29.setTop (mkF m 93 #[.val (.long na), .second, .val (.long nb), .second, .val (.long nc), .second, .val (.long nq), .second, .val (.int fl), .val (.int (2 : Int32)), .val (.ref b4), .val (.ref b9), .val (.ref b14), .val (.ref b20), .val (.ref b21), .unset, .unset, .unset, .unset] [(.int (2 : Int32))]))
          refine own_byW (fun tz kz => XS.iconst X29.here hx rfl (hb hby at_93) kz) ?_
          show own_GoW p e below s00 _ _ (T29.setTop (mkF m 94 #[.val (.long na), .second, .val (.long nb), .second, .val (.long nc), .second, .val (.long nq), .second, .val (.int fl), .val (.int (2 : Int32)), .val (.ref b4), .val (.ref b9), .val (.ref b14), .val (.ref b20), .val (.ref b21), .unset, .unset, .unset, .unset] [(.int (1 : Int32)), (.int (2 : Int32))]))
          refine own_byW (fun tz kz => XS.icmpNo X29.here hx rfl (hb hby at_94) rfl (flt (by decide : ¬ (2 : Int32) < (1 : Int32))).1 kz) ?_
          show own_GoW p e below s00 _ _ (T29.setTop (mkF m 97 #[.val (.long na), .second, .val (.long nb), .second, .val (.long nc), .second, .val (.long nq), .second, .val (.int fl), .val (.int (2 : Int32)), .val (.ref b4), .val (.ref b9), .val (.ref b14), .val (.ref b20), .val (.ref b21), .unset, .unset, .unset, .unset] []))
          refine own_byW (fun tz kz => XS.aload X29.here hx rfl (hb hby at_97) rfl rfl kz) ?_
          show own_GoW p e below s00 _ _ (T29.setTop (mkF m 99 #[.val (.long na), .second, .val (.long nb), .second, .val (.long nc), .second, .val (.long nq), .second, .val (.int fl), .val (.int (2 : Int32)), .val (.ref b4), .val (.ref b9), .val (.ref b14), .val (.ref b20), .val (.ref b21), .unset, .unset, .unset, .unset] [(.ref b21)]))
          refine own_byW (fun tz kz => XS.aload X29.here hx rfl (hb hby at_99) rfl rfl kz) ?_
          show own_GoW p e below s00 _ _ (T29.setTop (mkF m 101 #[.val (.long na), .second, .val (.long nb), .second, .val (.long nc), .second, .val (.long nq), .second, .val (.int fl), .val (.int (2 : Int32)), .val (.ref b4), .val (.ref b9), .val (.ref b14), .val (.ref b20), .val (.ref b21), .unset, .unset, .unset, .unset] [(.ref b9), (.ref b21)]))
          obtain ⟨kf125, Fr125⟩ := own_T.free (own_T.nil num own_H) (by simp) (own_H_lt na)
          have hne125 : ∀ y ∈ ([] : List Addr), ¬ num y = num b9 := by
            intro y q
            exact absurd q (by simp)
          have Ta125 := own_T.put (own_T.nil num own_H) (j := b9) (k' := kf125) (by rw [n1]; exact Fr125) hne125
          have f126 := (f26.keep Kq29)
          have f127 := ((((((Fq9.ext E10).keep Kq14 nin0).ext E15).keep Kq20 nin0).ext E21).keep Kq29 (ninS ne_b9_b21 nin0))
          have f128 := (A21.keep Kq29)
          obtain ⟨cq129, kq129, q129a, q129b, q129c⟩ := isOf hZ e29 f128
          obtain ⟨_, _, ⟨T129, L129, k129, n129⟩, -, X129, ⟨Lc129, hQ129, l129, y129, z129⟩, st129⟩ := X29.virtualBack hx (y := (⟨"com/example/ajenda/ajenda/core/JobsByNumber", "add", "(Lcom/example/ajenda/ajenda/core/Job;)V"⟩ : MethodName)) (z := (⟨"com/example/ajenda/ajenda/core/JobsByNumber", "add", "(Lcom/example/ajenda/ajenda/core/Job;)V"⟩ : MethodName)) hown (mvT hZ (hw _ (List.mem_of_getElem? (i := 59) rfl))) (mvT hZ (hw _ (List.mem_of_getElem? (i := 60) rfl))) (notFace_of_selects (args := #[]) (mvT hZ (hw _ (List.mem_of_getElem? (i := 62) rfl)))) (mvT hZ (hw _ (List.mem_of_getElem? (i := 62) rfl))) (mvT hZ (hw _ (List.mem_of_getElem? (i := 61) rfl))) (by decide) (backOf (W := 0) (rm_add l Z a0 hw [] b21 ar29 b9 kk29 own_g0 na kf125 (0 : Int32) T29.heap n0 O29 Vq29 Ov29 f126 f127 Fr125 g_ar29 f128 Fq29 Gq29 g_b21 ne_b21_ar29 ne_b9_ar29 ne_b9_b21 (by decide)) hZ (hw _ (List.mem_of_getElem? (i := 63) rfl)) (hw _ (List.mem_of_getElem? (i := 50) rfl)) (by decide) (by decide)) q129a q129c (g := (mkF m 101 #[.val (.long na), .second, .val (.long nb), .second, .val (.long nc), .second, .val (.long nq), .second, .val (.int fl), .val (.int (2 : Int32)), .val (.ref b4), .val (.ref b9), .val (.ref b14), .val (.ref b20), .val (.ref b21), .unset, .unset, .unset, .unset] [(.ref b9), (.ref b21)])) rfl (by rw [hml]; rfl) (Steps.refl _) (argsL := [(.ref b9)]) (rest := []) (lenOf pd_3 rfl) rfl (by show 2 * 0 + _ ≤ _; exact Nat.le_of_eq rfl) (hb hby at_101) (fun _ _ => ⟨rfl, e29, (by decide : ((((((((1 + 2) + 5) + 2) + 5) + 2) + 5) + 1) + 1) + 0 ≤ _), (by decide : ((((((((8 + 4) + 29) + (8 + 4)) + 29) + (8 + 4)) + 29) + 2) + 16) + 0 ≤ _)⟩)
          dsimp only [Pt.U, Pt.locs, Pt.cells, Pt.slots] at X129 l129 y129 z129 st129 hQ129
          rw [l129, y129, z129] at X129
          obtain ⟨rfl, Nq129, Kq129, Vq129, Fq129, Gq129⟩ := hQ129
          have N129 := Fr.app N29 Nq129
          have e129 : T129.heap = T129.heap := rfl
          refine own_viaW st129 ?_
          have O129 := O29.keep Kq129 (allS g_b21 (allS g_ar29 all0))
          have K129 := K29.trans Kq129 (allS (Or.inr sz_b21) (allS (Or.inr sz_ar29) all0))
          show own_GoW p e below s00 _ _ (T129.setTop (mkF m 104 #[.val (.long na), .second, .val (.long nb), .second, .val (.long nc), .second, .val (.long nq), .second, .val (.int fl), .val (.int (2 : Int32)), .val (.ref b4), .val (.ref b9), .val (.ref b14), .val (.ref b20), .val (.ref b21), .unset, .unset, .unset, .unset] []))
          refine own_byW (fun tz kz => XS.iload X129.here hx rfl (hb hby at_104) rfl  kz) ?_
          show own_GoW p e below s00 _ _ (T129.setTop (mkF m 106 #[.val (.long na), .second, .val (.long nb), .second, .val (.long nc), .second, .val (.long nq), .second, .val (.int fl), .val (.int (2 : Int32)), .val (.ref b4), .val (.ref b9), .val (.ref b14), .val (.ref b20), .val (.ref b21), .unset, .unset, .unset, .unset] [(.int (2 : Int32))]))
          refine own_byW (fun tz kz => XS.iconst X129.here hx rfl (hb hby at_106) kz) ?_
          show own_GoW p e below s00 _ _ (T129.setTop (mkF m 107 #[.val (.long na), .second, .val (.long nb), .second, .val (.long nc), .second, .val (.long nq), .second, .val (.int fl), .val (.int (2 : Int32)), .val (.ref b4), .val (.ref b9), .val (.ref b14), .val (.ref b20), .val (.ref b21), .unset, .unset, .unset, .unset] [(.int (2 : Int32)), (.int (2 : Int32))]))
          refine own_byW (fun tz kz => XS.icmpNo X129.here hx rfl (hb hby at_107) rfl (flt (by decide : ¬ (2 : Int32) < (2 : Int32))).1 kz) ?_
          show own_GoW p e below s00 _ _ (T129.setTop (mkF m 110 #[.val (.long na), .second, .val (.long nb), .second, .val (.long nc), .second, .val (.long nq), .second, .val (.int fl), .val (.int (2 : Int32)), .val (.ref b4), .val (.ref b9), .val (.ref b14), .val (.ref b20), .val (.ref b21), .unset, .unset, .unset, .unset] []))
          refine own_byW (fun tz kz => XS.aload X129.here hx rfl (hb hby at_110) rfl rfl kz) ?_
          show own_GoW p e below s00 _ _ (T129.setTop (mkF m 112 #[.val (.long na), .second, .val (.long nb), .second, .val (.long nc), .second, .val (.long nq), .second, .val (.int fl), .val (.int (2 : Int32)), .val (.ref b4), .val (.ref b9), .val (.ref b14), .val (.ref b20), .val (.ref b21), .unset, .unset, .unset, .unset] [(.ref b21)]))
          refine own_byW (fun tz kz => XS.aload X129.here hx rfl (hb hby at_112) rfl rfl kz) ?_
          show own_GoW p e below s00 _ _ (T129.setTop (mkF m 114 #[.val (.long na), .second, .val (.long nb), .second, .val (.long nc), .second, .val (.long nq), .second, .val (.int fl), .val (.int (2 : Int32)), .val (.ref b4), .val (.ref b9), .val (.ref b14), .val (.ref b20), .val (.ref b21), .unset, .unset, .unset, .unset] [(.ref b14), (.ref b21)]))
          obtain ⟨kf130, Fr130⟩ := own_T.free (Ta125) (by simp) (own_H_lt nb)
          have hne130 : ∀ y ∈ ([b9] : List Addr), ¬ num y = num b14 := by
            intro y q
            simp only [List.mem_cons, List.not_mem_nil, or_false] at q
            rw [q]; rw [n1, n2]; exact hc3_1
          have Ta130 := own_T.put (Ta125) (j := b14) (k' := kf130) (by rw [n2]; exact Fr130) hne130
          have f131 := ((f27.keep Kq29).keep Kq129)
          have f132 := (((((Fq14.ext E15).keep Kq20 nin0).ext E21).keep Kq29 (ninS ne_b14_b21 nin0)).keep Kq129 (ninS ne_b14_b21 (ninS ne_b14_ar29 nin0)))
          have f133 := (f128.keep Kq129)
          obtain ⟨cq134, kq134, q134a, q134b, q134c⟩ := isOf hZ e129 f133
          obtain ⟨_, _, ⟨T134, L134, k134, n134⟩, -, X134, ⟨Lc134, hQ134, l134, y134, z134⟩, st134⟩ := X129.virtualBack hx (y := (⟨"com/example/ajenda/ajenda/core/JobsByNumber", "add", "(Lcom/example/ajenda/ajenda/core/Job;)V"⟩ : MethodName)) (z := (⟨"com/example/ajenda/ajenda/core/JobsByNumber", "add", "(Lcom/example/ajenda/ajenda/core/Job;)V"⟩ : MethodName)) hown (mvT hZ (hw _ (List.mem_of_getElem? (i := 59) rfl))) (mvT hZ (hw _ (List.mem_of_getElem? (i := 60) rfl))) (notFace_of_selects (args := #[]) (mvT hZ (hw _ (List.mem_of_getElem? (i := 62) rfl)))) (mvT hZ (hw _ (List.mem_of_getElem? (i := 62) rfl))) (mvT hZ (hw _ (List.mem_of_getElem? (i := 61) rfl))) (by decide) (backOf (W := 0) (rm_add l Z a0 hw [] b21 ar29 b14 kk29 (own_set own_g0 kf125 b9) nb kf130 ((0 : Int32) + (1 : Int32)) T129.heap n0 O129 Vq129 Ov29 f131 f132 Fr130 g_ar29 f133 Fq129 Gq129 g_b21 ne_b21_ar29 ne_b14_ar29 ne_b14_b21 (by decide)) hZ (hw _ (List.mem_of_getElem? (i := 63) rfl)) (hw _ (List.mem_of_getElem? (i := 50) rfl)) (by decide) (by decide)) q134a q134c (g := (mkF m 114 #[.val (.long na), .second, .val (.long nb), .second, .val (.long nc), .second, .val (.long nq), .second, .val (.int fl), .val (.int (2 : Int32)), .val (.ref b4), .val (.ref b9), .val (.ref b14), .val (.ref b20), .val (.ref b21), .unset, .unset, .unset, .unset] [(.ref b14), (.ref b21)])) rfl (by rw [hml]; rfl) (Steps.refl _) (argsL := [(.ref b14)]) (rest := []) (lenOf pd_3 rfl) rfl (by show 2 * 0 + _ ≤ _; exact Nat.le_of_eq rfl) (hb hby at_114) (fun _ _ => ⟨rfl, e129, (by decide : ((((((((1 + 2) + 5) + 2) + 5) + 2) + 5) + 1) + 1) + 0 ≤ _), (by decide : ((((((((8 + 4) + 29) + (8 + 4)) + 29) + (8 + 4)) + 29) + 2) + 16) + 0 ≤ _)⟩)
          dsimp only [Pt.U, Pt.locs, Pt.cells, Pt.slots] at X134 l134 y134 z134 st134 hQ134
          rw [l134, y134, z134] at X134
          obtain ⟨rfl, Nq134, Kq134, Vq134, Fq134, Gq134⟩ := hQ134
          have N134 := Fr.app N129 Nq134
          have e134 : T134.heap = T134.heap := rfl
          refine own_viaW st134 ?_
          have O134 := O129.keep Kq134 (allS g_b21 (allS g_ar29 all0))
          have K134 := K129.trans Kq134 (allS (Or.inr sz_b21) (allS (Or.inr sz_ar29) all0))
          show own_GoW p e below s00 _ _ (T134.setTop (mkF m 117 #[.val (.long na), .second, .val (.long nb), .second, .val (.long nc), .second, .val (.long nq), .second, .val (.int fl), .val (.int (2 : Int32)), .val (.ref b4), .val (.ref b9), .val (.ref b14), .val (.ref b20), .val (.ref b21), .unset, .unset, .unset, .unset] []))
          refine own_byW (fun tz kz => XS.iload X134.here hx rfl (hb hby at_117) rfl  kz) ?_
          show own_GoW p e below s00 _ _ (T134.setTop (mkF m 119 #[.val (.long na), .second, .val (.long nb), .second, .val (.long nc), .second, .val (.long nq), .second, .val (.int fl), .val (.int (2 : Int32)), .val (.ref b4), .val (.ref b9), .val (.ref b14), .val (.ref b20), .val (.ref b21), .unset, .unset, .unset, .unset] [(.int (2 : Int32))]))
          refine own_byW (fun tz kz => XS.iconst X134.here hx rfl (hb hby at_119) kz) ?_
          show own_GoW p e below s00 _ _ (T134.setTop (mkF m 120 #[.val (.long na), .second, .val (.long nb), .second, .val (.long nc), .second, .val (.long nq), .second, .val (.int fl), .val (.int (2 : Int32)), .val (.ref b4), .val (.ref b9), .val (.ref b14), .val (.ref b20), .val (.ref b21), .unset, .unset, .unset, .unset] [(.int (3 : Int32)), (.int (2 : Int32))]))
          refine own_byW (fun tz kz => XS.icmpYes X134.here hx rfl (pc0 := 120) (pc' := 130) rfl (hb hby at_120) rfl (tlt (by decide : (2 : Int32) < (3 : Int32))).1 (by decide) (by decide) kz) ?_
          show own_GoW p e below s00 _ _ (T134.setTop (mkF m 130 #[.val (.long na), .second, .val (.long nb), .second, .val (.long nc), .second, .val (.long nq), .second, .val (.int fl), .val (.int (2 : Int32)), .val (.ref b4), .val (.ref b9), .val (.ref b14), .val (.ref b20), .val (.ref b21), .unset, .unset, .unset, .unset] []))
          refine own_byW (fun tz kz => XS.iload X134.here hx rfl (hb hby at_130) rfl  kz) ?_
          show own_GoW p e below s00 _ _ (T134.setTop (mkF m 132 #[.val (.long na), .second, .val (.long nb), .second, .val (.long nc), .second, .val (.long nq), .second, .val (.int fl), .val (.int (2 : Int32)), .val (.ref b4), .val (.ref b9), .val (.ref b14), .val (.ref b20), .val (.ref b21), .unset, .unset, .unset, .unset] [(.int (2 : Int32))]))
          refine own_byW (fun tz kz => XS.iconst X134.here hx rfl (hb hby at_132) kz) ?_
          show own_GoW p e below s00 _ _ (T134.setTop (mkF m 133 #[.val (.long na), .second, .val (.long nb), .second, .val (.long nc), .second, .val (.long nq), .second, .val (.int fl), .val (.int (2 : Int32)), .val (.ref b4), .val (.ref b9), .val (.ref b14), .val (.ref b20), .val (.ref b21), .unset, .unset, .unset, .unset] [(.int (1 : Int32)), (.int (2 : Int32))]))
          refine own_byW (fun tz kz => XS.icmpNo X134.here hx rfl (hb hby at_133) rfl (flt (by decide : ¬ (2 : Int32) < (1 : Int32))).1 kz) ?_
          show own_GoW p e below s00 _ _ (T134.setTop (mkF m 136 #[.val (.long na), .second, .val (.long nb), .second, .val (.long nc), .second, .val (.long nq), .second, .val (.int fl), .val (.int (2 : Int32)), .val (.ref b4), .val (.ref b9), .val (.ref b14), .val (.ref b20), .val (.ref b21), .unset, .unset, .unset, .unset] []))
          refine own_byW (fun tz kz => XS.aload X134.here hx rfl (hb hby at_136) rfl rfl kz) ?_
          show own_GoW p e below s00 _ _ (T134.setTop (mkF m 138 #[.val (.long na), .second, .val (.long nb), .second, .val (.long nc), .second, .val (.long nq), .second, .val (.int fl), .val (.int (2 : Int32)), .val (.ref b4), .val (.ref b9), .val (.ref b14), .val (.ref b20), .val (.ref b21), .unset, .unset, .unset, .unset] [(.ref b9)]))
          refine own_byW (fun tz kz => XS.goto X134.here hx rfl (pc0 := 138) (pc' := 142) rfl (hb hby at_138) (by decide) (by decide) kz) ?_
          show own_GoW p e below s00 _ _ (T134.setTop (mkF m 142 #[.val (.long na), .second, .val (.long nb), .second, .val (.long nc), .second, .val (.long nq), .second, .val (.int fl), .val (.int (2 : Int32)), .val (.ref b4), .val (.ref b9), .val (.ref b14), .val (.ref b20), .val (.ref b21), .unset, .unset, .unset, .unset] [(.ref b9)]))
          refine own_byW (fun tz kz => XS.astore X134.here hx rfl (hb hby at_142) rfl rfl (l' := #[.val (.long na), .second, .val (.long nb), .second, .val (.long nc), .second, .val (.long nq), .second, .val (.int fl), .val (.int (2 : Int32)), .val (.ref b4), .val (.ref b9), .val (.ref b14), .val (.ref b20), .val (.ref b21), .val (.ref b9), .unset, .unset, .unset]) rfl kz) ?_
          show own_GoW p e below s00 _ _ (T134.setTop (mkF m 144 #[.val (.long na), .second, .val (.long nb), .second, .val (.long nc), .second, .val (.long nq), .second, .val (.int fl), .val (.int (2 : Int32)), .val (.ref b4), .val (.ref b9), .val (.ref b14), .val (.ref b20), .val (.ref b21), .val (.ref b9), .unset, .unset, .unset] []))
          refine own_byW (fun tz kz => XS.iload X134.here hx rfl (hb hby at_144) rfl  kz) ?_
          show own_GoW p e below s00 _ _ (T134.setTop (mkF m 146 #[.val (.long na), .second, .val (.long nb), .second, .val (.long nc), .second, .val (.long nq), .second, .val (.int fl), .val (.int (2 : Int32)), .val (.ref b4), .val (.ref b9), .val (.ref b14), .val (.ref b20), .val (.ref b21), .val (.ref b9), .unset, .unset, .unset] [(.int (2 : Int32))]))
          refine own_byW (fun tz kz => XS.iconst X134.here hx rfl (hb hby at_146) kz) ?_
          show own_GoW p e below s00 _ _ (T134.setTop (mkF m 147 #[.val (.long na), .second, .val (.long nb), .second, .val (.long nc), .second, .val (.long nq), .second, .val (.int fl), .val (.int (2 : Int32)), .val (.ref b4), .val (.ref b9), .val (.ref b14), .val (.ref b20), .val (.ref b21), .val (.ref b9), .unset, .unset, .unset] [(.int (2 : Int32)), (.int (2 : Int32))]))
          refine own_byW (fun tz kz => XS.icmpNo X134.here hx rfl (hb hby at_147) rfl (flt (by decide : ¬ (2 : Int32) < (2 : Int32))).1 kz) ?_
          show own_GoW p e below s00 _ _ (T134.setTop (mkF m 150 #[.val (.long na), .second, .val (.long nb), .second, .val (.long nc), .second, .val (.long nq), .second, .val (.int fl), .val (.int (2 : Int32)), .val (.ref b4), .val (.ref b9), .val (.ref b14), .val (.ref b20), .val (.ref b21), .val (.ref b9), .unset, .unset, .unset] []))
          refine own_byW (fun tz kz => XS.aload X134.here hx rfl (hb hby at_150) rfl rfl kz) ?_
          show own_GoW p e below s00 _ _ (T134.setTop (mkF m 152 #[.val (.long na), .second, .val (.long nb), .second, .val (.long nc), .second, .val (.long nq), .second, .val (.int fl), .val (.int (2 : Int32)), .val (.ref b4), .val (.ref b9), .val (.ref b14), .val (.ref b20), .val (.ref b21), .val (.ref b9), .unset, .unset, .unset] [(.ref b14)]))
          refine own_byW (fun tz kz => XS.goto X134.here hx rfl (pc0 := 152) (pc' := 156) rfl (hb hby at_152) (by decide) (by decide) kz) ?_
          show own_GoW p e below s00 _ _ (T134.setTop (mkF m 156 #[.val (.long na), .second, .val (.long nb), .second, .val (.long nc), .second, .val (.long nq), .second, .val (.int fl), .val (.int (2 : Int32)), .val (.ref b4), .val (.ref b9), .val (.ref b14), .val (.ref b20), .val (.ref b21), .val (.ref b9), .unset, .unset, .unset] [(.ref b14)]))
          refine own_byW (fun tz kz => XS.astore X134.here hx rfl (hb hby at_156) rfl rfl (l' := #[.val (.long na), .second, .val (.long nb), .second, .val (.long nc), .second, .val (.long nq), .second, .val (.int fl), .val (.int (2 : Int32)), .val (.ref b4), .val (.ref b9), .val (.ref b14), .val (.ref b20), .val (.ref b21), .val (.ref b9), .val (.ref b14), .unset, .unset]) rfl kz) ?_
          show own_GoW p e below s00 _ _ (T134.setTop (mkF m 158 #[.val (.long na), .second, .val (.long nb), .second, .val (.long nc), .second, .val (.long nq), .second, .val (.int fl), .val (.int (2 : Int32)), .val (.ref b4), .val (.ref b9), .val (.ref b14), .val (.ref b20), .val (.ref b21), .val (.ref b9), .val (.ref b14), .unset, .unset] []))
          refine own_byW (fun tz kz => XS.iload X134.here hx rfl (hb hby at_158) rfl  kz) ?_
          show own_GoW p e below s00 _ _ (T134.setTop (mkF m 160 #[.val (.long na), .second, .val (.long nb), .second, .val (.long nc), .second, .val (.long nq), .second, .val (.int fl), .val (.int (2 : Int32)), .val (.ref b4), .val (.ref b9), .val (.ref b14), .val (.ref b20), .val (.ref b21), .val (.ref b9), .val (.ref b14), .unset, .unset] [(.int (2 : Int32))]))
          refine own_byW (fun tz kz => XS.iconst X134.here hx rfl (hb hby at_160) kz) ?_
          show own_GoW p e below s00 _ _ (T134.setTop (mkF m 161 #[.val (.long na), .second, .val (.long nb), .second, .val (.long nc), .second, .val (.long nq), .second, .val (.int fl), .val (.int (2 : Int32)), .val (.ref b4), .val (.ref b9), .val (.ref b14), .val (.ref b20), .val (.ref b21), .val (.ref b9), .val (.ref b14), .unset, .unset] [(.int (3 : Int32)), (.int (2 : Int32))]))
          refine own_byW (fun tz kz => XS.icmpYes X134.here hx rfl (pc0 := 161) (pc' := 169) rfl (hb hby at_161) rfl (tlt (by decide : (2 : Int32) < (3 : Int32))).1 (by decide) (by decide) kz) ?_
          show own_GoW p e below s00 _ _ (T134.setTop (mkF m 169 #[.val (.long na), .second, .val (.long nb), .second, .val (.long nc), .second, .val (.long nq), .second, .val (.int fl), .val (.int (2 : Int32)), .val (.ref b4), .val (.ref b9), .val (.ref b14), .val (.ref b20), .val (.ref b21), .val (.ref b9), .val (.ref b14), .unset, .unset] []))
          refine own_byW (fun tz kz => XS.aconstNull X134.here hx rfl (hb hby at_169) kz) ?_
          show own_GoW p e below s00 _ _ (T134.setTop (mkF m 170 #[.val (.long na), .second, .val (.long nb), .second, .val (.long nc), .second, .val (.long nq), .second, .val (.int fl), .val (.int (2 : Int32)), .val (.ref b4), .val (.ref b9), .val (.ref b14), .val (.ref b20), .val (.ref b21), .val (.ref b9), .val (.ref b14), .unset, .unset] [.null]))
          refine own_byW (fun tz kz => XS.astore X134.here hx rfl (hb hby at_170) rfl rfl (l' := #[.val (.long na), .second, .val (.long nb), .second, .val (.long nc), .second, .val (.long nq), .second, .val (.int fl), .val (.int (2 : Int32)), .val (.ref b4), .val (.ref b9), .val (.ref b14), .val (.ref b20), .val (.ref b21), .val (.ref b9), .val (.ref b14), .val .null, .unset]) rfl kz) ?_
          show own_GoW p e below s00 _ _ (T134.setTop (mkF m 172 #[.val (.long na), .second, .val (.long nb), .second, .val (.long nc), .second, .val (.long nq), .second, .val (.int fl), .val (.int (2 : Int32)), .val (.ref b4), .val (.ref b9), .val (.ref b14), .val (.ref b20), .val (.ref b21), .val (.ref b9), .val (.ref b14), .val .null, .unset] []))
          refine own_byW (fun tz kz => XS.aconstNull X134.here hx rfl (hb hby at_172) kz) ?_
          show own_GoW p e below s00 _ _ (T134.setTop (mkF m 173 #[.val (.long na), .second, .val (.long nb), .second, .val (.long nc), .second, .val (.long nq), .second, .val (.int fl), .val (.int (2 : Int32)), .val (.ref b4), .val (.ref b9), .val (.ref b14), .val (.ref b20), .val (.ref b21), .val (.ref b9), .val (.ref b14), .val .null, .unset] [.null]))
          refine own_byW (fun tz kz => XS.astore X134.here hx rfl (hb hby at_173) rfl rfl (l' := #[.val (.long na), .second, .val (.long nb), .second, .val (.long nc), .second, .val (.long nq), .second, .val (.int fl), .val (.int (2 : Int32)), .val (.ref b4), .val (.ref b9), .val (.ref b14), .val (.ref b20), .val (.ref b21), .val (.ref b9), .val (.ref b14), .val .null, .val .null]) rfl kz) ?_
          show own_GoW p e below s00 _ _ (T134.setTop (mkF m 175 #[.val (.long na), .second, .val (.long nb), .second, .val (.long nc), .second, .val (.long nq), .second, .val (.int fl), .val (.int (2 : Int32)), .val (.ref b4), .val (.ref b9), .val (.ref b14), .val (.ref b20), .val (.ref b21), .val (.ref b9), .val (.ref b14), .val .null, .val .null] []))
          refine own_byW (fun tz kz => XS.lload X134.here hx rfl (hb hby at_175) rfl kz) ?_
          show own_GoW p e below s00 _ _ (T134.setTop (mkF m 177 #[.val (.long na), .second, .val (.long nb), .second, .val (.long nc), .second, .val (.long nq), .second, .val (.int fl), .val (.int (2 : Int32)), .val (.ref b4), .val (.ref b9), .val (.ref b14), .val (.ref b20), .val (.ref b21), .val (.ref b9), .val (.ref b14), .val .null, .val .null] [(.long nq)]))
          refine own_byW (fun tz kz => XS.lloadN X134.here hx rfl (hb hby at_177) rfl kz) ?_
          show own_GoW p e below s00 _ _ (T134.setTop (mkF m 178 #[.val (.long na), .second, .val (.long nb), .second, .val (.long nc), .second, .val (.long nq), .second, .val (.int fl), .val (.int (2 : Int32)), .val (.ref b4), .val (.ref b9), .val (.ref b14), .val (.ref b20), .val (.ref b21), .val (.ref b9), .val (.ref b14), .val .null, .val .null] [(.long na), (.long nq)]))
          refine own_byW (fun tz kz => XS.lcmp X134.here hx rfl (hb hby at_178) rfl kz) ?_
          show own_GoW p e below s00 _ _ (T134.setTop (mkF m 179 #[.val (.long na), .second, .val (.long nb), .second, .val (.long nc), .second, .val (.long nq), .second, .val (.int fl), .val (.int (2 : Int32)), .val (.ref b4), .val (.ref b9), .val (.ref b14), .val (.ref b20), .val (.ref b21), .val (.ref b9), .val (.ref b14), .val .null, .val .null] [(.int (lcmpW nq na))]))
          by_cases hc179_135 : nq = na
          · refine own_byW (fun tz kz => XS.ifNo X134.here hx rfl (hb hby at_179) rfl ((if0 _ _).trans (teq ((lw_eq nq na).mpr hc179_135)).2) kz) ?_
            show own_GoW p e below s00 _ _ (T134.setTop (mkF m 182 #[.val (.long na), .second, .val (.long nb), .second, .val (.long nc), .second, .val (.long nq), .second, .val (.int fl), .val (.int (2 : Int32)), .val (.ref b4), .val (.ref b9), .val (.ref b14), .val (.ref b20), .val (.ref b21), .val (.ref b9), .val (.ref b14), .val .null, .val .null] []))
            refine own_byW (fun tz kz => XS.aload X134.here hx rfl (hb hby at_182) rfl rfl kz) ?_
            show own_GoW p e below s00 _ _ (T134.setTop (mkF m 184 #[.val (.long na), .second, .val (.long nb), .second, .val (.long nc), .second, .val (.long nq), .second, .val (.int fl), .val (.int (2 : Int32)), .val (.ref b4), .val (.ref b9), .val (.ref b14), .val (.ref b20), .val (.ref b21), .val (.ref b9), .val (.ref b14), .val .null, .val .null] [(.ref b9)]))
            refine own_byW (fun tz kz => XS.astore X134.here hx rfl (hb hby at_184) rfl rfl (l' := #[.val (.long na), .second, .val (.long nb), .second, .val (.long nc), .second, .val (.long nq), .second, .val (.int fl), .val (.int (2 : Int32)), .val (.ref b4), .val (.ref b9), .val (.ref b14), .val (.ref b20), .val (.ref b21), .val (.ref b9), .val (.ref b14), .val .null, .val (.ref b9)]) rfl kz) ?_
            show own_GoW p e below s00 _ _ (T134.setTop (mkF m 186 #[.val (.long na), .second, .val (.long nb), .second, .val (.long nc), .second, .val (.long nq), .second, .val (.int fl), .val (.int (2 : Int32)), .val (.ref b4), .val (.ref b9), .val (.ref b14), .val (.ref b20), .val (.ref b21), .val (.ref b9), .val (.ref b14), .val .null, .val (.ref b9)] []))
            refine own_byW (fun tz kz => XS.goto X134.here hx rfl (pc0 := 186) (pc' := 215) rfl (hb hby at_186) (by decide) (by decide) kz) ?_
            show own_GoW p e below s00 _ _ (T134.setTop (mkF m 215 #[.val (.long na), .second, .val (.long nb), .second, .val (.long nc), .second, .val (.long nq), .second, .val (.int fl), .val (.int (2 : Int32)), .val (.ref b4), .val (.ref b9), .val (.ref b14), .val (.ref b20), .val (.ref b21), .val (.ref b9), .val (.ref b14), .val .null, .val (.ref b9)] []))
            refine own_byW (fun tz kz => XS.aload X134.here hx rfl (hb hby at_215) rfl rfl kz) ?_
            show own_GoW p e below s00 _ _ (T134.setTop (mkF m 217 #[.val (.long na), .second, .val (.long nb), .second, .val (.long nc), .second, .val (.long nq), .second, .val (.int fl), .val (.int (2 : Int32)), .val (.ref b4), .val (.ref b9), .val (.ref b14), .val (.ref b20), .val (.ref b21), .val (.ref b9), .val (.ref b14), .val .null, .val (.ref b9)] [(.ref b21)]))
            refine own_byW (fun tz kz => XS.lloadN X134.here hx rfl (hb hby at_217) rfl kz) ?_
            show own_GoW p e below s00 _ _ (T134.setTop (mkF m 218 #[.val (.long na), .second, .val (.long nb), .second, .val (.long nc), .second, .val (.long nq), .second, .val (.int fl), .val (.int (2 : Int32)), .val (.ref b4), .val (.ref b9), .val (.ref b14), .val (.ref b20), .val (.ref b21), .val (.ref b9), .val (.ref b14), .val .null, .val (.ref b9)] [(.long na), (.ref b21)]))
            have f136 := (f132.keep Kq134 (ninS ne_b14_b21 (ninS ne_b14_ar29 nin0)))
            have f137 := ((f127.keep Kq129 (ninS ne_b9_b21 (ninS ne_b9_ar29 nin0))).keep Kq134 (ninS ne_b9_b21 (ninS ne_b9_ar29 nin0)))
            have Fi138 : own_Find (own_set (own_set own_g0 kf125 b9) kf130 b14) num na (some b9) (own_H na) := by
              have q := (Ta130).path b9 (by simp)
              rw [n1] at q; exact q
            have hn138 : ∀ (k : Nat) (y : Addr), (own_set (own_set own_g0 kf125 b9) kf130 b14) k = some y → Fld Z T134.heap y "com/example/ajenda/ajenda/core/Job" "number" "J" (.long (num y)) := by
              intro k y q0
              have q := (Ta130).all k y q0
              simp only [List.mem_cons, List.not_mem_nil, or_false] at q
              rcases q with q | q
              · rw [q]; rw [n2]; exact f136
              · rw [q]; rw [n1]; exact f137
            have f139 := (f133.keep Kq134)
            obtain ⟨cq140, kq140, q140a, q140b, q140c⟩ := isOf hZ e134 f139
            obtain ⟨_, _, ⟨T140, L140, k140, n140⟩, -, X140, ⟨Lc140, hQ140, l140, y140, z140⟩, st140⟩ := X134.virtualBack hx (y := (⟨"com/example/ajenda/ajenda/core/JobsByNumber", "get", "(J)Lcom/example/ajenda/ajenda/core/Job;"⟩ : MethodName)) (z := (⟨"com/example/ajenda/ajenda/core/JobsByNumber", "get", "(J)Lcom/example/ajenda/ajenda/core/Job;"⟩ : MethodName)) hown (mvT hZ (hw _ (List.mem_of_getElem? (i := 80) rfl))) (mvT hZ (hw _ (List.mem_of_getElem? (i := 81) rfl))) (notFace_of_selects (args := #[]) (mvT hZ (hw _ (List.mem_of_getElem? (i := 83) rfl)))) (mvT hZ (hw _ (List.mem_of_getElem? (i := 83) rfl))) (mvT hZ (hw _ (List.mem_of_getElem? (i := 82) rfl))) (by decide) (backOf (W := 0) (rm_get l Z a0 hw [] b21 ar29 kk29 (own_set (own_set own_g0 kf125 b9) kf130 b14) num na (some b9) T134.heap n0 Vq134 Fq134 hn138 Fi138) hZ (hw _ (List.mem_of_getElem? (i := 84) rfl)) (hw _ (List.mem_of_getElem? (i := 50) rfl)) (by decide) (by decide)) q140a q140c (g := (mkF m 218 #[.val (.long na), .second, .val (.long nb), .second, .val (.long nc), .second, .val (.long nq), .second, .val (.int fl), .val (.int (2 : Int32)), .val (.ref b4), .val (.ref b9), .val (.ref b14), .val (.ref b20), .val (.ref b21), .val (.ref b9), .val (.ref b14), .val .null, .val (.ref b9)] [(.long na), (.ref b21)])) rfl (by rw [hml]; rfl) (Steps.refl _) (argsL := [(.long na)]) (rest := []) (lenOf pd_7 rfl) rfl (by show 2 * 0 + _ ≤ _; exact Nat.le_of_eq rfl) (hb hby at_218) (fun _ _ => ⟨rfl, e134, (by decide : ((((((((1 + 2) + 5) + 2) + 5) + 2) + 5) + 1) + 1) + 0 ≤ _), (by decide : ((((((((8 + 4) + 29) + (8 + 4)) + 29) + (8 + 4)) + 29) + 2) + 16) + 0 ≤ _)⟩)
            dsimp only [Pt.U, Pt.locs, Pt.cells, Pt.slots] at X140 l140 y140 z140 st140 hQ140
            rw [l140, y140, z140] at X140
            obtain ⟨rfl, Nq140, e140⟩ := hQ140
            have N140 := Fr.app N134 Nq140
            refine own_viaW st140 ?_
            show own_GoW p e below s00 _ _ (T140.setTop (mkF m 221 #[.val (.long na), .second, .val (.long nb), .second, .val (.long nc), .second, .val (.long nq), .second, .val (.int fl), .val (.int (2 : Int32)), .val (.ref b4), .val (.ref b9), .val (.ref b14), .val (.ref b20), .val (.ref b21), .val (.ref b9), .val (.ref b14), .val .null, .val (.ref b9)] [(.ref b9)]))
            refine own_byW (fun tz kz => XS.aload X140.here hx rfl (hb hby at_221) rfl rfl kz) ?_
            show own_GoW p e below s00 _ _ (T140.setTop (mkF m 223 #[.val (.long na), .second, .val (.long nb), .second, .val (.long nc), .second, .val (.long nq), .second, .val (.int fl), .val (.int (2 : Int32)), .val (.ref b4), .val (.ref b9), .val (.ref b14), .val (.ref b20), .val (.ref b21), .val (.ref b9), .val (.ref b14), .val .null, .val (.ref b9)] [(.ref b9), (.ref b9)]))
            refine own_byW (fun tz kz => Jvm.RoadKit.acmp (g := (mkF m 223 #[.val (.long na), .second, .val (.long nb), .second, .val (.long nc), .second, .val (.long nq), .second, .val (.int fl), .val (.int (2 : Int32)), .val (.ref b4), .val (.ref b9), .val (.ref b14), .val (.ref b20), .val (.ref b21), .val (.ref b9), .val (.ref b14), .val .null, .val (.ref b9)] [(.ref b9), (.ref b9)])) X140 hx rfl rfl rfl (pc0 := 223) (pc' := 226) (same := true) rfl (hb hby at_223) rfl (decide_eq_true rfl) (by decide) (by decide) kz) ?_
            show own_GoW p e below s00 _ _ (T140.setTop (mkF m 226 #[.val (.long na), .second, .val (.long nb), .second, .val (.long nc), .second, .val (.long nq), .second, .val (.int fl), .val (.int (2 : Int32)), .val (.ref b4), .val (.ref b9), .val (.ref b14), .val (.ref b20), .val (.ref b21), .val (.ref b9), .val (.ref b14), .val .null, .val (.ref b9)] []))
            refine own_byW (fun tz kz => XS.aload X140.here hx rfl (hb hby at_226) rfl rfl kz) ?_
            show own_GoW p e below s00 _ _ (T140.setTop (mkF m 228 #[.val (.long na), .second, .val (.long nb), .second, .val (.long nc), .second, .val (.long nq), .second, .val (.int fl), .val (.int (2 : Int32)), .val (.ref b4), .val (.ref b9), .val (.ref b14), .val (.ref b20), .val (.ref b21), .val (.ref b9), .val (.ref b14), .val .null, .val (.ref b9)] [(.ref b21)]))
            refine own_byW (fun tz kz => XS.lloadN X140.here hx rfl (hb hby at_228) rfl kz) ?_
            show own_GoW p e below s00 _ _ (T140.setTop (mkF m 229 #[.val (.long na), .second, .val (.long nb), .second, .val (.long nc), .second, .val (.long nq), .second, .val (.int fl), .val (.int (2 : Int32)), .val (.ref b4), .val (.ref b9), .val (.ref b14), .val (.ref b20), .val (.ref b21), .val (.ref b9), .val (.ref b14), .val .null, .val (.ref b9)] [(.long nb), (.ref b21)]))
            have Fi141 : own_Find (own_set (own_set own_g0 kf125 b9) kf130 b14) num nb (some b14) (own_H nb) := by
              have q := (Ta130).path b14 (by simp)
              rw [n2] at q; exact q
            have hn141 : ∀ (k : Nat) (y : Addr), (own_set (own_set own_g0 kf125 b9) kf130 b14) k = some y → Fld Z T134.heap y "com/example/ajenda/ajenda/core/Job" "number" "J" (.long (num y)) := by
              intro k y q0
              have q := (Ta130).all k y q0
              simp only [List.mem_cons, List.not_mem_nil, or_false] at q
              rcases q with q | q
              · rw [q]; rw [n2]; exact f136
              · rw [q]; rw [n1]; exact f137
            obtain ⟨cq142, kq142, q142a, q142b, q142c⟩ := isOf hZ e140 f139
            obtain ⟨_, _, ⟨T142, L142, k142, n142⟩, -, X142, ⟨Lc142, hQ142, l142, y142, z142⟩, st142⟩ := X140.virtualBack hx (y := (⟨"com/example/ajenda/ajenda/core/JobsByNumber", "get", "(J)Lcom/example/ajenda/ajenda/core/Job;"⟩ : MethodName)) (z := (⟨"com/example/ajenda/ajenda/core/JobsByNumber", "get", "(J)Lcom/example/ajenda/ajenda/core/Job;"⟩ : MethodName)) hown (mvT hZ (hw _ (List.mem_of_getElem? (i := 80) rfl))) (mvT hZ (hw _ (List.mem_of_getElem? (i := 81) rfl))) (notFace_of_selects (args := #[]) (mvT hZ (hw _ (List.mem_of_getElem? (i := 83) rfl)))) (mvT hZ (hw _ (List.mem_of_getElem? (i := 83) rfl))) (mvT hZ (hw _ (List.mem_of_getElem? (i := 82) rfl))) (by decide) (backOf (W := 0) (rm_get l Z a0 hw [] b21 ar29 kk29 (own_set (own_set own_g0 kf125 b9) kf130 b14) num nb (some b14) T134.heap n0 Vq134 Fq134 hn141 Fi141) hZ (hw _ (List.mem_of_getElem? (i := 84) rfl)) (hw _ (List.mem_of_getElem? (i := 50) rfl)) (by decide) (by decide)) q142a q142c (g := (mkF m 229 #[.val (.long na), .second, .val (.long nb), .second, .val (.long nc), .second, .val (.long nq), .second, .val (.int fl), .val (.int (2 : Int32)), .val (.ref b4), .val (.ref b9), .val (.ref b14), .val (.ref b20), .val (.ref b21), .val (.ref b9), .val (.ref b14), .val .null, .val (.ref b9)] [(.long nb), (.ref b21)])) rfl (by rw [hml]; rfl) (Steps.refl _) (argsL := [(.long nb)]) (rest := []) (lenOf pd_7 rfl) rfl (by show 2 * 0 + _ ≤ _; exact Nat.le_of_eq rfl) (hb hby at_229) (fun _ _ => ⟨rfl, e140, (by decide : ((((((((1 + 2) + 5) + 2) + 5) + 2) + 5) + 1) + 1) + 0 ≤ _), (by decide : ((((((((8 + 4) + 29) + (8 + 4)) + 29) + (8 + 4)) + 29) + 2) + 16) + 0 ≤ _)⟩)
            dsimp only [Pt.U, Pt.locs, Pt.cells, Pt.slots] at X142 l142 y142 z142 st142 hQ142
            rw [l142, y142, z142] at X142
            obtain ⟨rfl, Nq142, e142⟩ := hQ142
            have N142 := Fr.app N140 Nq142
            refine own_viaW st142 ?_
            show own_GoW p e below s00 _ _ (T142.setTop (mkF m 232 #[.val (.long na), .second, .val (.long nb), .second, .val (.long nc), .second, .val (.long nq), .second, .val (.int fl), .val (.int (2 : Int32)), .val (.ref b4), .val (.ref b9), .val (.ref b14), .val (.ref b20), .val (.ref b21), .val (.ref b9), .val (.ref b14), .val .null, .val (.ref b9)] [(.ref b14)]))
            refine own_byW (fun tz kz => XS.aload X142.here hx rfl (hb hby at_232) rfl rfl kz) ?_
            show own_GoW p e below s00 _ _ (T142.setTop (mkF m 234 #[.val (.long na), .second, .val (.long nb), .second, .val (.long nc), .second, .val (.long nq), .second, .val (.int fl), .val (.int (2 : Int32)), .val (.ref b4), .val (.ref b9), .val (.ref b14), .val (.ref b20), .val (.ref b21), .val (.ref b9), .val (.ref b14), .val .null, .val (.ref b9)] [(.ref b14), (.ref b14)]))
            refine own_byW (fun tz kz => Jvm.RoadKit.acmp (g := (mkF m 234 #[.val (.long na), .second, .val (.long nb), .second, .val (.long nc), .second, .val (.long nq), .second, .val (.int fl), .val (.int (2 : Int32)), .val (.ref b4), .val (.ref b9), .val (.ref b14), .val (.ref b20), .val (.ref b21), .val (.ref b9), .val (.ref b14), .val .null, .val (.ref b9)] [(.ref b14), (.ref b14)])) X142 hx rfl rfl rfl (pc0 := 234) (pc' := 237) (same := true) rfl (hb hby at_234) rfl (decide_eq_true rfl) (by decide) (by decide) kz) ?_
            show own_GoW p e below s00 _ _ (T142.setTop (mkF m 237 #[.val (.long na), .second, .val (.long nb), .second, .val (.long nc), .second, .val (.long nq), .second, .val (.int fl), .val (.int (2 : Int32)), .val (.ref b4), .val (.ref b9), .val (.ref b14), .val (.ref b20), .val (.ref b21), .val (.ref b9), .val (.ref b14), .val .null, .val (.ref b9)] []))
            refine own_byW (fun tz kz => XS.aload X142.here hx rfl (hb hby at_237) rfl rfl kz) ?_
            show own_GoW p e below s00 _ _ (T142.setTop (mkF m 239 #[.val (.long na), .second, .val (.long nb), .second, .val (.long nc), .second, .val (.long nq), .second, .val (.int fl), .val (.int (2 : Int32)), .val (.ref b4), .val (.ref b9), .val (.ref b14), .val (.ref b20), .val (.ref b21), .val (.ref b9), .val (.ref b14), .val .null, .val (.ref b9)] [(.ref b21)]))
            refine own_byW (fun tz kz => XS.lload X142.here hx rfl (hb hby at_239) rfl kz) ?_
            show own_GoW p e below s00 _ _ (T142.setTop (mkF m 241 #[.val (.long na), .second, .val (.long nb), .second, .val (.long nc), .second, .val (.long nq), .second, .val (.int fl), .val (.int (2 : Int32)), .val (.ref b4), .val (.ref b9), .val (.ref b14), .val (.ref b20), .val (.ref b21), .val (.ref b9), .val (.ref b14), .val .null, .val (.ref b9)] [(.long nc), (.ref b21)]))
            have hne143 : ∀ y ∈ ([b14, b9] : List Addr), ¬ num y = nc := by
              intro y q
              simp only [List.mem_cons, List.not_mem_nil, or_false] at q
              rcases q with q | q
              · rw [q]; rw [n2]; exact hc17_3
              · rw [q]; rw [n1]; exact hc10_2
            have Fi143 : own_Find (own_set (own_set own_g0 kf125 b9) kf130 b14) num nc none (own_H nc) := by
              exact (Ta130).miss (by simp) (own_H_lt _) hne143
            have hn143 : ∀ (k : Nat) (y : Addr), (own_set (own_set own_g0 kf125 b9) kf130 b14) k = some y → Fld Z T134.heap y "com/example/ajenda/ajenda/core/Job" "number" "J" (.long (num y)) := by
              intro k y q0
              have q := (Ta130).all k y q0
              simp only [List.mem_cons, List.not_mem_nil, or_false] at q
              rcases q with q | q
              · rw [q]; rw [n2]; exact f136
              · rw [q]; rw [n1]; exact f137
            obtain ⟨cq144, kq144, q144a, q144b, q144c⟩ := isOf hZ e142 f139
            obtain ⟨_, _, ⟨T144, L144, k144, n144⟩, -, X144, ⟨Lc144, hQ144, l144, y144, z144⟩, st144⟩ := X142.virtualBack hx (y := (⟨"com/example/ajenda/ajenda/core/JobsByNumber", "get", "(J)Lcom/example/ajenda/ajenda/core/Job;"⟩ : MethodName)) (z := (⟨"com/example/ajenda/ajenda/core/JobsByNumber", "get", "(J)Lcom/example/ajenda/ajenda/core/Job;"⟩ : MethodName)) hown (mvT hZ (hw _ (List.mem_of_getElem? (i := 80) rfl))) (mvT hZ (hw _ (List.mem_of_getElem? (i := 81) rfl))) (notFace_of_selects (args := #[]) (mvT hZ (hw _ (List.mem_of_getElem? (i := 83) rfl)))) (mvT hZ (hw _ (List.mem_of_getElem? (i := 83) rfl))) (mvT hZ (hw _ (List.mem_of_getElem? (i := 82) rfl))) (by decide) (backOf (W := 0) (rm_get l Z a0 hw [] b21 ar29 kk29 (own_set (own_set own_g0 kf125 b9) kf130 b14) num nc none T134.heap n0 Vq134 Fq134 hn143 Fi143) hZ (hw _ (List.mem_of_getElem? (i := 84) rfl)) (hw _ (List.mem_of_getElem? (i := 50) rfl)) (by decide) (by decide)) q144a q144c (g := (mkF m 241 #[.val (.long na), .second, .val (.long nb), .second, .val (.long nc), .second, .val (.long nq), .second, .val (.int fl), .val (.int (2 : Int32)), .val (.ref b4), .val (.ref b9), .val (.ref b14), .val (.ref b20), .val (.ref b21), .val (.ref b9), .val (.ref b14), .val .null, .val (.ref b9)] [(.long nc), (.ref b21)])) rfl (by rw [hml]; rfl) (Steps.refl _) (argsL := [(.long nc)]) (rest := []) (lenOf pd_7 rfl) rfl (by show 2 * 0 + _ ≤ _; exact Nat.le_of_eq rfl) (hb hby at_241) (fun _ _ => ⟨rfl, e142, (by decide : ((((((((1 + 2) + 5) + 2) + 5) + 2) + 5) + 1) + 1) + 0 ≤ _), (by decide : ((((((((8 + 4) + 29) + (8 + 4)) + 29) + (8 + 4)) + 29) + 2) + 16) + 0 ≤ _)⟩)
            dsimp only [Pt.U, Pt.locs, Pt.cells, Pt.slots] at X144 l144 y144 z144 st144 hQ144
            rw [l144, y144, z144] at X144
            obtain ⟨rfl, Nq144, e144⟩ := hQ144
            have N144 := Fr.app N142 Nq144
            refine own_viaW st144 ?_
            show own_GoW p e below s00 _ _ (T144.setTop (mkF m 244 #[.val (.long na), .second, .val (.long nb), .second, .val (.long nc), .second, .val (.long nq), .second, .val (.int fl), .val (.int (2 : Int32)), .val (.ref b4), .val (.ref b9), .val (.ref b14), .val (.ref b20), .val (.ref b21), .val (.ref b9), .val (.ref b14), .val .null, .val (.ref b9)] [.null]))
            refine own_byW (fun tz kz => XS.aload X144.here hx rfl (hb hby at_244) rfl rfl kz) ?_
            show own_GoW p e below s00 _ _ (T144.setTop (mkF m 246 #[.val (.long na), .second, .val (.long nb), .second, .val (.long nc), .second, .val (.long nq), .second, .val (.int fl), .val (.int (2 : Int32)), .val (.ref b4), .val (.ref b9), .val (.ref b14), .val (.ref b20), .val (.ref b21), .val (.ref b9), .val (.ref b14), .val .null, .val (.ref b9)] [.null, .null]))
            refine own_byW (fun tz kz => Jvm.RoadKit.acmp (g := (mkF m 246 #[.val (.long na), .second, .val (.long nb), .second, .val (.long nc), .second, .val (.long nq), .second, .val (.int fl), .val (.int (2 : Int32)), .val (.ref b4), .val (.ref b9), .val (.ref b14), .val (.ref b20), .val (.ref b21), .val (.ref b9), .val (.ref b14), .val .null, .val (.ref b9)] [.null, .null])) X144 hx rfl rfl rfl (pc0 := 246) (pc' := 249) (same := true) rfl (hb hby at_246) rfl (decide_eq_true rfl) (by decide) (by decide) kz) ?_
            show own_GoW p e below s00 _ _ (T144.setTop (mkF m 249 #[.val (.long na), .second, .val (.long nb), .second, .val (.long nc), .second, .val (.long nq), .second, .val (.int fl), .val (.int (2 : Int32)), .val (.ref b4), .val (.ref b9), .val (.ref b14), .val (.ref b20), .val (.ref b21), .val (.ref b9), .val (.ref b14), .val .null, .val (.ref b9)] []))
            refine own_byW (fun tz kz => XS.aload X144.here hx rfl (hb hby at_249) rfl rfl kz) ?_
            show own_GoW p e below s00 _ _ (T144.setTop (mkF m 251 #[.val (.long na), .second, .val (.long nb), .second, .val (.long nc), .second, .val (.long nq), .second, .val (.int fl), .val (.int (2 : Int32)), .val (.ref b4), .val (.ref b9), .val (.ref b14), .val (.ref b20), .val (.ref b21), .val (.ref b9), .val (.ref b14), .val .null, .val (.ref b9)] [(.ref b21)]))
            refine own_byW (fun tz kz => XS.lload X144.here hx rfl (hb hby at_251) rfl kz) ?_
            show own_GoW p e below s00 _ _ (T144.setTop (mkF m 253 #[.val (.long na), .second, .val (.long nb), .second, .val (.long nc), .second, .val (.long nq), .second, .val (.int fl), .val (.int (2 : Int32)), .val (.ref b4), .val (.ref b9), .val (.ref b14), .val (.ref b20), .val (.ref b21), .val (.ref b9), .val (.ref b14), .val .null, .val (.ref b9)] [(.long nq), (.ref b21)]))
            have Fi145 : own_Find (own_set (own_set own_g0 kf125 b9) kf130 b14) num nq (some b9) (own_H nq) := by
              rw [hc179_135]
              have q := (Ta130).path b9 (by simp)
              rw [n1] at q; exact q
            have hn145 : ∀ (k : Nat) (y : Addr), (own_set (own_set own_g0 kf125 b9) kf130 b14) k = some y → Fld Z T134.heap y "com/example/ajenda/ajenda/core/Job" "number" "J" (.long (num y)) := by
              intro k y q0
              have q := (Ta130).all k y q0
              simp only [List.mem_cons, List.not_mem_nil, or_false] at q
              rcases q with q | q
              · rw [q]; rw [n2]; exact f136
              · rw [q]; rw [n1]; exact f137
            obtain ⟨cq146, kq146, q146a, q146b, q146c⟩ := isOf hZ e144 f139
            obtain ⟨_, _, ⟨T146, L146, k146, n146⟩, -, X146, ⟨Lc146, hQ146, l146, y146, z146⟩, st146⟩ := X144.virtualBack hx (y := (⟨"com/example/ajenda/ajenda/core/JobsByNumber", "get", "(J)Lcom/example/ajenda/ajenda/core/Job;"⟩ : MethodName)) (z := (⟨"com/example/ajenda/ajenda/core/JobsByNumber", "get", "(J)Lcom/example/ajenda/ajenda/core/Job;"⟩ : MethodName)) hown (mvT hZ (hw _ (List.mem_of_getElem? (i := 80) rfl))) (mvT hZ (hw _ (List.mem_of_getElem? (i := 81) rfl))) (notFace_of_selects (args := #[]) (mvT hZ (hw _ (List.mem_of_getElem? (i := 83) rfl)))) (mvT hZ (hw _ (List.mem_of_getElem? (i := 83) rfl))) (mvT hZ (hw _ (List.mem_of_getElem? (i := 82) rfl))) (by decide) (backOf (W := 0) (rm_get l Z a0 hw [] b21 ar29 kk29 (own_set (own_set own_g0 kf125 b9) kf130 b14) num nq (some b9) T134.heap n0 Vq134 Fq134 hn145 Fi145) hZ (hw _ (List.mem_of_getElem? (i := 84) rfl)) (hw _ (List.mem_of_getElem? (i := 50) rfl)) (by decide) (by decide)) q146a q146c (g := (mkF m 253 #[.val (.long na), .second, .val (.long nb), .second, .val (.long nc), .second, .val (.long nq), .second, .val (.int fl), .val (.int (2 : Int32)), .val (.ref b4), .val (.ref b9), .val (.ref b14), .val (.ref b20), .val (.ref b21), .val (.ref b9), .val (.ref b14), .val .null, .val (.ref b9)] [(.long nq), (.ref b21)])) rfl (by rw [hml]; rfl) (Steps.refl _) (argsL := [(.long nq)]) (rest := []) (lenOf pd_7 rfl) rfl (by show 2 * 0 + _ ≤ _; exact Nat.le_of_eq rfl) (hb hby at_253) (fun _ _ => ⟨rfl, e144, (by decide : ((((((((1 + 2) + 5) + 2) + 5) + 2) + 5) + 1) + 1) + 0 ≤ _), (by decide : ((((((((8 + 4) + 29) + (8 + 4)) + 29) + (8 + 4)) + 29) + 2) + 16) + 0 ≤ _)⟩)
            dsimp only [Pt.U, Pt.locs, Pt.cells, Pt.slots] at X146 l146 y146 z146 st146 hQ146
            rw [l146, y146, z146] at X146
            obtain ⟨rfl, Nq146, e146⟩ := hQ146
            have N146 := Fr.app N144 Nq146
            refine own_viaW st146 ?_
            show own_GoW p e below s00 _ _ (T146.setTop (mkF m 256 #[.val (.long na), .second, .val (.long nb), .second, .val (.long nc), .second, .val (.long nq), .second, .val (.int fl), .val (.int (2 : Int32)), .val (.ref b4), .val (.ref b9), .val (.ref b14), .val (.ref b20), .val (.ref b21), .val (.ref b9), .val (.ref b14), .val .null, .val (.ref b9)] [(.ref b9)]))
            refine own_byW (fun tz kz => XS.aload X146.here hx rfl (hb hby at_256) rfl rfl kz) ?_
            show own_GoW p e below s00 _ _ (T146.setTop (mkF m 258 #[.val (.long na), .second, .val (.long nb), .second, .val (.long nc), .second, .val (.long nq), .second, .val (.int fl), .val (.int (2 : Int32)), .val (.ref b4), .val (.ref b9), .val (.ref b14), .val (.ref b20), .val (.ref b21), .val (.ref b9), .val (.ref b14), .val .null, .val (.ref b9)] [(.ref b9), (.ref b9)]))
            refine own_byW (fun tz kz => Jvm.RoadKit.acmp (g := (mkF m 258 #[.val (.long na), .second, .val (.long nb), .second, .val (.long nc), .second, .val (.long nq), .second, .val (.int fl), .val (.int (2 : Int32)), .val (.ref b4), .val (.ref b9), .val (.ref b14), .val (.ref b20), .val (.ref b21), .val (.ref b9), .val (.ref b14), .val .null, .val (.ref b9)] [(.ref b9), (.ref b9)])) X146 hx rfl rfl rfl (pc0 := 258) (pc' := 261) (same := true) rfl (hb hby at_258) rfl (decide_eq_true rfl) (by decide) (by decide) kz) ?_
            show own_GoW p e below s00 _ _ (T146.setTop (mkF m 261 #[.val (.long na), .second, .val (.long nb), .second, .val (.long nc), .second, .val (.long nq), .second, .val (.int fl), .val (.int (2 : Int32)), .val (.ref b4), .val (.ref b9), .val (.ref b14), .val (.ref b20), .val (.ref b21), .val (.ref b9), .val (.ref b14), .val .null, .val (.ref b9)] []))
            refine own_byW (fun tz kz => XS.iconst X146.here hx rfl (hb hby at_261) kz) ?_
            show own_GoW p e below s00 _ _ (T146.setTop (mkF m 262 #[.val (.long na), .second, .val (.long nb), .second, .val (.long nc), .second, .val (.long nq), .second, .val (.int fl), .val (.int (2 : Int32)), .val (.ref b4), .val (.ref b9), .val (.ref b14), .val (.ref b20), .val (.ref b21), .val (.ref b9), .val (.ref b14), .val .null, .val (.ref b9)] [(.int (1 : Int32))]))
            refine own_byW (fun tz kz => XS.goto X146.here hx rfl (pc0 := 262) (pc' := 266) rfl (hb hby at_262) (by decide) (by decide) kz) ?_
            show own_GoW p e below s00 _ _ (T146.setTop (mkF m 266 #[.val (.long na), .second, .val (.long nb), .second, .val (.long nc), .second, .val (.long nq), .second, .val (.int fl), .val (.int (2 : Int32)), .val (.ref b4), .val (.ref b9), .val (.ref b14), .val (.ref b20), .val (.ref b21), .val (.ref b9), .val (.ref b14), .val .null, .val (.ref b9)] [(.int (1 : Int32))]))
            have A147 := (own_At.up (own_At.up (own_At.up (own_At.up A20 E21.1) Kq29.1) Kq129.1) Kq134.1)
            refine own_retIW X146 e146 A147 hx hlk (t := .boolean) hret (by simp) rfl (hb hby at_266) ?_ (by decide) (by decide)
            exact ⟨rfl, N146⟩
          · refine own_byW (fun tz kz => XS.ifYes X134.here hx rfl (pc0 := 179) (pc' := 189) rfl (hb hby at_179) rfl ((if0 _ _).trans (feq (fun q => hc179_135 ((lw_eq nq na).mp q))).2) (by decide) (by decide) kz) ?_
            show own_GoW p e below s00 _ _ (T134.setTop (mkF m 189 #[.val (.long na), .second, .val (.long nb), .second, .val (.long nc), .second, .val (.long nq), .second, .val (.int fl), .val (.int (2 : Int32)), .val (.ref b4), .val (.ref b9), .val (.ref b14), .val (.ref b20), .val (.ref b21), .val (.ref b9), .val (.ref b14), .val .null, .val .null] []))
            refine own_byW (fun tz kz => XS.lload X134.here hx rfl (hb hby at_189) rfl kz) ?_
            show own_GoW p e below s00 _ _ (T134.setTop (mkF m 191 #[.val (.long na), .second, .val (.long nb), .second, .val (.long nc), .second, .val (.long nq), .second, .val (.int fl), .val (.int (2 : Int32)), .val (.ref b4), .val (.ref b9), .val (.ref b14), .val (.ref b20), .val (.ref b21), .val (.ref b9), .val (.ref b14), .val .null, .val .null] [(.long nq)]))
            refine own_byW (fun tz kz => XS.lloadN X134.here hx rfl (hb hby at_191) rfl kz) ?_
            show own_GoW p e below s00 _ _ (T134.setTop (mkF m 192 #[.val (.long na), .second, .val (.long nb), .second, .val (.long nc), .second, .val (.long nq), .second, .val (.int fl), .val (.int (2 : Int32)), .val (.ref b4), .val (.ref b9), .val (.ref b14), .val (.ref b20), .val (.ref b21), .val (.ref b9), .val (.ref b14), .val .null, .val .null] [(.long nb), (.long nq)]))
            refine own_byW (fun tz kz => XS.lcmp X134.here hx rfl (hb hby at_192) rfl kz) ?_
            show own_GoW p e below s00 _ _ (T134.setTop (mkF m 193 #[.val (.long na), .second, .val (.long nb), .second, .val (.long nc), .second, .val (.long nq), .second, .val (.int fl), .val (.int (2 : Int32)), .val (.ref b4), .val (.ref b9), .val (.ref b14), .val (.ref b20), .val (.ref b21), .val (.ref b9), .val (.ref b14), .val .null, .val .null] [(.int (lcmpW nq nb))]))
            by_cases hc193_148 : nq = nb
            · refine own_byW (fun tz kz => XS.ifNo X134.here hx rfl (hb hby at_193) rfl ((if0 _ _).trans (teq ((lw_eq nq nb).mpr hc193_148)).2) kz) ?_
              show own_GoW p e below s00 _ _ (T134.setTop (mkF m 196 #[.val (.long na), .second, .val (.long nb), .second, .val (.long nc), .second, .val (.long nq), .second, .val (.int fl), .val (.int (2 : Int32)), .val (.ref b4), .val (.ref b9), .val (.ref b14), .val (.ref b20), .val (.ref b21), .val (.ref b9), .val (.ref b14), .val .null, .val .null] []))
              refine own_byW (fun tz kz => XS.aload X134.here hx rfl (hb hby at_196) rfl rfl kz) ?_
              show own_GoW p e below s00 _ _ (T134.setTop (mkF m 198 #[.val (.long na), .second, .val (.long nb), .second, .val (.long nc), .second, .val (.long nq), .second, .val (.int fl), .val (.int (2 : Int32)), .val (.ref b4), .val (.ref b9), .val (.ref b14), .val (.ref b20), .val (.ref b21), .val (.ref b9), .val (.ref b14), .val .null, .val .null] [(.ref b14)]))
              refine own_byW (fun tz kz => XS.astore X134.here hx rfl (hb hby at_198) rfl rfl (l' := #[.val (.long na), .second, .val (.long nb), .second, .val (.long nc), .second, .val (.long nq), .second, .val (.int fl), .val (.int (2 : Int32)), .val (.ref b4), .val (.ref b9), .val (.ref b14), .val (.ref b20), .val (.ref b21), .val (.ref b9), .val (.ref b14), .val .null, .val (.ref b14)]) rfl kz) ?_
              show own_GoW p e below s00 _ _ (T134.setTop (mkF m 200 #[.val (.long na), .second, .val (.long nb), .second, .val (.long nc), .second, .val (.long nq), .second, .val (.int fl), .val (.int (2 : Int32)), .val (.ref b4), .val (.ref b9), .val (.ref b14), .val (.ref b20), .val (.ref b21), .val (.ref b9), .val (.ref b14), .val .null, .val (.ref b14)] []))
              refine own_byW (fun tz kz => XS.goto X134.here hx rfl (pc0 := 200) (pc' := 215) rfl (hb hby at_200) (by decide) (by decide) kz) ?_
              show own_GoW p e below s00 _ _ (T134.setTop (mkF m 215 #[.val (.long na), .second, .val (.long nb), .second, .val (.long nc), .second, .val (.long nq), .second, .val (.int fl), .val (.int (2 : Int32)), .val (.ref b4), .val (.ref b9), .val (.ref b14), .val (.ref b20), .val (.ref b21), .val (.ref b9), .val (.ref b14), .val .null, .val (.ref b14)] []))
              refine own_byW (fun tz kz => XS.aload X134.here hx rfl (hb hby at_215) rfl rfl kz) ?_
              show own_GoW p e below s00 _ _ (T134.setTop (mkF m 217 #[.val (.long na), .second, .val (.long nb), .second, .val (.long nc), .second, .val (.long nq), .second, .val (.int fl), .val (.int (2 : Int32)), .val (.ref b4), .val (.ref b9), .val (.ref b14), .val (.ref b20), .val (.ref b21), .val (.ref b9), .val (.ref b14), .val .null, .val (.ref b14)] [(.ref b21)]))
              refine own_byW (fun tz kz => XS.lloadN X134.here hx rfl (hb hby at_217) rfl kz) ?_
              show own_GoW p e below s00 _ _ (T134.setTop (mkF m 218 #[.val (.long na), .second, .val (.long nb), .second, .val (.long nc), .second, .val (.long nq), .second, .val (.int fl), .val (.int (2 : Int32)), .val (.ref b4), .val (.ref b9), .val (.ref b14), .val (.ref b20), .val (.ref b21), .val (.ref b9), .val (.ref b14), .val .null, .val (.ref b14)] [(.long na), (.ref b21)]))
              have f149 := (f132.keep Kq134 (ninS ne_b14_b21 (ninS ne_b14_ar29 nin0)))
              have f150 := ((f127.keep Kq129 (ninS ne_b9_b21 (ninS ne_b9_ar29 nin0))).keep Kq134 (ninS ne_b9_b21 (ninS ne_b9_ar29 nin0)))
              have Fi151 : own_Find (own_set (own_set own_g0 kf125 b9) kf130 b14) num na (some b9) (own_H na) := by
                have q := (Ta130).path b9 (by simp)
                rw [n1] at q; exact q
              have hn151 : ∀ (k : Nat) (y : Addr), (own_set (own_set own_g0 kf125 b9) kf130 b14) k = some y → Fld Z T134.heap y "com/example/ajenda/ajenda/core/Job" "number" "J" (.long (num y)) := by
                intro k y q0
                have q := (Ta130).all k y q0
                simp only [List.mem_cons, List.not_mem_nil, or_false] at q
                rcases q with q | q
                · rw [q]; rw [n2]; exact f149
                · rw [q]; rw [n1]; exact f150
              have f152 := (f133.keep Kq134)
              obtain ⟨cq153, kq153, q153a, q153b, q153c⟩ := isOf hZ e134 f152
              obtain ⟨_, _, ⟨T153, L153, k153, n153⟩, -, X153, ⟨Lc153, hQ153, l153, y153, z153⟩, st153⟩ := X134.virtualBack hx (y := (⟨"com/example/ajenda/ajenda/core/JobsByNumber", "get", "(J)Lcom/example/ajenda/ajenda/core/Job;"⟩ : MethodName)) (z := (⟨"com/example/ajenda/ajenda/core/JobsByNumber", "get", "(J)Lcom/example/ajenda/ajenda/core/Job;"⟩ : MethodName)) hown (mvT hZ (hw _ (List.mem_of_getElem? (i := 80) rfl))) (mvT hZ (hw _ (List.mem_of_getElem? (i := 81) rfl))) (notFace_of_selects (args := #[]) (mvT hZ (hw _ (List.mem_of_getElem? (i := 83) rfl)))) (mvT hZ (hw _ (List.mem_of_getElem? (i := 83) rfl))) (mvT hZ (hw _ (List.mem_of_getElem? (i := 82) rfl))) (by decide) (backOf (W := 0) (rm_get l Z a0 hw [] b21 ar29 kk29 (own_set (own_set own_g0 kf125 b9) kf130 b14) num na (some b9) T134.heap n0 Vq134 Fq134 hn151 Fi151) hZ (hw _ (List.mem_of_getElem? (i := 84) rfl)) (hw _ (List.mem_of_getElem? (i := 50) rfl)) (by decide) (by decide)) q153a q153c (g := (mkF m 218 #[.val (.long na), .second, .val (.long nb), .second, .val (.long nc), .second, .val (.long nq), .second, .val (.int fl), .val (.int (2 : Int32)), .val (.ref b4), .val (.ref b9), .val (.ref b14), .val (.ref b20), .val (.ref b21), .val (.ref b9), .val (.ref b14), .val .null, .val (.ref b14)] [(.long na), (.ref b21)])) rfl (by rw [hml]; rfl) (Steps.refl _) (argsL := [(.long na)]) (rest := []) (lenOf pd_7 rfl) rfl (by show 2 * 0 + _ ≤ _; exact Nat.le_of_eq rfl) (hb hby at_218) (fun _ _ => ⟨rfl, e134, (by decide : ((((((((1 + 2) + 5) + 2) + 5) + 2) + 5) + 1) + 1) + 0 ≤ _), (by decide : ((((((((8 + 4) + 29) + (8 + 4)) + 29) + (8 + 4)) + 29) + 2) + 16) + 0 ≤ _)⟩)
              dsimp only [Pt.U, Pt.locs, Pt.cells, Pt.slots] at X153 l153 y153 z153 st153 hQ153
              rw [l153, y153, z153] at X153
              obtain ⟨rfl, Nq153, e153⟩ := hQ153
              have N153 := Fr.app N134 Nq153
              refine own_viaW st153 ?_
              show own_GoW p e below s00 _ _ (T153.setTop (mkF m 221 #[.val (.long na), .second, .val (.long nb), .second, .val (.long nc), .second, .val (.long nq), .second, .val (.int fl), .val (.int (2 : Int32)), .val (.ref b4), .val (.ref b9), .val (.ref b14), .val (.ref b20), .val (.ref b21), .val (.ref b9), .val (.ref b14), .val .null, .val (.ref b14)] [(.ref b9)]))
              refine own_byW (fun tz kz => XS.aload X153.here hx rfl (hb hby at_221) rfl rfl kz) ?_
              show own_GoW p e below s00 _ _ (T153.setTop (mkF m 223 #[.val (.long na), .second, .val (.long nb), .second, .val (.long nc), .second, .val (.long nq), .second, .val (.int fl), .val (.int (2 : Int32)), .val (.ref b4), .val (.ref b9), .val (.ref b14), .val (.ref b20), .val (.ref b21), .val (.ref b9), .val (.ref b14), .val .null, .val (.ref b14)] [(.ref b9), (.ref b9)]))
              refine own_byW (fun tz kz => Jvm.RoadKit.acmp (g := (mkF m 223 #[.val (.long na), .second, .val (.long nb), .second, .val (.long nc), .second, .val (.long nq), .second, .val (.int fl), .val (.int (2 : Int32)), .val (.ref b4), .val (.ref b9), .val (.ref b14), .val (.ref b20), .val (.ref b21), .val (.ref b9), .val (.ref b14), .val .null, .val (.ref b14)] [(.ref b9), (.ref b9)])) X153 hx rfl rfl rfl (pc0 := 223) (pc' := 226) (same := true) rfl (hb hby at_223) rfl (decide_eq_true rfl) (by decide) (by decide) kz) ?_
              show own_GoW p e below s00 _ _ (T153.setTop (mkF m 226 #[.val (.long na), .second, .val (.long nb), .second, .val (.long nc), .second, .val (.long nq), .second, .val (.int fl), .val (.int (2 : Int32)), .val (.ref b4), .val (.ref b9), .val (.ref b14), .val (.ref b20), .val (.ref b21), .val (.ref b9), .val (.ref b14), .val .null, .val (.ref b14)] []))
              refine own_byW (fun tz kz => XS.aload X153.here hx rfl (hb hby at_226) rfl rfl kz) ?_
              show own_GoW p e below s00 _ _ (T153.setTop (mkF m 228 #[.val (.long na), .second, .val (.long nb), .second, .val (.long nc), .second, .val (.long nq), .second, .val (.int fl), .val (.int (2 : Int32)), .val (.ref b4), .val (.ref b9), .val (.ref b14), .val (.ref b20), .val (.ref b21), .val (.ref b9), .val (.ref b14), .val .null, .val (.ref b14)] [(.ref b21)]))
              refine own_byW (fun tz kz => XS.lloadN X153.here hx rfl (hb hby at_228) rfl kz) ?_
              show own_GoW p e below s00 _ _ (T153.setTop (mkF m 229 #[.val (.long na), .second, .val (.long nb), .second, .val (.long nc), .second, .val (.long nq), .second, .val (.int fl), .val (.int (2 : Int32)), .val (.ref b4), .val (.ref b9), .val (.ref b14), .val (.ref b20), .val (.ref b21), .val (.ref b9), .val (.ref b14), .val .null, .val (.ref b14)] [(.long nb), (.ref b21)]))
              have Fi154 : own_Find (own_set (own_set own_g0 kf125 b9) kf130 b14) num nb (some b14) (own_H nb) := by
                have q := (Ta130).path b14 (by simp)
                rw [n2] at q; exact q
              have hn154 : ∀ (k : Nat) (y : Addr), (own_set (own_set own_g0 kf125 b9) kf130 b14) k = some y → Fld Z T134.heap y "com/example/ajenda/ajenda/core/Job" "number" "J" (.long (num y)) := by
                intro k y q0
                have q := (Ta130).all k y q0
                simp only [List.mem_cons, List.not_mem_nil, or_false] at q
                rcases q with q | q
                · rw [q]; rw [n2]; exact f149
                · rw [q]; rw [n1]; exact f150
              obtain ⟨cq155, kq155, q155a, q155b, q155c⟩ := isOf hZ e153 f152
              obtain ⟨_, _, ⟨T155, L155, k155, n155⟩, -, X155, ⟨Lc155, hQ155, l155, y155, z155⟩, st155⟩ := X153.virtualBack hx (y := (⟨"com/example/ajenda/ajenda/core/JobsByNumber", "get", "(J)Lcom/example/ajenda/ajenda/core/Job;"⟩ : MethodName)) (z := (⟨"com/example/ajenda/ajenda/core/JobsByNumber", "get", "(J)Lcom/example/ajenda/ajenda/core/Job;"⟩ : MethodName)) hown (mvT hZ (hw _ (List.mem_of_getElem? (i := 80) rfl))) (mvT hZ (hw _ (List.mem_of_getElem? (i := 81) rfl))) (notFace_of_selects (args := #[]) (mvT hZ (hw _ (List.mem_of_getElem? (i := 83) rfl)))) (mvT hZ (hw _ (List.mem_of_getElem? (i := 83) rfl))) (mvT hZ (hw _ (List.mem_of_getElem? (i := 82) rfl))) (by decide) (backOf (W := 0) (rm_get l Z a0 hw [] b21 ar29 kk29 (own_set (own_set own_g0 kf125 b9) kf130 b14) num nb (some b14) T134.heap n0 Vq134 Fq134 hn154 Fi154) hZ (hw _ (List.mem_of_getElem? (i := 84) rfl)) (hw _ (List.mem_of_getElem? (i := 50) rfl)) (by decide) (by decide)) q155a q155c (g := (mkF m 229 #[.val (.long na), .second, .val (.long nb), .second, .val (.long nc), .second, .val (.long nq), .second, .val (.int fl), .val (.int (2 : Int32)), .val (.ref b4), .val (.ref b9), .val (.ref b14), .val (.ref b20), .val (.ref b21), .val (.ref b9), .val (.ref b14), .val .null, .val (.ref b14)] [(.long nb), (.ref b21)])) rfl (by rw [hml]; rfl) (Steps.refl _) (argsL := [(.long nb)]) (rest := []) (lenOf pd_7 rfl) rfl (by show 2 * 0 + _ ≤ _; exact Nat.le_of_eq rfl) (hb hby at_229) (fun _ _ => ⟨rfl, e153, (by decide : ((((((((1 + 2) + 5) + 2) + 5) + 2) + 5) + 1) + 1) + 0 ≤ _), (by decide : ((((((((8 + 4) + 29) + (8 + 4)) + 29) + (8 + 4)) + 29) + 2) + 16) + 0 ≤ _)⟩)
              dsimp only [Pt.U, Pt.locs, Pt.cells, Pt.slots] at X155 l155 y155 z155 st155 hQ155
              rw [l155, y155, z155] at X155
              obtain ⟨rfl, Nq155, e155⟩ := hQ155
              have N155 := Fr.app N153 Nq155
              refine own_viaW st155 ?_
              show own_GoW p e below s00 _ _ (T155.setTop (mkF m 232 #[.val (.long na), .second, .val (.long nb), .second, .val (.long nc), .second, .val (.long nq), .second, .val (.int fl), .val (.int (2 : Int32)), .val (.ref b4), .val (.ref b9), .val (.ref b14), .val (.ref b20), .val (.ref b21), .val (.ref b9), .val (.ref b14), .val .null, .val (.ref b14)] [(.ref b14)]))
              refine own_byW (fun tz kz => XS.aload X155.here hx rfl (hb hby at_232) rfl rfl kz) ?_
              show own_GoW p e below s00 _ _ (T155.setTop (mkF m 234 #[.val (.long na), .second, .val (.long nb), .second, .val (.long nc), .second, .val (.long nq), .second, .val (.int fl), .val (.int (2 : Int32)), .val (.ref b4), .val (.ref b9), .val (.ref b14), .val (.ref b20), .val (.ref b21), .val (.ref b9), .val (.ref b14), .val .null, .val (.ref b14)] [(.ref b14), (.ref b14)]))
              refine own_byW (fun tz kz => Jvm.RoadKit.acmp (g := (mkF m 234 #[.val (.long na), .second, .val (.long nb), .second, .val (.long nc), .second, .val (.long nq), .second, .val (.int fl), .val (.int (2 : Int32)), .val (.ref b4), .val (.ref b9), .val (.ref b14), .val (.ref b20), .val (.ref b21), .val (.ref b9), .val (.ref b14), .val .null, .val (.ref b14)] [(.ref b14), (.ref b14)])) X155 hx rfl rfl rfl (pc0 := 234) (pc' := 237) (same := true) rfl (hb hby at_234) rfl (decide_eq_true rfl) (by decide) (by decide) kz) ?_
              show own_GoW p e below s00 _ _ (T155.setTop (mkF m 237 #[.val (.long na), .second, .val (.long nb), .second, .val (.long nc), .second, .val (.long nq), .second, .val (.int fl), .val (.int (2 : Int32)), .val (.ref b4), .val (.ref b9), .val (.ref b14), .val (.ref b20), .val (.ref b21), .val (.ref b9), .val (.ref b14), .val .null, .val (.ref b14)] []))
              refine own_byW (fun tz kz => XS.aload X155.here hx rfl (hb hby at_237) rfl rfl kz) ?_
              show own_GoW p e below s00 _ _ (T155.setTop (mkF m 239 #[.val (.long na), .second, .val (.long nb), .second, .val (.long nc), .second, .val (.long nq), .second, .val (.int fl), .val (.int (2 : Int32)), .val (.ref b4), .val (.ref b9), .val (.ref b14), .val (.ref b20), .val (.ref b21), .val (.ref b9), .val (.ref b14), .val .null, .val (.ref b14)] [(.ref b21)]))
              refine own_byW (fun tz kz => XS.lload X155.here hx rfl (hb hby at_239) rfl kz) ?_
              show own_GoW p e below s00 _ _ (T155.setTop (mkF m 241 #[.val (.long na), .second, .val (.long nb), .second, .val (.long nc), .second, .val (.long nq), .second, .val (.int fl), .val (.int (2 : Int32)), .val (.ref b4), .val (.ref b9), .val (.ref b14), .val (.ref b20), .val (.ref b21), .val (.ref b9), .val (.ref b14), .val .null, .val (.ref b14)] [(.long nc), (.ref b21)]))
              have hne156 : ∀ y ∈ ([b14, b9] : List Addr), ¬ num y = nc := by
                intro y q
                simp only [List.mem_cons, List.not_mem_nil, or_false] at q
                rcases q with q | q
                · rw [q]; rw [n2]; exact hc17_3
                · rw [q]; rw [n1]; exact hc10_2
              have Fi156 : own_Find (own_set (own_set own_g0 kf125 b9) kf130 b14) num nc none (own_H nc) := by
                exact (Ta130).miss (by simp) (own_H_lt _) hne156
              have hn156 : ∀ (k : Nat) (y : Addr), (own_set (own_set own_g0 kf125 b9) kf130 b14) k = some y → Fld Z T134.heap y "com/example/ajenda/ajenda/core/Job" "number" "J" (.long (num y)) := by
                intro k y q0
                have q := (Ta130).all k y q0
                simp only [List.mem_cons, List.not_mem_nil, or_false] at q
                rcases q with q | q
                · rw [q]; rw [n2]; exact f149
                · rw [q]; rw [n1]; exact f150
              obtain ⟨cq157, kq157, q157a, q157b, q157c⟩ := isOf hZ e155 f152
              obtain ⟨_, _, ⟨T157, L157, k157, n157⟩, -, X157, ⟨Lc157, hQ157, l157, y157, z157⟩, st157⟩ := X155.virtualBack hx (y := (⟨"com/example/ajenda/ajenda/core/JobsByNumber", "get", "(J)Lcom/example/ajenda/ajenda/core/Job;"⟩ : MethodName)) (z := (⟨"com/example/ajenda/ajenda/core/JobsByNumber", "get", "(J)Lcom/example/ajenda/ajenda/core/Job;"⟩ : MethodName)) hown (mvT hZ (hw _ (List.mem_of_getElem? (i := 80) rfl))) (mvT hZ (hw _ (List.mem_of_getElem? (i := 81) rfl))) (notFace_of_selects (args := #[]) (mvT hZ (hw _ (List.mem_of_getElem? (i := 83) rfl)))) (mvT hZ (hw _ (List.mem_of_getElem? (i := 83) rfl))) (mvT hZ (hw _ (List.mem_of_getElem? (i := 82) rfl))) (by decide) (backOf (W := 0) (rm_get l Z a0 hw [] b21 ar29 kk29 (own_set (own_set own_g0 kf125 b9) kf130 b14) num nc none T134.heap n0 Vq134 Fq134 hn156 Fi156) hZ (hw _ (List.mem_of_getElem? (i := 84) rfl)) (hw _ (List.mem_of_getElem? (i := 50) rfl)) (by decide) (by decide)) q157a q157c (g := (mkF m 241 #[.val (.long na), .second, .val (.long nb), .second, .val (.long nc), .second, .val (.long nq), .second, .val (.int fl), .val (.int (2 : Int32)), .val (.ref b4), .val (.ref b9), .val (.ref b14), .val (.ref b20), .val (.ref b21), .val (.ref b9), .val (.ref b14), .val .null, .val (.ref b14)] [(.long nc), (.ref b21)])) rfl (by rw [hml]; rfl) (Steps.refl _) (argsL := [(.long nc)]) (rest := []) (lenOf pd_7 rfl) rfl (by show 2 * 0 + _ ≤ _; exact Nat.le_of_eq rfl) (hb hby at_241) (fun _ _ => ⟨rfl, e155, (by decide : ((((((((1 + 2) + 5) + 2) + 5) + 2) + 5) + 1) + 1) + 0 ≤ _), (by decide : ((((((((8 + 4) + 29) + (8 + 4)) + 29) + (8 + 4)) + 29) + 2) + 16) + 0 ≤ _)⟩)
              dsimp only [Pt.U, Pt.locs, Pt.cells, Pt.slots] at X157 l157 y157 z157 st157 hQ157
              rw [l157, y157, z157] at X157
              obtain ⟨rfl, Nq157, e157⟩ := hQ157
              have N157 := Fr.app N155 Nq157
              refine own_viaW st157 ?_
              show own_GoW p e below s00 _ _ (T157.setTop (mkF m 244 #[.val (.long na), .second, .val (.long nb), .second, .val (.long nc), .second, .val (.long nq), .second, .val (.int fl), .val (.int (2 : Int32)), .val (.ref b4), .val (.ref b9), .val (.ref b14), .val (.ref b20), .val (.ref b21), .val (.ref b9), .val (.ref b14), .val .null, .val (.ref b14)] [.null]))
              refine own_byW (fun tz kz => XS.aload X157.here hx rfl (hb hby at_244) rfl rfl kz) ?_
              show own_GoW p e below s00 _ _ (T157.setTop (mkF m 246 #[.val (.long na), .second, .val (.long nb), .second, .val (.long nc), .second, .val (.long nq), .second, .val (.int fl), .val (.int (2 : Int32)), .val (.ref b4), .val (.ref b9), .val (.ref b14), .val (.ref b20), .val (.ref b21), .val (.ref b9), .val (.ref b14), .val .null, .val (.ref b14)] [.null, .null]))
              refine own_byW (fun tz kz => Jvm.RoadKit.acmp (g := (mkF m 246 #[.val (.long na), .second, .val (.long nb), .second, .val (.long nc), .second, .val (.long nq), .second, .val (.int fl), .val (.int (2 : Int32)), .val (.ref b4), .val (.ref b9), .val (.ref b14), .val (.ref b20), .val (.ref b21), .val (.ref b9), .val (.ref b14), .val .null, .val (.ref b14)] [.null, .null])) X157 hx rfl rfl rfl (pc0 := 246) (pc' := 249) (same := true) rfl (hb hby at_246) rfl (decide_eq_true rfl) (by decide) (by decide) kz) ?_
              show own_GoW p e below s00 _ _ (T157.setTop (mkF m 249 #[.val (.long na), .second, .val (.long nb), .second, .val (.long nc), .second, .val (.long nq), .second, .val (.int fl), .val (.int (2 : Int32)), .val (.ref b4), .val (.ref b9), .val (.ref b14), .val (.ref b20), .val (.ref b21), .val (.ref b9), .val (.ref b14), .val .null, .val (.ref b14)] []))
              refine own_byW (fun tz kz => XS.aload X157.here hx rfl (hb hby at_249) rfl rfl kz) ?_
              show own_GoW p e below s00 _ _ (T157.setTop (mkF m 251 #[.val (.long na), .second, .val (.long nb), .second, .val (.long nc), .second, .val (.long nq), .second, .val (.int fl), .val (.int (2 : Int32)), .val (.ref b4), .val (.ref b9), .val (.ref b14), .val (.ref b20), .val (.ref b21), .val (.ref b9), .val (.ref b14), .val .null, .val (.ref b14)] [(.ref b21)]))
              refine own_byW (fun tz kz => XS.lload X157.here hx rfl (hb hby at_251) rfl kz) ?_
              show own_GoW p e below s00 _ _ (T157.setTop (mkF m 253 #[.val (.long na), .second, .val (.long nb), .second, .val (.long nc), .second, .val (.long nq), .second, .val (.int fl), .val (.int (2 : Int32)), .val (.ref b4), .val (.ref b9), .val (.ref b14), .val (.ref b20), .val (.ref b21), .val (.ref b9), .val (.ref b14), .val .null, .val (.ref b14)] [(.long nq), (.ref b21)]))
              have Fi158 : own_Find (own_set (own_set own_g0 kf125 b9) kf130 b14) num nq (some b14) (own_H nq) := by
                rw [hc193_148]
                have q := (Ta130).path b14 (by simp)
                rw [n2] at q; exact q
              have hn158 : ∀ (k : Nat) (y : Addr), (own_set (own_set own_g0 kf125 b9) kf130 b14) k = some y → Fld Z T134.heap y "com/example/ajenda/ajenda/core/Job" "number" "J" (.long (num y)) := by
                intro k y q0
                have q := (Ta130).all k y q0
                simp only [List.mem_cons, List.not_mem_nil, or_false] at q
                rcases q with q | q
                · rw [q]; rw [n2]; exact f149
                · rw [q]; rw [n1]; exact f150
              obtain ⟨cq159, kq159, q159a, q159b, q159c⟩ := isOf hZ e157 f152
              obtain ⟨_, _, ⟨T159, L159, k159, n159⟩, -, X159, ⟨Lc159, hQ159, l159, y159, z159⟩, st159⟩ := X157.virtualBack hx (y := (⟨"com/example/ajenda/ajenda/core/JobsByNumber", "get", "(J)Lcom/example/ajenda/ajenda/core/Job;"⟩ : MethodName)) (z := (⟨"com/example/ajenda/ajenda/core/JobsByNumber", "get", "(J)Lcom/example/ajenda/ajenda/core/Job;"⟩ : MethodName)) hown (mvT hZ (hw _ (List.mem_of_getElem? (i := 80) rfl))) (mvT hZ (hw _ (List.mem_of_getElem? (i := 81) rfl))) (notFace_of_selects (args := #[]) (mvT hZ (hw _ (List.mem_of_getElem? (i := 83) rfl)))) (mvT hZ (hw _ (List.mem_of_getElem? (i := 83) rfl))) (mvT hZ (hw _ (List.mem_of_getElem? (i := 82) rfl))) (by decide) (backOf (W := 0) (rm_get l Z a0 hw [] b21 ar29 kk29 (own_set (own_set own_g0 kf125 b9) kf130 b14) num nq (some b14) T134.heap n0 Vq134 Fq134 hn158 Fi158) hZ (hw _ (List.mem_of_getElem? (i := 84) rfl)) (hw _ (List.mem_of_getElem? (i := 50) rfl)) (by decide) (by decide)) q159a q159c (g := (mkF m 253 #[.val (.long na), .second, .val (.long nb), .second, .val (.long nc), .second, .val (.long nq), .second, .val (.int fl), .val (.int (2 : Int32)), .val (.ref b4), .val (.ref b9), .val (.ref b14), .val (.ref b20), .val (.ref b21), .val (.ref b9), .val (.ref b14), .val .null, .val (.ref b14)] [(.long nq), (.ref b21)])) rfl (by rw [hml]; rfl) (Steps.refl _) (argsL := [(.long nq)]) (rest := []) (lenOf pd_7 rfl) rfl (by show 2 * 0 + _ ≤ _; exact Nat.le_of_eq rfl) (hb hby at_253) (fun _ _ => ⟨rfl, e157, (by decide : ((((((((1 + 2) + 5) + 2) + 5) + 2) + 5) + 1) + 1) + 0 ≤ _), (by decide : ((((((((8 + 4) + 29) + (8 + 4)) + 29) + (8 + 4)) + 29) + 2) + 16) + 0 ≤ _)⟩)
              dsimp only [Pt.U, Pt.locs, Pt.cells, Pt.slots] at X159 l159 y159 z159 st159 hQ159
              rw [l159, y159, z159] at X159
              obtain ⟨rfl, Nq159, e159⟩ := hQ159
              have N159 := Fr.app N157 Nq159
              refine own_viaW st159 ?_
              show own_GoW p e below s00 _ _ (T159.setTop (mkF m 256 #[.val (.long na), .second, .val (.long nb), .second, .val (.long nc), .second, .val (.long nq), .second, .val (.int fl), .val (.int (2 : Int32)), .val (.ref b4), .val (.ref b9), .val (.ref b14), .val (.ref b20), .val (.ref b21), .val (.ref b9), .val (.ref b14), .val .null, .val (.ref b14)] [(.ref b14)]))
              refine own_byW (fun tz kz => XS.aload X159.here hx rfl (hb hby at_256) rfl rfl kz) ?_
              show own_GoW p e below s00 _ _ (T159.setTop (mkF m 258 #[.val (.long na), .second, .val (.long nb), .second, .val (.long nc), .second, .val (.long nq), .second, .val (.int fl), .val (.int (2 : Int32)), .val (.ref b4), .val (.ref b9), .val (.ref b14), .val (.ref b20), .val (.ref b21), .val (.ref b9), .val (.ref b14), .val .null, .val (.ref b14)] [(.ref b14), (.ref b14)]))
              refine own_byW (fun tz kz => Jvm.RoadKit.acmp (g := (mkF m 258 #[.val (.long na), .second, .val (.long nb), .second, .val (.long nc), .second, .val (.long nq), .second, .val (.int fl), .val (.int (2 : Int32)), .val (.ref b4), .val (.ref b9), .val (.ref b14), .val (.ref b20), .val (.ref b21), .val (.ref b9), .val (.ref b14), .val .null, .val (.ref b14)] [(.ref b14), (.ref b14)])) X159 hx rfl rfl rfl (pc0 := 258) (pc' := 261) (same := true) rfl (hb hby at_258) rfl (decide_eq_true rfl) (by decide) (by decide) kz) ?_
              show own_GoW p e below s00 _ _ (T159.setTop (mkF m 261 #[.val (.long na), .second, .val (.long nb), .second, .val (.long nc), .second, .val (.long nq), .second, .val (.int fl), .val (.int (2 : Int32)), .val (.ref b4), .val (.ref b9), .val (.ref b14), .val (.ref b20), .val (.ref b21), .val (.ref b9), .val (.ref b14), .val .null, .val (.ref b14)] []))
              refine own_byW (fun tz kz => XS.iconst X159.here hx rfl (hb hby at_261) kz) ?_
              show own_GoW p e below s00 _ _ (T159.setTop (mkF m 262 #[.val (.long na), .second, .val (.long nb), .second, .val (.long nc), .second, .val (.long nq), .second, .val (.int fl), .val (.int (2 : Int32)), .val (.ref b4), .val (.ref b9), .val (.ref b14), .val (.ref b20), .val (.ref b21), .val (.ref b9), .val (.ref b14), .val .null, .val (.ref b14)] [(.int (1 : Int32))]))
              refine own_byW (fun tz kz => XS.goto X159.here hx rfl (pc0 := 262) (pc' := 266) rfl (hb hby at_262) (by decide) (by decide) kz) ?_
              show own_GoW p e below s00 _ _ (T159.setTop (mkF m 266 #[.val (.long na), .second, .val (.long nb), .second, .val (.long nc), .second, .val (.long nq), .second, .val (.int fl), .val (.int (2 : Int32)), .val (.ref b4), .val (.ref b9), .val (.ref b14), .val (.ref b20), .val (.ref b21), .val (.ref b9), .val (.ref b14), .val .null, .val (.ref b14)] [(.int (1 : Int32))]))
              have A160 := (own_At.up (own_At.up (own_At.up (own_At.up A20 E21.1) Kq29.1) Kq129.1) Kq134.1)
              refine own_retIW X159 e159 A160 hx hlk (t := .boolean) hret (by simp) rfl (hb hby at_266) ?_ (by decide) (by decide)
              exact ⟨rfl, N159⟩
            · refine own_byW (fun tz kz => XS.ifYes X134.here hx rfl (pc0 := 193) (pc' := 203) rfl (hb hby at_193) rfl ((if0 _ _).trans (feq (fun q => hc193_148 ((lw_eq nq nb).mp q))).2) (by decide) (by decide) kz) ?_
              show own_GoW p e below s00 _ _ (T134.setTop (mkF m 203 #[.val (.long na), .second, .val (.long nb), .second, .val (.long nc), .second, .val (.long nq), .second, .val (.int fl), .val (.int (2 : Int32)), .val (.ref b4), .val (.ref b9), .val (.ref b14), .val (.ref b20), .val (.ref b21), .val (.ref b9), .val (.ref b14), .val .null, .val .null] []))
              refine own_byW (fun tz kz => XS.lload X134.here hx rfl (hb hby at_203) rfl kz) ?_
              show own_GoW p e below s00 _ _ (T134.setTop (mkF m 205 #[.val (.long na), .second, .val (.long nb), .second, .val (.long nc), .second, .val (.long nq), .second, .val (.int fl), .val (.int (2 : Int32)), .val (.ref b4), .val (.ref b9), .val (.ref b14), .val (.ref b20), .val (.ref b21), .val (.ref b9), .val (.ref b14), .val .null, .val .null] [(.long nq)]))
              refine own_byW (fun tz kz => XS.lload X134.here hx rfl (hb hby at_205) rfl kz) ?_
              show own_GoW p e below s00 _ _ (T134.setTop (mkF m 207 #[.val (.long na), .second, .val (.long nb), .second, .val (.long nc), .second, .val (.long nq), .second, .val (.int fl), .val (.int (2 : Int32)), .val (.ref b4), .val (.ref b9), .val (.ref b14), .val (.ref b20), .val (.ref b21), .val (.ref b9), .val (.ref b14), .val .null, .val .null] [(.long nc), (.long nq)]))
              refine own_byW (fun tz kz => XS.lcmp X134.here hx rfl (hb hby at_207) rfl kz) ?_
              show own_GoW p e below s00 _ _ (T134.setTop (mkF m 208 #[.val (.long na), .second, .val (.long nb), .second, .val (.long nc), .second, .val (.long nq), .second, .val (.int fl), .val (.int (2 : Int32)), .val (.ref b4), .val (.ref b9), .val (.ref b14), .val (.ref b20), .val (.ref b21), .val (.ref b9), .val (.ref b14), .val .null, .val .null] [(.int (lcmpW nq nc))]))
              by_cases hc208_161 : nq = nc
              · refine own_byW (fun tz kz => XS.ifNo X134.here hx rfl (hb hby at_208) rfl ((if0 _ _).trans (teq ((lw_eq nq nc).mpr hc208_161)).2) kz) ?_
                show own_GoW p e below s00 _ _ (T134.setTop (mkF m 211 #[.val (.long na), .second, .val (.long nb), .second, .val (.long nc), .second, .val (.long nq), .second, .val (.int fl), .val (.int (2 : Int32)), .val (.ref b4), .val (.ref b9), .val (.ref b14), .val (.ref b20), .val (.ref b21), .val (.ref b9), .val (.ref b14), .val .null, .val .null] []))
                refine own_byW (fun tz kz => XS.aload X134.here hx rfl (hb hby at_211) rfl rfl kz) ?_
                show own_GoW p e below s00 _ _ (T134.setTop (mkF m 213 #[.val (.long na), .second, .val (.long nb), .second, .val (.long nc), .second, .val (.long nq), .second, .val (.int fl), .val (.int (2 : Int32)), .val (.ref b4), .val (.ref b9), .val (.ref b14), .val (.ref b20), .val (.ref b21), .val (.ref b9), .val (.ref b14), .val .null, .val .null] [.null]))
                refine own_byW (fun tz kz => XS.astore X134.here hx rfl (hb hby at_213) rfl rfl (l' := #[.val (.long na), .second, .val (.long nb), .second, .val (.long nc), .second, .val (.long nq), .second, .val (.int fl), .val (.int (2 : Int32)), .val (.ref b4), .val (.ref b9), .val (.ref b14), .val (.ref b20), .val (.ref b21), .val (.ref b9), .val (.ref b14), .val .null, .val .null]) rfl kz) ?_
                show own_GoW p e below s00 _ _ (T134.setTop (mkF m 215 #[.val (.long na), .second, .val (.long nb), .second, .val (.long nc), .second, .val (.long nq), .second, .val (.int fl), .val (.int (2 : Int32)), .val (.ref b4), .val (.ref b9), .val (.ref b14), .val (.ref b20), .val (.ref b21), .val (.ref b9), .val (.ref b14), .val .null, .val .null] []))
                refine own_byW (fun tz kz => XS.aload X134.here hx rfl (hb hby at_215) rfl rfl kz) ?_
                show own_GoW p e below s00 _ _ (T134.setTop (mkF m 217 #[.val (.long na), .second, .val (.long nb), .second, .val (.long nc), .second, .val (.long nq), .second, .val (.int fl), .val (.int (2 : Int32)), .val (.ref b4), .val (.ref b9), .val (.ref b14), .val (.ref b20), .val (.ref b21), .val (.ref b9), .val (.ref b14), .val .null, .val .null] [(.ref b21)]))
                refine own_byW (fun tz kz => XS.lloadN X134.here hx rfl (hb hby at_217) rfl kz) ?_
                show own_GoW p e below s00 _ _ (T134.setTop (mkF m 218 #[.val (.long na), .second, .val (.long nb), .second, .val (.long nc), .second, .val (.long nq), .second, .val (.int fl), .val (.int (2 : Int32)), .val (.ref b4), .val (.ref b9), .val (.ref b14), .val (.ref b20), .val (.ref b21), .val (.ref b9), .val (.ref b14), .val .null, .val .null] [(.long na), (.ref b21)]))
                have f162 := (f132.keep Kq134 (ninS ne_b14_b21 (ninS ne_b14_ar29 nin0)))
                have f163 := ((f127.keep Kq129 (ninS ne_b9_b21 (ninS ne_b9_ar29 nin0))).keep Kq134 (ninS ne_b9_b21 (ninS ne_b9_ar29 nin0)))
                have Fi164 : own_Find (own_set (own_set own_g0 kf125 b9) kf130 b14) num na (some b9) (own_H na) := by
                  have q := (Ta130).path b9 (by simp)
                  rw [n1] at q; exact q
                have hn164 : ∀ (k : Nat) (y : Addr), (own_set (own_set own_g0 kf125 b9) kf130 b14) k = some y → Fld Z T134.heap y "com/example/ajenda/ajenda/core/Job" "number" "J" (.long (num y)) := by
                  intro k y q0
                  have q := (Ta130).all k y q0
                  simp only [List.mem_cons, List.not_mem_nil, or_false] at q
                  rcases q with q | q
                  · rw [q]; rw [n2]; exact f162
                  · rw [q]; rw [n1]; exact f163
                have f165 := (f133.keep Kq134)
                obtain ⟨cq166, kq166, q166a, q166b, q166c⟩ := isOf hZ e134 f165
                obtain ⟨_, _, ⟨T166, L166, k166, n166⟩, -, X166, ⟨Lc166, hQ166, l166, y166, z166⟩, st166⟩ := X134.virtualBack hx (y := (⟨"com/example/ajenda/ajenda/core/JobsByNumber", "get", "(J)Lcom/example/ajenda/ajenda/core/Job;"⟩ : MethodName)) (z := (⟨"com/example/ajenda/ajenda/core/JobsByNumber", "get", "(J)Lcom/example/ajenda/ajenda/core/Job;"⟩ : MethodName)) hown (mvT hZ (hw _ (List.mem_of_getElem? (i := 80) rfl))) (mvT hZ (hw _ (List.mem_of_getElem? (i := 81) rfl))) (notFace_of_selects (args := #[]) (mvT hZ (hw _ (List.mem_of_getElem? (i := 83) rfl)))) (mvT hZ (hw _ (List.mem_of_getElem? (i := 83) rfl))) (mvT hZ (hw _ (List.mem_of_getElem? (i := 82) rfl))) (by decide) (backOf (W := 0) (rm_get l Z a0 hw [] b21 ar29 kk29 (own_set (own_set own_g0 kf125 b9) kf130 b14) num na (some b9) T134.heap n0 Vq134 Fq134 hn164 Fi164) hZ (hw _ (List.mem_of_getElem? (i := 84) rfl)) (hw _ (List.mem_of_getElem? (i := 50) rfl)) (by decide) (by decide)) q166a q166c (g := (mkF m 218 #[.val (.long na), .second, .val (.long nb), .second, .val (.long nc), .second, .val (.long nq), .second, .val (.int fl), .val (.int (2 : Int32)), .val (.ref b4), .val (.ref b9), .val (.ref b14), .val (.ref b20), .val (.ref b21), .val (.ref b9), .val (.ref b14), .val .null, .val .null] [(.long na), (.ref b21)])) rfl (by rw [hml]; rfl) (Steps.refl _) (argsL := [(.long na)]) (rest := []) (lenOf pd_7 rfl) rfl (by show 2 * 0 + _ ≤ _; exact Nat.le_of_eq rfl) (hb hby at_218) (fun _ _ => ⟨rfl, e134, (by decide : ((((((((1 + 2) + 5) + 2) + 5) + 2) + 5) + 1) + 1) + 0 ≤ _), (by decide : ((((((((8 + 4) + 29) + (8 + 4)) + 29) + (8 + 4)) + 29) + 2) + 16) + 0 ≤ _)⟩)
                dsimp only [Pt.U, Pt.locs, Pt.cells, Pt.slots] at X166 l166 y166 z166 st166 hQ166
                rw [l166, y166, z166] at X166
                obtain ⟨rfl, Nq166, e166⟩ := hQ166
                have N166 := Fr.app N134 Nq166
                refine own_viaW st166 ?_
                show own_GoW p e below s00 _ _ (T166.setTop (mkF m 221 #[.val (.long na), .second, .val (.long nb), .second, .val (.long nc), .second, .val (.long nq), .second, .val (.int fl), .val (.int (2 : Int32)), .val (.ref b4), .val (.ref b9), .val (.ref b14), .val (.ref b20), .val (.ref b21), .val (.ref b9), .val (.ref b14), .val .null, .val .null] [(.ref b9)]))
                refine own_byW (fun tz kz => XS.aload X166.here hx rfl (hb hby at_221) rfl rfl kz) ?_
                show own_GoW p e below s00 _ _ (T166.setTop (mkF m 223 #[.val (.long na), .second, .val (.long nb), .second, .val (.long nc), .second, .val (.long nq), .second, .val (.int fl), .val (.int (2 : Int32)), .val (.ref b4), .val (.ref b9), .val (.ref b14), .val (.ref b20), .val (.ref b21), .val (.ref b9), .val (.ref b14), .val .null, .val .null] [(.ref b9), (.ref b9)]))
                refine own_byW (fun tz kz => Jvm.RoadKit.acmp (g := (mkF m 223 #[.val (.long na), .second, .val (.long nb), .second, .val (.long nc), .second, .val (.long nq), .second, .val (.int fl), .val (.int (2 : Int32)), .val (.ref b4), .val (.ref b9), .val (.ref b14), .val (.ref b20), .val (.ref b21), .val (.ref b9), .val (.ref b14), .val .null, .val .null] [(.ref b9), (.ref b9)])) X166 hx rfl rfl rfl (pc0 := 223) (pc' := 226) (same := true) rfl (hb hby at_223) rfl (decide_eq_true rfl) (by decide) (by decide) kz) ?_
                show own_GoW p e below s00 _ _ (T166.setTop (mkF m 226 #[.val (.long na), .second, .val (.long nb), .second, .val (.long nc), .second, .val (.long nq), .second, .val (.int fl), .val (.int (2 : Int32)), .val (.ref b4), .val (.ref b9), .val (.ref b14), .val (.ref b20), .val (.ref b21), .val (.ref b9), .val (.ref b14), .val .null, .val .null] []))
                refine own_byW (fun tz kz => XS.aload X166.here hx rfl (hb hby at_226) rfl rfl kz) ?_
                show own_GoW p e below s00 _ _ (T166.setTop (mkF m 228 #[.val (.long na), .second, .val (.long nb), .second, .val (.long nc), .second, .val (.long nq), .second, .val (.int fl), .val (.int (2 : Int32)), .val (.ref b4), .val (.ref b9), .val (.ref b14), .val (.ref b20), .val (.ref b21), .val (.ref b9), .val (.ref b14), .val .null, .val .null] [(.ref b21)]))
                refine own_byW (fun tz kz => XS.lloadN X166.here hx rfl (hb hby at_228) rfl kz) ?_
                show own_GoW p e below s00 _ _ (T166.setTop (mkF m 229 #[.val (.long na), .second, .val (.long nb), .second, .val (.long nc), .second, .val (.long nq), .second, .val (.int fl), .val (.int (2 : Int32)), .val (.ref b4), .val (.ref b9), .val (.ref b14), .val (.ref b20), .val (.ref b21), .val (.ref b9), .val (.ref b14), .val .null, .val .null] [(.long nb), (.ref b21)]))
                have Fi167 : own_Find (own_set (own_set own_g0 kf125 b9) kf130 b14) num nb (some b14) (own_H nb) := by
                  have q := (Ta130).path b14 (by simp)
                  rw [n2] at q; exact q
                have hn167 : ∀ (k : Nat) (y : Addr), (own_set (own_set own_g0 kf125 b9) kf130 b14) k = some y → Fld Z T134.heap y "com/example/ajenda/ajenda/core/Job" "number" "J" (.long (num y)) := by
                  intro k y q0
                  have q := (Ta130).all k y q0
                  simp only [List.mem_cons, List.not_mem_nil, or_false] at q
                  rcases q with q | q
                  · rw [q]; rw [n2]; exact f162
                  · rw [q]; rw [n1]; exact f163
                obtain ⟨cq168, kq168, q168a, q168b, q168c⟩ := isOf hZ e166 f165
                obtain ⟨_, _, ⟨T168, L168, k168, n168⟩, -, X168, ⟨Lc168, hQ168, l168, y168, z168⟩, st168⟩ := X166.virtualBack hx (y := (⟨"com/example/ajenda/ajenda/core/JobsByNumber", "get", "(J)Lcom/example/ajenda/ajenda/core/Job;"⟩ : MethodName)) (z := (⟨"com/example/ajenda/ajenda/core/JobsByNumber", "get", "(J)Lcom/example/ajenda/ajenda/core/Job;"⟩ : MethodName)) hown (mvT hZ (hw _ (List.mem_of_getElem? (i := 80) rfl))) (mvT hZ (hw _ (List.mem_of_getElem? (i := 81) rfl))) (notFace_of_selects (args := #[]) (mvT hZ (hw _ (List.mem_of_getElem? (i := 83) rfl)))) (mvT hZ (hw _ (List.mem_of_getElem? (i := 83) rfl))) (mvT hZ (hw _ (List.mem_of_getElem? (i := 82) rfl))) (by decide) (backOf (W := 0) (rm_get l Z a0 hw [] b21 ar29 kk29 (own_set (own_set own_g0 kf125 b9) kf130 b14) num nb (some b14) T134.heap n0 Vq134 Fq134 hn167 Fi167) hZ (hw _ (List.mem_of_getElem? (i := 84) rfl)) (hw _ (List.mem_of_getElem? (i := 50) rfl)) (by decide) (by decide)) q168a q168c (g := (mkF m 229 #[.val (.long na), .second, .val (.long nb), .second, .val (.long nc), .second, .val (.long nq), .second, .val (.int fl), .val (.int (2 : Int32)), .val (.ref b4), .val (.ref b9), .val (.ref b14), .val (.ref b20), .val (.ref b21), .val (.ref b9), .val (.ref b14), .val .null, .val .null] [(.long nb), (.ref b21)])) rfl (by rw [hml]; rfl) (Steps.refl _) (argsL := [(.long nb)]) (rest := []) (lenOf pd_7 rfl) rfl (by show 2 * 0 + _ ≤ _; exact Nat.le_of_eq rfl) (hb hby at_229) (fun _ _ => ⟨rfl, e166, (by decide : ((((((((1 + 2) + 5) + 2) + 5) + 2) + 5) + 1) + 1) + 0 ≤ _), (by decide : ((((((((8 + 4) + 29) + (8 + 4)) + 29) + (8 + 4)) + 29) + 2) + 16) + 0 ≤ _)⟩)
                dsimp only [Pt.U, Pt.locs, Pt.cells, Pt.slots] at X168 l168 y168 z168 st168 hQ168
                rw [l168, y168, z168] at X168
                obtain ⟨rfl, Nq168, e168⟩ := hQ168
                have N168 := Fr.app N166 Nq168
                refine own_viaW st168 ?_
                show own_GoW p e below s00 _ _ (T168.setTop (mkF m 232 #[.val (.long na), .second, .val (.long nb), .second, .val (.long nc), .second, .val (.long nq), .second, .val (.int fl), .val (.int (2 : Int32)), .val (.ref b4), .val (.ref b9), .val (.ref b14), .val (.ref b20), .val (.ref b21), .val (.ref b9), .val (.ref b14), .val .null, .val .null] [(.ref b14)]))
                refine own_byW (fun tz kz => XS.aload X168.here hx rfl (hb hby at_232) rfl rfl kz) ?_
                show own_GoW p e below s00 _ _ (T168.setTop (mkF m 234 #[.val (.long na), .second, .val (.long nb), .second, .val (.long nc), .second, .val (.long nq), .second, .val (.int fl), .val (.int (2 : Int32)), .val (.ref b4), .val (.ref b9), .val (.ref b14), .val (.ref b20), .val (.ref b21), .val (.ref b9), .val (.ref b14), .val .null, .val .null] [(.ref b14), (.ref b14)]))
                refine own_byW (fun tz kz => Jvm.RoadKit.acmp (g := (mkF m 234 #[.val (.long na), .second, .val (.long nb), .second, .val (.long nc), .second, .val (.long nq), .second, .val (.int fl), .val (.int (2 : Int32)), .val (.ref b4), .val (.ref b9), .val (.ref b14), .val (.ref b20), .val (.ref b21), .val (.ref b9), .val (.ref b14), .val .null, .val .null] [(.ref b14), (.ref b14)])) X168 hx rfl rfl rfl (pc0 := 234) (pc' := 237) (same := true) rfl (hb hby at_234) rfl (decide_eq_true rfl) (by decide) (by decide) kz) ?_
                show own_GoW p e below s00 _ _ (T168.setTop (mkF m 237 #[.val (.long na), .second, .val (.long nb), .second, .val (.long nc), .second, .val (.long nq), .second, .val (.int fl), .val (.int (2 : Int32)), .val (.ref b4), .val (.ref b9), .val (.ref b14), .val (.ref b20), .val (.ref b21), .val (.ref b9), .val (.ref b14), .val .null, .val .null] []))
                refine own_byW (fun tz kz => XS.aload X168.here hx rfl (hb hby at_237) rfl rfl kz) ?_
                show own_GoW p e below s00 _ _ (T168.setTop (mkF m 239 #[.val (.long na), .second, .val (.long nb), .second, .val (.long nc), .second, .val (.long nq), .second, .val (.int fl), .val (.int (2 : Int32)), .val (.ref b4), .val (.ref b9), .val (.ref b14), .val (.ref b20), .val (.ref b21), .val (.ref b9), .val (.ref b14), .val .null, .val .null] [(.ref b21)]))
                refine own_byW (fun tz kz => XS.lload X168.here hx rfl (hb hby at_239) rfl kz) ?_
                show own_GoW p e below s00 _ _ (T168.setTop (mkF m 241 #[.val (.long na), .second, .val (.long nb), .second, .val (.long nc), .second, .val (.long nq), .second, .val (.int fl), .val (.int (2 : Int32)), .val (.ref b4), .val (.ref b9), .val (.ref b14), .val (.ref b20), .val (.ref b21), .val (.ref b9), .val (.ref b14), .val .null, .val .null] [(.long nc), (.ref b21)]))
                have hne169 : ∀ y ∈ ([b14, b9] : List Addr), ¬ num y = nc := by
                  intro y q
                  simp only [List.mem_cons, List.not_mem_nil, or_false] at q
                  rcases q with q | q
                  · rw [q]; rw [n2]; exact hc17_3
                  · rw [q]; rw [n1]; exact hc10_2
                have Fi169 : own_Find (own_set (own_set own_g0 kf125 b9) kf130 b14) num nc none (own_H nc) := by
                  exact (Ta130).miss (by simp) (own_H_lt _) hne169
                have hn169 : ∀ (k : Nat) (y : Addr), (own_set (own_set own_g0 kf125 b9) kf130 b14) k = some y → Fld Z T134.heap y "com/example/ajenda/ajenda/core/Job" "number" "J" (.long (num y)) := by
                  intro k y q0
                  have q := (Ta130).all k y q0
                  simp only [List.mem_cons, List.not_mem_nil, or_false] at q
                  rcases q with q | q
                  · rw [q]; rw [n2]; exact f162
                  · rw [q]; rw [n1]; exact f163
                obtain ⟨cq170, kq170, q170a, q170b, q170c⟩ := isOf hZ e168 f165
                obtain ⟨_, _, ⟨T170, L170, k170, n170⟩, -, X170, ⟨Lc170, hQ170, l170, y170, z170⟩, st170⟩ := X168.virtualBack hx (y := (⟨"com/example/ajenda/ajenda/core/JobsByNumber", "get", "(J)Lcom/example/ajenda/ajenda/core/Job;"⟩ : MethodName)) (z := (⟨"com/example/ajenda/ajenda/core/JobsByNumber", "get", "(J)Lcom/example/ajenda/ajenda/core/Job;"⟩ : MethodName)) hown (mvT hZ (hw _ (List.mem_of_getElem? (i := 80) rfl))) (mvT hZ (hw _ (List.mem_of_getElem? (i := 81) rfl))) (notFace_of_selects (args := #[]) (mvT hZ (hw _ (List.mem_of_getElem? (i := 83) rfl)))) (mvT hZ (hw _ (List.mem_of_getElem? (i := 83) rfl))) (mvT hZ (hw _ (List.mem_of_getElem? (i := 82) rfl))) (by decide) (backOf (W := 0) (rm_get l Z a0 hw [] b21 ar29 kk29 (own_set (own_set own_g0 kf125 b9) kf130 b14) num nc none T134.heap n0 Vq134 Fq134 hn169 Fi169) hZ (hw _ (List.mem_of_getElem? (i := 84) rfl)) (hw _ (List.mem_of_getElem? (i := 50) rfl)) (by decide) (by decide)) q170a q170c (g := (mkF m 241 #[.val (.long na), .second, .val (.long nb), .second, .val (.long nc), .second, .val (.long nq), .second, .val (.int fl), .val (.int (2 : Int32)), .val (.ref b4), .val (.ref b9), .val (.ref b14), .val (.ref b20), .val (.ref b21), .val (.ref b9), .val (.ref b14), .val .null, .val .null] [(.long nc), (.ref b21)])) rfl (by rw [hml]; rfl) (Steps.refl _) (argsL := [(.long nc)]) (rest := []) (lenOf pd_7 rfl) rfl (by show 2 * 0 + _ ≤ _; exact Nat.le_of_eq rfl) (hb hby at_241) (fun _ _ => ⟨rfl, e168, (by decide : ((((((((1 + 2) + 5) + 2) + 5) + 2) + 5) + 1) + 1) + 0 ≤ _), (by decide : ((((((((8 + 4) + 29) + (8 + 4)) + 29) + (8 + 4)) + 29) + 2) + 16) + 0 ≤ _)⟩)
                dsimp only [Pt.U, Pt.locs, Pt.cells, Pt.slots] at X170 l170 y170 z170 st170 hQ170
                rw [l170, y170, z170] at X170
                obtain ⟨rfl, Nq170, e170⟩ := hQ170
                have N170 := Fr.app N168 Nq170
                refine own_viaW st170 ?_
                show own_GoW p e below s00 _ _ (T170.setTop (mkF m 244 #[.val (.long na), .second, .val (.long nb), .second, .val (.long nc), .second, .val (.long nq), .second, .val (.int fl), .val (.int (2 : Int32)), .val (.ref b4), .val (.ref b9), .val (.ref b14), .val (.ref b20), .val (.ref b21), .val (.ref b9), .val (.ref b14), .val .null, .val .null] [.null]))
                refine own_byW (fun tz kz => XS.aload X170.here hx rfl (hb hby at_244) rfl rfl kz) ?_
                show own_GoW p e below s00 _ _ (T170.setTop (mkF m 246 #[.val (.long na), .second, .val (.long nb), .second, .val (.long nc), .second, .val (.long nq), .second, .val (.int fl), .val (.int (2 : Int32)), .val (.ref b4), .val (.ref b9), .val (.ref b14), .val (.ref b20), .val (.ref b21), .val (.ref b9), .val (.ref b14), .val .null, .val .null] [.null, .null]))
                refine own_byW (fun tz kz => Jvm.RoadKit.acmp (g := (mkF m 246 #[.val (.long na), .second, .val (.long nb), .second, .val (.long nc), .second, .val (.long nq), .second, .val (.int fl), .val (.int (2 : Int32)), .val (.ref b4), .val (.ref b9), .val (.ref b14), .val (.ref b20), .val (.ref b21), .val (.ref b9), .val (.ref b14), .val .null, .val .null] [.null, .null])) X170 hx rfl rfl rfl (pc0 := 246) (pc' := 249) (same := true) rfl (hb hby at_246) rfl (decide_eq_true rfl) (by decide) (by decide) kz) ?_
                show own_GoW p e below s00 _ _ (T170.setTop (mkF m 249 #[.val (.long na), .second, .val (.long nb), .second, .val (.long nc), .second, .val (.long nq), .second, .val (.int fl), .val (.int (2 : Int32)), .val (.ref b4), .val (.ref b9), .val (.ref b14), .val (.ref b20), .val (.ref b21), .val (.ref b9), .val (.ref b14), .val .null, .val .null] []))
                refine own_byW (fun tz kz => XS.aload X170.here hx rfl (hb hby at_249) rfl rfl kz) ?_
                show own_GoW p e below s00 _ _ (T170.setTop (mkF m 251 #[.val (.long na), .second, .val (.long nb), .second, .val (.long nc), .second, .val (.long nq), .second, .val (.int fl), .val (.int (2 : Int32)), .val (.ref b4), .val (.ref b9), .val (.ref b14), .val (.ref b20), .val (.ref b21), .val (.ref b9), .val (.ref b14), .val .null, .val .null] [(.ref b21)]))
                refine own_byW (fun tz kz => XS.lload X170.here hx rfl (hb hby at_251) rfl kz) ?_
                show own_GoW p e below s00 _ _ (T170.setTop (mkF m 253 #[.val (.long na), .second, .val (.long nb), .second, .val (.long nc), .second, .val (.long nq), .second, .val (.int fl), .val (.int (2 : Int32)), .val (.ref b4), .val (.ref b9), .val (.ref b14), .val (.ref b20), .val (.ref b21), .val (.ref b9), .val (.ref b14), .val .null, .val .null] [(.long nq), (.ref b21)]))
                have hne171 : ∀ y ∈ ([b14, b9] : List Addr), ¬ num y = nc := by
                  intro y q
                  simp only [List.mem_cons, List.not_mem_nil, or_false] at q
                  rcases q with q | q
                  · rw [q]; rw [n2]; exact hc17_3
                  · rw [q]; rw [n1]; exact hc10_2
                have Fi171 : own_Find (own_set (own_set own_g0 kf125 b9) kf130 b14) num nq none (own_H nq) := by
                  rw [hc208_161]
                  exact (Ta130).miss (by simp) (own_H_lt _) hne171
                have hn171 : ∀ (k : Nat) (y : Addr), (own_set (own_set own_g0 kf125 b9) kf130 b14) k = some y → Fld Z T134.heap y "com/example/ajenda/ajenda/core/Job" "number" "J" (.long (num y)) := by
                  intro k y q0
                  have q := (Ta130).all k y q0
                  simp only [List.mem_cons, List.not_mem_nil, or_false] at q
                  rcases q with q | q
                  · rw [q]; rw [n2]; exact f162
                  · rw [q]; rw [n1]; exact f163
                obtain ⟨cq172, kq172, q172a, q172b, q172c⟩ := isOf hZ e170 f165
                obtain ⟨_, _, ⟨T172, L172, k172, n172⟩, -, X172, ⟨Lc172, hQ172, l172, y172, z172⟩, st172⟩ := X170.virtualBack hx (y := (⟨"com/example/ajenda/ajenda/core/JobsByNumber", "get", "(J)Lcom/example/ajenda/ajenda/core/Job;"⟩ : MethodName)) (z := (⟨"com/example/ajenda/ajenda/core/JobsByNumber", "get", "(J)Lcom/example/ajenda/ajenda/core/Job;"⟩ : MethodName)) hown (mvT hZ (hw _ (List.mem_of_getElem? (i := 80) rfl))) (mvT hZ (hw _ (List.mem_of_getElem? (i := 81) rfl))) (notFace_of_selects (args := #[]) (mvT hZ (hw _ (List.mem_of_getElem? (i := 83) rfl)))) (mvT hZ (hw _ (List.mem_of_getElem? (i := 83) rfl))) (mvT hZ (hw _ (List.mem_of_getElem? (i := 82) rfl))) (by decide) (backOf (W := 0) (rm_get l Z a0 hw [] b21 ar29 kk29 (own_set (own_set own_g0 kf125 b9) kf130 b14) num nq none T134.heap n0 Vq134 Fq134 hn171 Fi171) hZ (hw _ (List.mem_of_getElem? (i := 84) rfl)) (hw _ (List.mem_of_getElem? (i := 50) rfl)) (by decide) (by decide)) q172a q172c (g := (mkF m 253 #[.val (.long na), .second, .val (.long nb), .second, .val (.long nc), .second, .val (.long nq), .second, .val (.int fl), .val (.int (2 : Int32)), .val (.ref b4), .val (.ref b9), .val (.ref b14), .val (.ref b20), .val (.ref b21), .val (.ref b9), .val (.ref b14), .val .null, .val .null] [(.long nq), (.ref b21)])) rfl (by rw [hml]; rfl) (Steps.refl _) (argsL := [(.long nq)]) (rest := []) (lenOf pd_7 rfl) rfl (by show 2 * 0 + _ ≤ _; exact Nat.le_of_eq rfl) (hb hby at_253) (fun _ _ => ⟨rfl, e170, (by decide : ((((((((1 + 2) + 5) + 2) + 5) + 2) + 5) + 1) + 1) + 0 ≤ _), (by decide : ((((((((8 + 4) + 29) + (8 + 4)) + 29) + (8 + 4)) + 29) + 2) + 16) + 0 ≤ _)⟩)
                dsimp only [Pt.U, Pt.locs, Pt.cells, Pt.slots] at X172 l172 y172 z172 st172 hQ172
                rw [l172, y172, z172] at X172
                obtain ⟨rfl, Nq172, e172⟩ := hQ172
                have N172 := Fr.app N170 Nq172
                refine own_viaW st172 ?_
                show own_GoW p e below s00 _ _ (T172.setTop (mkF m 256 #[.val (.long na), .second, .val (.long nb), .second, .val (.long nc), .second, .val (.long nq), .second, .val (.int fl), .val (.int (2 : Int32)), .val (.ref b4), .val (.ref b9), .val (.ref b14), .val (.ref b20), .val (.ref b21), .val (.ref b9), .val (.ref b14), .val .null, .val .null] [.null]))
                refine own_byW (fun tz kz => XS.aload X172.here hx rfl (hb hby at_256) rfl rfl kz) ?_
                show own_GoW p e below s00 _ _ (T172.setTop (mkF m 258 #[.val (.long na), .second, .val (.long nb), .second, .val (.long nc), .second, .val (.long nq), .second, .val (.int fl), .val (.int (2 : Int32)), .val (.ref b4), .val (.ref b9), .val (.ref b14), .val (.ref b20), .val (.ref b21), .val (.ref b9), .val (.ref b14), .val .null, .val .null] [.null, .null]))
                refine own_byW (fun tz kz => Jvm.RoadKit.acmp (g := (mkF m 258 #[.val (.long na), .second, .val (.long nb), .second, .val (.long nc), .second, .val (.long nq), .second, .val (.int fl), .val (.int (2 : Int32)), .val (.ref b4), .val (.ref b9), .val (.ref b14), .val (.ref b20), .val (.ref b21), .val (.ref b9), .val (.ref b14), .val .null, .val .null] [.null, .null])) X172 hx rfl rfl rfl (pc0 := 258) (pc' := 261) (same := true) rfl (hb hby at_258) rfl (decide_eq_true rfl) (by decide) (by decide) kz) ?_
                show own_GoW p e below s00 _ _ (T172.setTop (mkF m 261 #[.val (.long na), .second, .val (.long nb), .second, .val (.long nc), .second, .val (.long nq), .second, .val (.int fl), .val (.int (2 : Int32)), .val (.ref b4), .val (.ref b9), .val (.ref b14), .val (.ref b20), .val (.ref b21), .val (.ref b9), .val (.ref b14), .val .null, .val .null] []))
                refine own_byW (fun tz kz => XS.iconst X172.here hx rfl (hb hby at_261) kz) ?_
                show own_GoW p e below s00 _ _ (T172.setTop (mkF m 262 #[.val (.long na), .second, .val (.long nb), .second, .val (.long nc), .second, .val (.long nq), .second, .val (.int fl), .val (.int (2 : Int32)), .val (.ref b4), .val (.ref b9), .val (.ref b14), .val (.ref b20), .val (.ref b21), .val (.ref b9), .val (.ref b14), .val .null, .val .null] [(.int (1 : Int32))]))
                refine own_byW (fun tz kz => XS.goto X172.here hx rfl (pc0 := 262) (pc' := 266) rfl (hb hby at_262) (by decide) (by decide) kz) ?_
                show own_GoW p e below s00 _ _ (T172.setTop (mkF m 266 #[.val (.long na), .second, .val (.long nb), .second, .val (.long nc), .second, .val (.long nq), .second, .val (.int fl), .val (.int (2 : Int32)), .val (.ref b4), .val (.ref b9), .val (.ref b14), .val (.ref b20), .val (.ref b21), .val (.ref b9), .val (.ref b14), .val .null, .val .null] [(.int (1 : Int32))]))
                have A173 := (own_At.up (own_At.up (own_At.up (own_At.up A20 E21.1) Kq29.1) Kq129.1) Kq134.1)
                refine own_retIW X172 e172 A173 hx hlk (t := .boolean) hret (by simp) rfl (hb hby at_266) ?_ (by decide) (by decide)
                exact ⟨rfl, N172⟩
              · refine own_byW (fun tz kz => XS.ifYes X134.here hx rfl (pc0 := 208) (pc' := 215) rfl (hb hby at_208) rfl ((if0 _ _).trans (feq (fun q => hc208_161 ((lw_eq nq nc).mp q))).2) (by decide) (by decide) kz) ?_
                show own_GoW p e below s00 _ _ (T134.setTop (mkF m 215 #[.val (.long na), .second, .val (.long nb), .second, .val (.long nc), .second, .val (.long nq), .second, .val (.int fl), .val (.int (2 : Int32)), .val (.ref b4), .val (.ref b9), .val (.ref b14), .val (.ref b20), .val (.ref b21), .val (.ref b9), .val (.ref b14), .val .null, .val .null] []))
                refine own_byW (fun tz kz => XS.aload X134.here hx rfl (hb hby at_215) rfl rfl kz) ?_
                show own_GoW p e below s00 _ _ (T134.setTop (mkF m 217 #[.val (.long na), .second, .val (.long nb), .second, .val (.long nc), .second, .val (.long nq), .second, .val (.int fl), .val (.int (2 : Int32)), .val (.ref b4), .val (.ref b9), .val (.ref b14), .val (.ref b20), .val (.ref b21), .val (.ref b9), .val (.ref b14), .val .null, .val .null] [(.ref b21)]))
                refine own_byW (fun tz kz => XS.lloadN X134.here hx rfl (hb hby at_217) rfl kz) ?_
                show own_GoW p e below s00 _ _ (T134.setTop (mkF m 218 #[.val (.long na), .second, .val (.long nb), .second, .val (.long nc), .second, .val (.long nq), .second, .val (.int fl), .val (.int (2 : Int32)), .val (.ref b4), .val (.ref b9), .val (.ref b14), .val (.ref b20), .val (.ref b21), .val (.ref b9), .val (.ref b14), .val .null, .val .null] [(.long na), (.ref b21)]))
                have f174 := (f132.keep Kq134 (ninS ne_b14_b21 (ninS ne_b14_ar29 nin0)))
                have f175 := ((f127.keep Kq129 (ninS ne_b9_b21 (ninS ne_b9_ar29 nin0))).keep Kq134 (ninS ne_b9_b21 (ninS ne_b9_ar29 nin0)))
                have Fi176 : own_Find (own_set (own_set own_g0 kf125 b9) kf130 b14) num na (some b9) (own_H na) := by
                  have q := (Ta130).path b9 (by simp)
                  rw [n1] at q; exact q
                have hn176 : ∀ (k : Nat) (y : Addr), (own_set (own_set own_g0 kf125 b9) kf130 b14) k = some y → Fld Z T134.heap y "com/example/ajenda/ajenda/core/Job" "number" "J" (.long (num y)) := by
                  intro k y q0
                  have q := (Ta130).all k y q0
                  simp only [List.mem_cons, List.not_mem_nil, or_false] at q
                  rcases q with q | q
                  · rw [q]; rw [n2]; exact f174
                  · rw [q]; rw [n1]; exact f175
                have f177 := (f133.keep Kq134)
                obtain ⟨cq178, kq178, q178a, q178b, q178c⟩ := isOf hZ e134 f177
                obtain ⟨_, _, ⟨T178, L178, k178, n178⟩, -, X178, ⟨Lc178, hQ178, l178, y178, z178⟩, st178⟩ := X134.virtualBack hx (y := (⟨"com/example/ajenda/ajenda/core/JobsByNumber", "get", "(J)Lcom/example/ajenda/ajenda/core/Job;"⟩ : MethodName)) (z := (⟨"com/example/ajenda/ajenda/core/JobsByNumber", "get", "(J)Lcom/example/ajenda/ajenda/core/Job;"⟩ : MethodName)) hown (mvT hZ (hw _ (List.mem_of_getElem? (i := 80) rfl))) (mvT hZ (hw _ (List.mem_of_getElem? (i := 81) rfl))) (notFace_of_selects (args := #[]) (mvT hZ (hw _ (List.mem_of_getElem? (i := 83) rfl)))) (mvT hZ (hw _ (List.mem_of_getElem? (i := 83) rfl))) (mvT hZ (hw _ (List.mem_of_getElem? (i := 82) rfl))) (by decide) (backOf (W := 0) (rm_get l Z a0 hw [] b21 ar29 kk29 (own_set (own_set own_g0 kf125 b9) kf130 b14) num na (some b9) T134.heap n0 Vq134 Fq134 hn176 Fi176) hZ (hw _ (List.mem_of_getElem? (i := 84) rfl)) (hw _ (List.mem_of_getElem? (i := 50) rfl)) (by decide) (by decide)) q178a q178c (g := (mkF m 218 #[.val (.long na), .second, .val (.long nb), .second, .val (.long nc), .second, .val (.long nq), .second, .val (.int fl), .val (.int (2 : Int32)), .val (.ref b4), .val (.ref b9), .val (.ref b14), .val (.ref b20), .val (.ref b21), .val (.ref b9), .val (.ref b14), .val .null, .val .null] [(.long na), (.ref b21)])) rfl (by rw [hml]; rfl) (Steps.refl _) (argsL := [(.long na)]) (rest := []) (lenOf pd_7 rfl) rfl (by show 2 * 0 + _ ≤ _; exact Nat.le_of_eq rfl) (hb hby at_218) (fun _ _ => ⟨rfl, e134, (by decide : ((((((((1 + 2) + 5) + 2) + 5) + 2) + 5) + 1) + 1) + 0 ≤ _), (by decide : ((((((((8 + 4) + 29) + (8 + 4)) + 29) + (8 + 4)) + 29) + 2) + 16) + 0 ≤ _)⟩)
                dsimp only [Pt.U, Pt.locs, Pt.cells, Pt.slots] at X178 l178 y178 z178 st178 hQ178
                rw [l178, y178, z178] at X178
                obtain ⟨rfl, Nq178, e178⟩ := hQ178
                have N178 := Fr.app N134 Nq178
                refine own_viaW st178 ?_
                show own_GoW p e below s00 _ _ (T178.setTop (mkF m 221 #[.val (.long na), .second, .val (.long nb), .second, .val (.long nc), .second, .val (.long nq), .second, .val (.int fl), .val (.int (2 : Int32)), .val (.ref b4), .val (.ref b9), .val (.ref b14), .val (.ref b20), .val (.ref b21), .val (.ref b9), .val (.ref b14), .val .null, .val .null] [(.ref b9)]))
                refine own_byW (fun tz kz => XS.aload X178.here hx rfl (hb hby at_221) rfl rfl kz) ?_
                show own_GoW p e below s00 _ _ (T178.setTop (mkF m 223 #[.val (.long na), .second, .val (.long nb), .second, .val (.long nc), .second, .val (.long nq), .second, .val (.int fl), .val (.int (2 : Int32)), .val (.ref b4), .val (.ref b9), .val (.ref b14), .val (.ref b20), .val (.ref b21), .val (.ref b9), .val (.ref b14), .val .null, .val .null] [(.ref b9), (.ref b9)]))
                refine own_byW (fun tz kz => Jvm.RoadKit.acmp (g := (mkF m 223 #[.val (.long na), .second, .val (.long nb), .second, .val (.long nc), .second, .val (.long nq), .second, .val (.int fl), .val (.int (2 : Int32)), .val (.ref b4), .val (.ref b9), .val (.ref b14), .val (.ref b20), .val (.ref b21), .val (.ref b9), .val (.ref b14), .val .null, .val .null] [(.ref b9), (.ref b9)])) X178 hx rfl rfl rfl (pc0 := 223) (pc' := 226) (same := true) rfl (hb hby at_223) rfl (decide_eq_true rfl) (by decide) (by decide) kz) ?_
                show own_GoW p e below s00 _ _ (T178.setTop (mkF m 226 #[.val (.long na), .second, .val (.long nb), .second, .val (.long nc), .second, .val (.long nq), .second, .val (.int fl), .val (.int (2 : Int32)), .val (.ref b4), .val (.ref b9), .val (.ref b14), .val (.ref b20), .val (.ref b21), .val (.ref b9), .val (.ref b14), .val .null, .val .null] []))
                refine own_byW (fun tz kz => XS.aload X178.here hx rfl (hb hby at_226) rfl rfl kz) ?_
                show own_GoW p e below s00 _ _ (T178.setTop (mkF m 228 #[.val (.long na), .second, .val (.long nb), .second, .val (.long nc), .second, .val (.long nq), .second, .val (.int fl), .val (.int (2 : Int32)), .val (.ref b4), .val (.ref b9), .val (.ref b14), .val (.ref b20), .val (.ref b21), .val (.ref b9), .val (.ref b14), .val .null, .val .null] [(.ref b21)]))
                refine own_byW (fun tz kz => XS.lloadN X178.here hx rfl (hb hby at_228) rfl kz) ?_
                show own_GoW p e below s00 _ _ (T178.setTop (mkF m 229 #[.val (.long na), .second, .val (.long nb), .second, .val (.long nc), .second, .val (.long nq), .second, .val (.int fl), .val (.int (2 : Int32)), .val (.ref b4), .val (.ref b9), .val (.ref b14), .val (.ref b20), .val (.ref b21), .val (.ref b9), .val (.ref b14), .val .null, .val .null] [(.long nb), (.ref b21)]))
                have Fi179 : own_Find (own_set (own_set own_g0 kf125 b9) kf130 b14) num nb (some b14) (own_H nb) := by
                  have q := (Ta130).path b14 (by simp)
                  rw [n2] at q; exact q
                have hn179 : ∀ (k : Nat) (y : Addr), (own_set (own_set own_g0 kf125 b9) kf130 b14) k = some y → Fld Z T134.heap y "com/example/ajenda/ajenda/core/Job" "number" "J" (.long (num y)) := by
                  intro k y q0
                  have q := (Ta130).all k y q0
                  simp only [List.mem_cons, List.not_mem_nil, or_false] at q
                  rcases q with q | q
                  · rw [q]; rw [n2]; exact f174
                  · rw [q]; rw [n1]; exact f175
                obtain ⟨cq180, kq180, q180a, q180b, q180c⟩ := isOf hZ e178 f177
                obtain ⟨_, _, ⟨T180, L180, k180, n180⟩, -, X180, ⟨Lc180, hQ180, l180, y180, z180⟩, st180⟩ := X178.virtualBack hx (y := (⟨"com/example/ajenda/ajenda/core/JobsByNumber", "get", "(J)Lcom/example/ajenda/ajenda/core/Job;"⟩ : MethodName)) (z := (⟨"com/example/ajenda/ajenda/core/JobsByNumber", "get", "(J)Lcom/example/ajenda/ajenda/core/Job;"⟩ : MethodName)) hown (mvT hZ (hw _ (List.mem_of_getElem? (i := 80) rfl))) (mvT hZ (hw _ (List.mem_of_getElem? (i := 81) rfl))) (notFace_of_selects (args := #[]) (mvT hZ (hw _ (List.mem_of_getElem? (i := 83) rfl)))) (mvT hZ (hw _ (List.mem_of_getElem? (i := 83) rfl))) (mvT hZ (hw _ (List.mem_of_getElem? (i := 82) rfl))) (by decide) (backOf (W := 0) (rm_get l Z a0 hw [] b21 ar29 kk29 (own_set (own_set own_g0 kf125 b9) kf130 b14) num nb (some b14) T134.heap n0 Vq134 Fq134 hn179 Fi179) hZ (hw _ (List.mem_of_getElem? (i := 84) rfl)) (hw _ (List.mem_of_getElem? (i := 50) rfl)) (by decide) (by decide)) q180a q180c (g := (mkF m 229 #[.val (.long na), .second, .val (.long nb), .second, .val (.long nc), .second, .val (.long nq), .second, .val (.int fl), .val (.int (2 : Int32)), .val (.ref b4), .val (.ref b9), .val (.ref b14), .val (.ref b20), .val (.ref b21), .val (.ref b9), .val (.ref b14), .val .null, .val .null] [(.long nb), (.ref b21)])) rfl (by rw [hml]; rfl) (Steps.refl _) (argsL := [(.long nb)]) (rest := []) (lenOf pd_7 rfl) rfl (by show 2 * 0 + _ ≤ _; exact Nat.le_of_eq rfl) (hb hby at_229) (fun _ _ => ⟨rfl, e178, (by decide : ((((((((1 + 2) + 5) + 2) + 5) + 2) + 5) + 1) + 1) + 0 ≤ _), (by decide : ((((((((8 + 4) + 29) + (8 + 4)) + 29) + (8 + 4)) + 29) + 2) + 16) + 0 ≤ _)⟩)
                dsimp only [Pt.U, Pt.locs, Pt.cells, Pt.slots] at X180 l180 y180 z180 st180 hQ180
                rw [l180, y180, z180] at X180
                obtain ⟨rfl, Nq180, e180⟩ := hQ180
                have N180 := Fr.app N178 Nq180
                refine own_viaW st180 ?_
                show own_GoW p e below s00 _ _ (T180.setTop (mkF m 232 #[.val (.long na), .second, .val (.long nb), .second, .val (.long nc), .second, .val (.long nq), .second, .val (.int fl), .val (.int (2 : Int32)), .val (.ref b4), .val (.ref b9), .val (.ref b14), .val (.ref b20), .val (.ref b21), .val (.ref b9), .val (.ref b14), .val .null, .val .null] [(.ref b14)]))
                refine own_byW (fun tz kz => XS.aload X180.here hx rfl (hb hby at_232) rfl rfl kz) ?_
                show own_GoW p e below s00 _ _ (T180.setTop (mkF m 234 #[.val (.long na), .second, .val (.long nb), .second, .val (.long nc), .second, .val (.long nq), .second, .val (.int fl), .val (.int (2 : Int32)), .val (.ref b4), .val (.ref b9), .val (.ref b14), .val (.ref b20), .val (.ref b21), .val (.ref b9), .val (.ref b14), .val .null, .val .null] [(.ref b14), (.ref b14)]))
                refine own_byW (fun tz kz => Jvm.RoadKit.acmp (g := (mkF m 234 #[.val (.long na), .second, .val (.long nb), .second, .val (.long nc), .second, .val (.long nq), .second, .val (.int fl), .val (.int (2 : Int32)), .val (.ref b4), .val (.ref b9), .val (.ref b14), .val (.ref b20), .val (.ref b21), .val (.ref b9), .val (.ref b14), .val .null, .val .null] [(.ref b14), (.ref b14)])) X180 hx rfl rfl rfl (pc0 := 234) (pc' := 237) (same := true) rfl (hb hby at_234) rfl (decide_eq_true rfl) (by decide) (by decide) kz) ?_
                show own_GoW p e below s00 _ _ (T180.setTop (mkF m 237 #[.val (.long na), .second, .val (.long nb), .second, .val (.long nc), .second, .val (.long nq), .second, .val (.int fl), .val (.int (2 : Int32)), .val (.ref b4), .val (.ref b9), .val (.ref b14), .val (.ref b20), .val (.ref b21), .val (.ref b9), .val (.ref b14), .val .null, .val .null] []))
                refine own_byW (fun tz kz => XS.aload X180.here hx rfl (hb hby at_237) rfl rfl kz) ?_
                show own_GoW p e below s00 _ _ (T180.setTop (mkF m 239 #[.val (.long na), .second, .val (.long nb), .second, .val (.long nc), .second, .val (.long nq), .second, .val (.int fl), .val (.int (2 : Int32)), .val (.ref b4), .val (.ref b9), .val (.ref b14), .val (.ref b20), .val (.ref b21), .val (.ref b9), .val (.ref b14), .val .null, .val .null] [(.ref b21)]))
                refine own_byW (fun tz kz => XS.lload X180.here hx rfl (hb hby at_239) rfl kz) ?_
                show own_GoW p e below s00 _ _ (T180.setTop (mkF m 241 #[.val (.long na), .second, .val (.long nb), .second, .val (.long nc), .second, .val (.long nq), .second, .val (.int fl), .val (.int (2 : Int32)), .val (.ref b4), .val (.ref b9), .val (.ref b14), .val (.ref b20), .val (.ref b21), .val (.ref b9), .val (.ref b14), .val .null, .val .null] [(.long nc), (.ref b21)]))
                have hne181 : ∀ y ∈ ([b14, b9] : List Addr), ¬ num y = nc := by
                  intro y q
                  simp only [List.mem_cons, List.not_mem_nil, or_false] at q
                  rcases q with q | q
                  · rw [q]; rw [n2]; exact hc17_3
                  · rw [q]; rw [n1]; exact hc10_2
                have Fi181 : own_Find (own_set (own_set own_g0 kf125 b9) kf130 b14) num nc none (own_H nc) := by
                  exact (Ta130).miss (by simp) (own_H_lt _) hne181
                have hn181 : ∀ (k : Nat) (y : Addr), (own_set (own_set own_g0 kf125 b9) kf130 b14) k = some y → Fld Z T134.heap y "com/example/ajenda/ajenda/core/Job" "number" "J" (.long (num y)) := by
                  intro k y q0
                  have q := (Ta130).all k y q0
                  simp only [List.mem_cons, List.not_mem_nil, or_false] at q
                  rcases q with q | q
                  · rw [q]; rw [n2]; exact f174
                  · rw [q]; rw [n1]; exact f175
                obtain ⟨cq182, kq182, q182a, q182b, q182c⟩ := isOf hZ e180 f177
                obtain ⟨_, _, ⟨T182, L182, k182, n182⟩, -, X182, ⟨Lc182, hQ182, l182, y182, z182⟩, st182⟩ := X180.virtualBack hx (y := (⟨"com/example/ajenda/ajenda/core/JobsByNumber", "get", "(J)Lcom/example/ajenda/ajenda/core/Job;"⟩ : MethodName)) (z := (⟨"com/example/ajenda/ajenda/core/JobsByNumber", "get", "(J)Lcom/example/ajenda/ajenda/core/Job;"⟩ : MethodName)) hown (mvT hZ (hw _ (List.mem_of_getElem? (i := 80) rfl))) (mvT hZ (hw _ (List.mem_of_getElem? (i := 81) rfl))) (notFace_of_selects (args := #[]) (mvT hZ (hw _ (List.mem_of_getElem? (i := 83) rfl)))) (mvT hZ (hw _ (List.mem_of_getElem? (i := 83) rfl))) (mvT hZ (hw _ (List.mem_of_getElem? (i := 82) rfl))) (by decide) (backOf (W := 0) (rm_get l Z a0 hw [] b21 ar29 kk29 (own_set (own_set own_g0 kf125 b9) kf130 b14) num nc none T134.heap n0 Vq134 Fq134 hn181 Fi181) hZ (hw _ (List.mem_of_getElem? (i := 84) rfl)) (hw _ (List.mem_of_getElem? (i := 50) rfl)) (by decide) (by decide)) q182a q182c (g := (mkF m 241 #[.val (.long na), .second, .val (.long nb), .second, .val (.long nc), .second, .val (.long nq), .second, .val (.int fl), .val (.int (2 : Int32)), .val (.ref b4), .val (.ref b9), .val (.ref b14), .val (.ref b20), .val (.ref b21), .val (.ref b9), .val (.ref b14), .val .null, .val .null] [(.long nc), (.ref b21)])) rfl (by rw [hml]; rfl) (Steps.refl _) (argsL := [(.long nc)]) (rest := []) (lenOf pd_7 rfl) rfl (by show 2 * 0 + _ ≤ _; exact Nat.le_of_eq rfl) (hb hby at_241) (fun _ _ => ⟨rfl, e180, (by decide : ((((((((1 + 2) + 5) + 2) + 5) + 2) + 5) + 1) + 1) + 0 ≤ _), (by decide : ((((((((8 + 4) + 29) + (8 + 4)) + 29) + (8 + 4)) + 29) + 2) + 16) + 0 ≤ _)⟩)
                dsimp only [Pt.U, Pt.locs, Pt.cells, Pt.slots] at X182 l182 y182 z182 st182 hQ182
                rw [l182, y182, z182] at X182
                obtain ⟨rfl, Nq182, e182⟩ := hQ182
                have N182 := Fr.app N180 Nq182
                refine own_viaW st182 ?_
                show own_GoW p e below s00 _ _ (T182.setTop (mkF m 244 #[.val (.long na), .second, .val (.long nb), .second, .val (.long nc), .second, .val (.long nq), .second, .val (.int fl), .val (.int (2 : Int32)), .val (.ref b4), .val (.ref b9), .val (.ref b14), .val (.ref b20), .val (.ref b21), .val (.ref b9), .val (.ref b14), .val .null, .val .null] [.null]))
                refine own_byW (fun tz kz => XS.aload X182.here hx rfl (hb hby at_244) rfl rfl kz) ?_
                show own_GoW p e below s00 _ _ (T182.setTop (mkF m 246 #[.val (.long na), .second, .val (.long nb), .second, .val (.long nc), .second, .val (.long nq), .second, .val (.int fl), .val (.int (2 : Int32)), .val (.ref b4), .val (.ref b9), .val (.ref b14), .val (.ref b20), .val (.ref b21), .val (.ref b9), .val (.ref b14), .val .null, .val .null] [.null, .null]))
                refine own_byW (fun tz kz => Jvm.RoadKit.acmp (g := (mkF m 246 #[.val (.long na), .second, .val (.long nb), .second, .val (.long nc), .second, .val (.long nq), .second, .val (.int fl), .val (.int (2 : Int32)), .val (.ref b4), .val (.ref b9), .val (.ref b14), .val (.ref b20), .val (.ref b21), .val (.ref b9), .val (.ref b14), .val .null, .val .null] [.null, .null])) X182 hx rfl rfl rfl (pc0 := 246) (pc' := 249) (same := true) rfl (hb hby at_246) rfl (decide_eq_true rfl) (by decide) (by decide) kz) ?_
                show own_GoW p e below s00 _ _ (T182.setTop (mkF m 249 #[.val (.long na), .second, .val (.long nb), .second, .val (.long nc), .second, .val (.long nq), .second, .val (.int fl), .val (.int (2 : Int32)), .val (.ref b4), .val (.ref b9), .val (.ref b14), .val (.ref b20), .val (.ref b21), .val (.ref b9), .val (.ref b14), .val .null, .val .null] []))
                refine own_byW (fun tz kz => XS.aload X182.here hx rfl (hb hby at_249) rfl rfl kz) ?_
                show own_GoW p e below s00 _ _ (T182.setTop (mkF m 251 #[.val (.long na), .second, .val (.long nb), .second, .val (.long nc), .second, .val (.long nq), .second, .val (.int fl), .val (.int (2 : Int32)), .val (.ref b4), .val (.ref b9), .val (.ref b14), .val (.ref b20), .val (.ref b21), .val (.ref b9), .val (.ref b14), .val .null, .val .null] [(.ref b21)]))
                refine own_byW (fun tz kz => XS.lload X182.here hx rfl (hb hby at_251) rfl kz) ?_
                show own_GoW p e below s00 _ _ (T182.setTop (mkF m 253 #[.val (.long na), .second, .val (.long nb), .second, .val (.long nc), .second, .val (.long nq), .second, .val (.int fl), .val (.int (2 : Int32)), .val (.ref b4), .val (.ref b9), .val (.ref b14), .val (.ref b20), .val (.ref b21), .val (.ref b9), .val (.ref b14), .val .null, .val .null] [(.long nq), (.ref b21)]))
                have hne183 : ∀ y ∈ ([b14, b9] : List Addr), ¬ num y = nq := by
                  intro y q
                  simp only [List.mem_cons, List.not_mem_nil, or_false] at q
                  rcases q with q | q
                  · rw [q]; rw [n2]; exact (fun z => hc193_148 z.symm)
                  · rw [q]; rw [n1]; exact (fun z => hc179_135 z.symm)
                have Fi183 : own_Find (own_set (own_set own_g0 kf125 b9) kf130 b14) num nq none (own_H nq) := by
                  exact (Ta130).miss (by simp) (own_H_lt _) hne183
                have hn183 : ∀ (k : Nat) (y : Addr), (own_set (own_set own_g0 kf125 b9) kf130 b14) k = some y → Fld Z T134.heap y "com/example/ajenda/ajenda/core/Job" "number" "J" (.long (num y)) := by
                  intro k y q0
                  have q := (Ta130).all k y q0
                  simp only [List.mem_cons, List.not_mem_nil, or_false] at q
                  rcases q with q | q
                  · rw [q]; rw [n2]; exact f174
                  · rw [q]; rw [n1]; exact f175
                obtain ⟨cq184, kq184, q184a, q184b, q184c⟩ := isOf hZ e182 f177
                obtain ⟨_, _, ⟨T184, L184, k184, n184⟩, -, X184, ⟨Lc184, hQ184, l184, y184, z184⟩, st184⟩ := X182.virtualBack hx (y := (⟨"com/example/ajenda/ajenda/core/JobsByNumber", "get", "(J)Lcom/example/ajenda/ajenda/core/Job;"⟩ : MethodName)) (z := (⟨"com/example/ajenda/ajenda/core/JobsByNumber", "get", "(J)Lcom/example/ajenda/ajenda/core/Job;"⟩ : MethodName)) hown (mvT hZ (hw _ (List.mem_of_getElem? (i := 80) rfl))) (mvT hZ (hw _ (List.mem_of_getElem? (i := 81) rfl))) (notFace_of_selects (args := #[]) (mvT hZ (hw _ (List.mem_of_getElem? (i := 83) rfl)))) (mvT hZ (hw _ (List.mem_of_getElem? (i := 83) rfl))) (mvT hZ (hw _ (List.mem_of_getElem? (i := 82) rfl))) (by decide) (backOf (W := 0) (rm_get l Z a0 hw [] b21 ar29 kk29 (own_set (own_set own_g0 kf125 b9) kf130 b14) num nq none T134.heap n0 Vq134 Fq134 hn183 Fi183) hZ (hw _ (List.mem_of_getElem? (i := 84) rfl)) (hw _ (List.mem_of_getElem? (i := 50) rfl)) (by decide) (by decide)) q184a q184c (g := (mkF m 253 #[.val (.long na), .second, .val (.long nb), .second, .val (.long nc), .second, .val (.long nq), .second, .val (.int fl), .val (.int (2 : Int32)), .val (.ref b4), .val (.ref b9), .val (.ref b14), .val (.ref b20), .val (.ref b21), .val (.ref b9), .val (.ref b14), .val .null, .val .null] [(.long nq), (.ref b21)])) rfl (by rw [hml]; rfl) (Steps.refl _) (argsL := [(.long nq)]) (rest := []) (lenOf pd_7 rfl) rfl (by show 2 * 0 + _ ≤ _; exact Nat.le_of_eq rfl) (hb hby at_253) (fun _ _ => ⟨rfl, e182, (by decide : ((((((((1 + 2) + 5) + 2) + 5) + 2) + 5) + 1) + 1) + 0 ≤ _), (by decide : ((((((((8 + 4) + 29) + (8 + 4)) + 29) + (8 + 4)) + 29) + 2) + 16) + 0 ≤ _)⟩)
                dsimp only [Pt.U, Pt.locs, Pt.cells, Pt.slots] at X184 l184 y184 z184 st184 hQ184
                rw [l184, y184, z184] at X184
                obtain ⟨rfl, Nq184, e184⟩ := hQ184
                have N184 := Fr.app N182 Nq184
                refine own_viaW st184 ?_
                show own_GoW p e below s00 _ _ (T184.setTop (mkF m 256 #[.val (.long na), .second, .val (.long nb), .second, .val (.long nc), .second, .val (.long nq), .second, .val (.int fl), .val (.int (2 : Int32)), .val (.ref b4), .val (.ref b9), .val (.ref b14), .val (.ref b20), .val (.ref b21), .val (.ref b9), .val (.ref b14), .val .null, .val .null] [.null]))
                refine own_byW (fun tz kz => XS.aload X184.here hx rfl (hb hby at_256) rfl rfl kz) ?_
                show own_GoW p e below s00 _ _ (T184.setTop (mkF m 258 #[.val (.long na), .second, .val (.long nb), .second, .val (.long nc), .second, .val (.long nq), .second, .val (.int fl), .val (.int (2 : Int32)), .val (.ref b4), .val (.ref b9), .val (.ref b14), .val (.ref b20), .val (.ref b21), .val (.ref b9), .val (.ref b14), .val .null, .val .null] [.null, .null]))
                refine own_byW (fun tz kz => Jvm.RoadKit.acmp (g := (mkF m 258 #[.val (.long na), .second, .val (.long nb), .second, .val (.long nc), .second, .val (.long nq), .second, .val (.int fl), .val (.int (2 : Int32)), .val (.ref b4), .val (.ref b9), .val (.ref b14), .val (.ref b20), .val (.ref b21), .val (.ref b9), .val (.ref b14), .val .null, .val .null] [.null, .null])) X184 hx rfl rfl rfl (pc0 := 258) (pc' := 261) (same := true) rfl (hb hby at_258) rfl (decide_eq_true rfl) (by decide) (by decide) kz) ?_
                show own_GoW p e below s00 _ _ (T184.setTop (mkF m 261 #[.val (.long na), .second, .val (.long nb), .second, .val (.long nc), .second, .val (.long nq), .second, .val (.int fl), .val (.int (2 : Int32)), .val (.ref b4), .val (.ref b9), .val (.ref b14), .val (.ref b20), .val (.ref b21), .val (.ref b9), .val (.ref b14), .val .null, .val .null] []))
                refine own_byW (fun tz kz => XS.iconst X184.here hx rfl (hb hby at_261) kz) ?_
                show own_GoW p e below s00 _ _ (T184.setTop (mkF m 262 #[.val (.long na), .second, .val (.long nb), .second, .val (.long nc), .second, .val (.long nq), .second, .val (.int fl), .val (.int (2 : Int32)), .val (.ref b4), .val (.ref b9), .val (.ref b14), .val (.ref b20), .val (.ref b21), .val (.ref b9), .val (.ref b14), .val .null, .val .null] [(.int (1 : Int32))]))
                refine own_byW (fun tz kz => XS.goto X184.here hx rfl (pc0 := 262) (pc' := 266) rfl (hb hby at_262) (by decide) (by decide) kz) ?_
                show own_GoW p e below s00 _ _ (T184.setTop (mkF m 266 #[.val (.long na), .second, .val (.long nb), .second, .val (.long nc), .second, .val (.long nq), .second, .val (.int fl), .val (.int (2 : Int32)), .val (.ref b4), .val (.ref b9), .val (.ref b14), .val (.ref b20), .val (.ref b21), .val (.ref b9), .val (.ref b14), .val .null, .val .null] [(.int (1 : Int32))]))
                have A185 := (own_At.up (own_At.up (own_At.up (own_At.up A20 E21.1) Kq29.1) Kq129.1) Kq134.1)
                refine own_retIW X184 e184 A185 hx hlk (t := .boolean) hret (by simp) rfl (hb hby at_266) ?_ (by decide) (by decide)
                exact ⟨rfl, N184⟩
        · rw [hcs]
          show own_GoW p e below s00 _ _ (T29.setTop (mkF m 91 #[.val (.long na), .second, .val (.long nb), .second, .val (.long nc), .second, .val (.long nq), .second, .val (.int fl), .val (.int (3 : Int32)), .val (.ref b4), .val (.ref b9), .val (.ref b14), .val (.ref b20), .val (.ref b21), .unset, .unset, .unset, .unset] []))
          refine own_byW (fun tz kz => XS.iload X29.here hx rfl (hb hby at_91) rfl  kz) ?_
          show own_GoW p e below s00 _ _ (T29.setTop (mkF m 93 #[.val (.long na), .second, .val (.long nb), .second, .val (.long nc), .second, .val (.long nq), .second, .val (.int fl), .val (.int (3 : Int32)), .val (.ref b4), .val (.ref b9), .val (.ref b14), .val (.ref b20), .val (.ref b21), .unset, .unset, .unset, .unset] [(.int (3 : Int32))]))
          refine own_byW (fun tz kz => XS.iconst X29.here hx rfl (hb hby at_93) kz) ?_
          show own_GoW p e below s00 _ _ (T29.setTop (mkF m 94 #[.val (.long na), .second, .val (.long nb), .second, .val (.long nc), .second, .val (.long nq), .second, .val (.int fl), .val (.int (3 : Int32)), .val (.ref b4), .val (.ref b9), .val (.ref b14), .val (.ref b20), .val (.ref b21), .unset, .unset, .unset, .unset] [(.int (1 : Int32)), (.int (3 : Int32))]))
          refine own_byW (fun tz kz => XS.icmpNo X29.here hx rfl (hb hby at_94) rfl (flt (by decide : ¬ (3 : Int32) < (1 : Int32))).1 kz) ?_
          show own_GoW p e below s00 _ _ (T29.setTop (mkF m 97 #[.val (.long na), .second, .val (.long nb), .second, .val (.long nc), .second, .val (.long nq), .second, .val (.int fl), .val (.int (3 : Int32)), .val (.ref b4), .val (.ref b9), .val (.ref b14), .val (.ref b20), .val (.ref b21), .unset, .unset, .unset, .unset] []))
          refine own_byW (fun tz kz => XS.aload X29.here hx rfl (hb hby at_97) rfl rfl kz) ?_
          show own_GoW p e below s00 _ _ (T29.setTop (mkF m 99 #[.val (.long na), .second, .val (.long nb), .second, .val (.long nc), .second, .val (.long nq), .second, .val (.int fl), .val (.int (3 : Int32)), .val (.ref b4), .val (.ref b9), .val (.ref b14), .val (.ref b20), .val (.ref b21), .unset, .unset, .unset, .unset] [(.ref b21)]))
          refine own_byW (fun tz kz => XS.aload X29.here hx rfl (hb hby at_99) rfl rfl kz) ?_
          show own_GoW p e below s00 _ _ (T29.setTop (mkF m 101 #[.val (.long na), .second, .val (.long nb), .second, .val (.long nc), .second, .val (.long nq), .second, .val (.int fl), .val (.int (3 : Int32)), .val (.ref b4), .val (.ref b9), .val (.ref b14), .val (.ref b20), .val (.ref b21), .unset, .unset, .unset, .unset] [(.ref b9), (.ref b21)]))
          obtain ⟨kf186, Fr186⟩ := own_T.free (own_T.nil num own_H) (by simp) (own_H_lt na)
          have hne186 : ∀ y ∈ ([] : List Addr), ¬ num y = num b9 := by
            intro y q
            exact absurd q (by simp)
          have Ta186 := own_T.put (own_T.nil num own_H) (j := b9) (k' := kf186) (by rw [n1]; exact Fr186) hne186
          have f187 := (f26.keep Kq29)
          have f188 := ((((((Fq9.ext E10).keep Kq14 nin0).ext E15).keep Kq20 nin0).ext E21).keep Kq29 (ninS ne_b9_b21 nin0))
          have f189 := (A21.keep Kq29)
          obtain ⟨cq190, kq190, q190a, q190b, q190c⟩ := isOf hZ e29 f189
          obtain ⟨_, _, ⟨T190, L190, k190, n190⟩, -, X190, ⟨Lc190, hQ190, l190, y190, z190⟩, st190⟩ := X29.virtualBack hx (y := (⟨"com/example/ajenda/ajenda/core/JobsByNumber", "add", "(Lcom/example/ajenda/ajenda/core/Job;)V"⟩ : MethodName)) (z := (⟨"com/example/ajenda/ajenda/core/JobsByNumber", "add", "(Lcom/example/ajenda/ajenda/core/Job;)V"⟩ : MethodName)) hown (mvT hZ (hw _ (List.mem_of_getElem? (i := 59) rfl))) (mvT hZ (hw _ (List.mem_of_getElem? (i := 60) rfl))) (notFace_of_selects (args := #[]) (mvT hZ (hw _ (List.mem_of_getElem? (i := 62) rfl)))) (mvT hZ (hw _ (List.mem_of_getElem? (i := 62) rfl))) (mvT hZ (hw _ (List.mem_of_getElem? (i := 61) rfl))) (by decide) (backOf (W := 0) (rm_add l Z a0 hw [] b21 ar29 b9 kk29 own_g0 na kf186 (0 : Int32) T29.heap n0 O29 Vq29 Ov29 f187 f188 Fr186 g_ar29 f189 Fq29 Gq29 g_b21 ne_b21_ar29 ne_b9_ar29 ne_b9_b21 (by decide)) hZ (hw _ (List.mem_of_getElem? (i := 63) rfl)) (hw _ (List.mem_of_getElem? (i := 50) rfl)) (by decide) (by decide)) q190a q190c (g := (mkF m 101 #[.val (.long na), .second, .val (.long nb), .second, .val (.long nc), .second, .val (.long nq), .second, .val (.int fl), .val (.int (3 : Int32)), .val (.ref b4), .val (.ref b9), .val (.ref b14), .val (.ref b20), .val (.ref b21), .unset, .unset, .unset, .unset] [(.ref b9), (.ref b21)])) rfl (by rw [hml]; rfl) (Steps.refl _) (argsL := [(.ref b9)]) (rest := []) (lenOf pd_3 rfl) rfl (by show 2 * 0 + _ ≤ _; exact Nat.le_of_eq rfl) (hb hby at_101) (fun _ _ => ⟨rfl, e29, (by decide : ((((((((1 + 2) + 5) + 2) + 5) + 2) + 5) + 1) + 1) + 0 ≤ _), (by decide : ((((((((8 + 4) + 29) + (8 + 4)) + 29) + (8 + 4)) + 29) + 2) + 16) + 0 ≤ _)⟩)
          dsimp only [Pt.U, Pt.locs, Pt.cells, Pt.slots] at X190 l190 y190 z190 st190 hQ190
          rw [l190, y190, z190] at X190
          obtain ⟨rfl, Nq190, Kq190, Vq190, Fq190, Gq190⟩ := hQ190
          have N190 := Fr.app N29 Nq190
          have e190 : T190.heap = T190.heap := rfl
          refine own_viaW st190 ?_
          have O190 := O29.keep Kq190 (allS g_b21 (allS g_ar29 all0))
          have K190 := K29.trans Kq190 (allS (Or.inr sz_b21) (allS (Or.inr sz_ar29) all0))
          show own_GoW p e below s00 _ _ (T190.setTop (mkF m 104 #[.val (.long na), .second, .val (.long nb), .second, .val (.long nc), .second, .val (.long nq), .second, .val (.int fl), .val (.int (3 : Int32)), .val (.ref b4), .val (.ref b9), .val (.ref b14), .val (.ref b20), .val (.ref b21), .unset, .unset, .unset, .unset] []))
          refine own_byW (fun tz kz => XS.iload X190.here hx rfl (hb hby at_104) rfl  kz) ?_
          show own_GoW p e below s00 _ _ (T190.setTop (mkF m 106 #[.val (.long na), .second, .val (.long nb), .second, .val (.long nc), .second, .val (.long nq), .second, .val (.int fl), .val (.int (3 : Int32)), .val (.ref b4), .val (.ref b9), .val (.ref b14), .val (.ref b20), .val (.ref b21), .unset, .unset, .unset, .unset] [(.int (3 : Int32))]))
          refine own_byW (fun tz kz => XS.iconst X190.here hx rfl (hb hby at_106) kz) ?_
          show own_GoW p e below s00 _ _ (T190.setTop (mkF m 107 #[.val (.long na), .second, .val (.long nb), .second, .val (.long nc), .second, .val (.long nq), .second, .val (.int fl), .val (.int (3 : Int32)), .val (.ref b4), .val (.ref b9), .val (.ref b14), .val (.ref b20), .val (.ref b21), .unset, .unset, .unset, .unset] [(.int (2 : Int32)), (.int (3 : Int32))]))
          refine own_byW (fun tz kz => XS.icmpNo X190.here hx rfl (hb hby at_107) rfl (flt (by decide : ¬ (3 : Int32) < (2 : Int32))).1 kz) ?_
          show own_GoW p e below s00 _ _ (T190.setTop (mkF m 110 #[.val (.long na), .second, .val (.long nb), .second, .val (.long nc), .second, .val (.long nq), .second, .val (.int fl), .val (.int (3 : Int32)), .val (.ref b4), .val (.ref b9), .val (.ref b14), .val (.ref b20), .val (.ref b21), .unset, .unset, .unset, .unset] []))
          refine own_byW (fun tz kz => XS.aload X190.here hx rfl (hb hby at_110) rfl rfl kz) ?_
          show own_GoW p e below s00 _ _ (T190.setTop (mkF m 112 #[.val (.long na), .second, .val (.long nb), .second, .val (.long nc), .second, .val (.long nq), .second, .val (.int fl), .val (.int (3 : Int32)), .val (.ref b4), .val (.ref b9), .val (.ref b14), .val (.ref b20), .val (.ref b21), .unset, .unset, .unset, .unset] [(.ref b21)]))
          refine own_byW (fun tz kz => XS.aload X190.here hx rfl (hb hby at_112) rfl rfl kz) ?_
          show own_GoW p e below s00 _ _ (T190.setTop (mkF m 114 #[.val (.long na), .second, .val (.long nb), .second, .val (.long nc), .second, .val (.long nq), .second, .val (.int fl), .val (.int (3 : Int32)), .val (.ref b4), .val (.ref b9), .val (.ref b14), .val (.ref b20), .val (.ref b21), .unset, .unset, .unset, .unset] [(.ref b14), (.ref b21)]))
          obtain ⟨kf191, Fr191⟩ := own_T.free (Ta186) (by simp) (own_H_lt nb)
          have hne191 : ∀ y ∈ ([b9] : List Addr), ¬ num y = num b14 := by
            intro y q
            simp only [List.mem_cons, List.not_mem_nil, or_false] at q
            rw [q]; rw [n1, n2]; exact hc3_1
          have Ta191 := own_T.put (Ta186) (j := b14) (k' := kf191) (by rw [n2]; exact Fr191) hne191
          have f192 := ((f27.keep Kq29).keep Kq190)
          have f193 := (((((Fq14.ext E15).keep Kq20 nin0).ext E21).keep Kq29 (ninS ne_b14_b21 nin0)).keep Kq190 (ninS ne_b14_b21 (ninS ne_b14_ar29 nin0)))
          have f194 := (f189.keep Kq190)
          obtain ⟨cq195, kq195, q195a, q195b, q195c⟩ := isOf hZ e190 f194
          obtain ⟨_, _, ⟨T195, L195, k195, n195⟩, -, X195, ⟨Lc195, hQ195, l195, y195, z195⟩, st195⟩ := X190.virtualBack hx (y := (⟨"com/example/ajenda/ajenda/core/JobsByNumber", "add", "(Lcom/example/ajenda/ajenda/core/Job;)V"⟩ : MethodName)) (z := (⟨"com/example/ajenda/ajenda/core/JobsByNumber", "add", "(Lcom/example/ajenda/ajenda/core/Job;)V"⟩ : MethodName)) hown (mvT hZ (hw _ (List.mem_of_getElem? (i := 59) rfl))) (mvT hZ (hw _ (List.mem_of_getElem? (i := 60) rfl))) (notFace_of_selects (args := #[]) (mvT hZ (hw _ (List.mem_of_getElem? (i := 62) rfl)))) (mvT hZ (hw _ (List.mem_of_getElem? (i := 62) rfl))) (mvT hZ (hw _ (List.mem_of_getElem? (i := 61) rfl))) (by decide) (backOf (W := 0) (rm_add l Z a0 hw [] b21 ar29 b14 kk29 (own_set own_g0 kf186 b9) nb kf191 ((0 : Int32) + (1 : Int32)) T190.heap n0 O190 Vq190 Ov29 f192 f193 Fr191 g_ar29 f194 Fq190 Gq190 g_b21 ne_b21_ar29 ne_b14_ar29 ne_b14_b21 (by decide)) hZ (hw _ (List.mem_of_getElem? (i := 63) rfl)) (hw _ (List.mem_of_getElem? (i := 50) rfl)) (by decide) (by decide)) q195a q195c (g := (mkF m 114 #[.val (.long na), .second, .val (.long nb), .second, .val (.long nc), .second, .val (.long nq), .second, .val (.int fl), .val (.int (3 : Int32)), .val (.ref b4), .val (.ref b9), .val (.ref b14), .val (.ref b20), .val (.ref b21), .unset, .unset, .unset, .unset] [(.ref b14), (.ref b21)])) rfl (by rw [hml]; rfl) (Steps.refl _) (argsL := [(.ref b14)]) (rest := []) (lenOf pd_3 rfl) rfl (by show 2 * 0 + _ ≤ _; exact Nat.le_of_eq rfl) (hb hby at_114) (fun _ _ => ⟨rfl, e190, (by decide : ((((((((1 + 2) + 5) + 2) + 5) + 2) + 5) + 1) + 1) + 0 ≤ _), (by decide : ((((((((8 + 4) + 29) + (8 + 4)) + 29) + (8 + 4)) + 29) + 2) + 16) + 0 ≤ _)⟩)
          dsimp only [Pt.U, Pt.locs, Pt.cells, Pt.slots] at X195 l195 y195 z195 st195 hQ195
          rw [l195, y195, z195] at X195
          obtain ⟨rfl, Nq195, Kq195, Vq195, Fq195, Gq195⟩ := hQ195
          have N195 := Fr.app N190 Nq195
          have e195 : T195.heap = T195.heap := rfl
          refine own_viaW st195 ?_
          have O195 := O190.keep Kq195 (allS g_b21 (allS g_ar29 all0))
          have K195 := K190.trans Kq195 (allS (Or.inr sz_b21) (allS (Or.inr sz_ar29) all0))
          show own_GoW p e below s00 _ _ (T195.setTop (mkF m 117 #[.val (.long na), .second, .val (.long nb), .second, .val (.long nc), .second, .val (.long nq), .second, .val (.int fl), .val (.int (3 : Int32)), .val (.ref b4), .val (.ref b9), .val (.ref b14), .val (.ref b20), .val (.ref b21), .unset, .unset, .unset, .unset] []))
          refine own_byW (fun tz kz => XS.iload X195.here hx rfl (hb hby at_117) rfl  kz) ?_
          show own_GoW p e below s00 _ _ (T195.setTop (mkF m 119 #[.val (.long na), .second, .val (.long nb), .second, .val (.long nc), .second, .val (.long nq), .second, .val (.int fl), .val (.int (3 : Int32)), .val (.ref b4), .val (.ref b9), .val (.ref b14), .val (.ref b20), .val (.ref b21), .unset, .unset, .unset, .unset] [(.int (3 : Int32))]))
          refine own_byW (fun tz kz => XS.iconst X195.here hx rfl (hb hby at_119) kz) ?_
          show own_GoW p e below s00 _ _ (T195.setTop (mkF m 120 #[.val (.long na), .second, .val (.long nb), .second, .val (.long nc), .second, .val (.long nq), .second, .val (.int fl), .val (.int (3 : Int32)), .val (.ref b4), .val (.ref b9), .val (.ref b14), .val (.ref b20), .val (.ref b21), .unset, .unset, .unset, .unset] [(.int (3 : Int32)), (.int (3 : Int32))]))
          refine own_byW (fun tz kz => XS.icmpNo X195.here hx rfl (hb hby at_120) rfl (flt (by decide : ¬ (3 : Int32) < (3 : Int32))).1 kz) ?_
          show own_GoW p e below s00 _ _ (T195.setTop (mkF m 123 #[.val (.long na), .second, .val (.long nb), .second, .val (.long nc), .second, .val (.long nq), .second, .val (.int fl), .val (.int (3 : Int32)), .val (.ref b4), .val (.ref b9), .val (.ref b14), .val (.ref b20), .val (.ref b21), .unset, .unset, .unset, .unset] []))
          refine own_byW (fun tz kz => XS.aload X195.here hx rfl (hb hby at_123) rfl rfl kz) ?_
          show own_GoW p e below s00 _ _ (T195.setTop (mkF m 125 #[.val (.long na), .second, .val (.long nb), .second, .val (.long nc), .second, .val (.long nq), .second, .val (.int fl), .val (.int (3 : Int32)), .val (.ref b4), .val (.ref b9), .val (.ref b14), .val (.ref b20), .val (.ref b21), .unset, .unset, .unset, .unset] [(.ref b21)]))
          refine own_byW (fun tz kz => XS.aload X195.here hx rfl (hb hby at_125) rfl rfl kz) ?_
          show own_GoW p e below s00 _ _ (T195.setTop (mkF m 127 #[.val (.long na), .second, .val (.long nb), .second, .val (.long nc), .second, .val (.long nq), .second, .val (.int fl), .val (.int (3 : Int32)), .val (.ref b4), .val (.ref b9), .val (.ref b14), .val (.ref b20), .val (.ref b21), .unset, .unset, .unset, .unset] [(.ref b20), (.ref b21)]))
          obtain ⟨kf196, Fr196⟩ := own_T.free (Ta191) (by simp) (own_H_lt nc)
          have hne196 : ∀ y ∈ ([b14, b9] : List Addr), ¬ num y = num b20 := by
            intro y q
            simp only [List.mem_cons, List.not_mem_nil, or_false] at q
            rcases q with q | q
            · rw [q]; rw [n2, n3]; exact hc17_3
            · rw [q]; rw [n1, n3]; exact hc10_2
          have Ta196 := own_T.put (Ta191) (j := b20) (k' := kf196) (by rw [n3]; exact Fr196) hne196
          have f197 := (((f28.keep Kq29).keep Kq190).keep Kq195)
          have f198 := ((((Fq20.ext E21).keep Kq29 (ninS ne_b20_b21 nin0)).keep Kq190 (ninS ne_b20_b21 (ninS ne_b20_ar29 nin0))).keep Kq195 (ninS ne_b20_b21 (ninS ne_b20_ar29 nin0)))
          have f199 := (f194.keep Kq195)
          obtain ⟨cq200, kq200, q200a, q200b, q200c⟩ := isOf hZ e195 f199
          obtain ⟨_, _, ⟨T200, L200, k200, n200⟩, -, X200, ⟨Lc200, hQ200, l200, y200, z200⟩, st200⟩ := X195.virtualBack hx (y := (⟨"com/example/ajenda/ajenda/core/JobsByNumber", "add", "(Lcom/example/ajenda/ajenda/core/Job;)V"⟩ : MethodName)) (z := (⟨"com/example/ajenda/ajenda/core/JobsByNumber", "add", "(Lcom/example/ajenda/ajenda/core/Job;)V"⟩ : MethodName)) hown (mvT hZ (hw _ (List.mem_of_getElem? (i := 59) rfl))) (mvT hZ (hw _ (List.mem_of_getElem? (i := 60) rfl))) (notFace_of_selects (args := #[]) (mvT hZ (hw _ (List.mem_of_getElem? (i := 62) rfl)))) (mvT hZ (hw _ (List.mem_of_getElem? (i := 62) rfl))) (mvT hZ (hw _ (List.mem_of_getElem? (i := 61) rfl))) (by decide) (backOf (W := 0) (rm_add l Z a0 hw [] b21 ar29 b20 kk29 (own_set (own_set own_g0 kf186 b9) kf191 b14) nc kf196 (((0 : Int32) + (1 : Int32)) + (1 : Int32)) T195.heap n0 O195 Vq195 Ov29 f197 f198 Fr196 g_ar29 f199 Fq195 Gq195 g_b21 ne_b21_ar29 ne_b20_ar29 ne_b20_b21 (by decide)) hZ (hw _ (List.mem_of_getElem? (i := 63) rfl)) (hw _ (List.mem_of_getElem? (i := 50) rfl)) (by decide) (by decide)) q200a q200c (g := (mkF m 127 #[.val (.long na), .second, .val (.long nb), .second, .val (.long nc), .second, .val (.long nq), .second, .val (.int fl), .val (.int (3 : Int32)), .val (.ref b4), .val (.ref b9), .val (.ref b14), .val (.ref b20), .val (.ref b21), .unset, .unset, .unset, .unset] [(.ref b20), (.ref b21)])) rfl (by rw [hml]; rfl) (Steps.refl _) (argsL := [(.ref b20)]) (rest := []) (lenOf pd_3 rfl) rfl (by show 2 * 0 + _ ≤ _; exact Nat.le_of_eq rfl) (hb hby at_127) (fun _ _ => ⟨rfl, e195, (by decide : ((((((((1 + 2) + 5) + 2) + 5) + 2) + 5) + 1) + 1) + 0 ≤ _), (by decide : ((((((((8 + 4) + 29) + (8 + 4)) + 29) + (8 + 4)) + 29) + 2) + 16) + 0 ≤ _)⟩)
          dsimp only [Pt.U, Pt.locs, Pt.cells, Pt.slots] at X200 l200 y200 z200 st200 hQ200
          rw [l200, y200, z200] at X200
          obtain ⟨rfl, Nq200, Kq200, Vq200, Fq200, Gq200⟩ := hQ200
          have N200 := Fr.app N195 Nq200
          have e200 : T200.heap = T200.heap := rfl
          refine own_viaW st200 ?_
          have O200 := O195.keep Kq200 (allS g_b21 (allS g_ar29 all0))
          have K200 := K195.trans Kq200 (allS (Or.inr sz_b21) (allS (Or.inr sz_ar29) all0))
          show own_GoW p e below s00 _ _ (T200.setTop (mkF m 130 #[.val (.long na), .second, .val (.long nb), .second, .val (.long nc), .second, .val (.long nq), .second, .val (.int fl), .val (.int (3 : Int32)), .val (.ref b4), .val (.ref b9), .val (.ref b14), .val (.ref b20), .val (.ref b21), .unset, .unset, .unset, .unset] []))
          refine own_byW (fun tz kz => XS.iload X200.here hx rfl (hb hby at_130) rfl  kz) ?_
          show own_GoW p e below s00 _ _ (T200.setTop (mkF m 132 #[.val (.long na), .second, .val (.long nb), .second, .val (.long nc), .second, .val (.long nq), .second, .val (.int fl), .val (.int (3 : Int32)), .val (.ref b4), .val (.ref b9), .val (.ref b14), .val (.ref b20), .val (.ref b21), .unset, .unset, .unset, .unset] [(.int (3 : Int32))]))
          refine own_byW (fun tz kz => XS.iconst X200.here hx rfl (hb hby at_132) kz) ?_
          show own_GoW p e below s00 _ _ (T200.setTop (mkF m 133 #[.val (.long na), .second, .val (.long nb), .second, .val (.long nc), .second, .val (.long nq), .second, .val (.int fl), .val (.int (3 : Int32)), .val (.ref b4), .val (.ref b9), .val (.ref b14), .val (.ref b20), .val (.ref b21), .unset, .unset, .unset, .unset] [(.int (1 : Int32)), (.int (3 : Int32))]))
          refine own_byW (fun tz kz => XS.icmpNo X200.here hx rfl (hb hby at_133) rfl (flt (by decide : ¬ (3 : Int32) < (1 : Int32))).1 kz) ?_
          show own_GoW p e below s00 _ _ (T200.setTop (mkF m 136 #[.val (.long na), .second, .val (.long nb), .second, .val (.long nc), .second, .val (.long nq), .second, .val (.int fl), .val (.int (3 : Int32)), .val (.ref b4), .val (.ref b9), .val (.ref b14), .val (.ref b20), .val (.ref b21), .unset, .unset, .unset, .unset] []))
          refine own_byW (fun tz kz => XS.aload X200.here hx rfl (hb hby at_136) rfl rfl kz) ?_
          show own_GoW p e below s00 _ _ (T200.setTop (mkF m 138 #[.val (.long na), .second, .val (.long nb), .second, .val (.long nc), .second, .val (.long nq), .second, .val (.int fl), .val (.int (3 : Int32)), .val (.ref b4), .val (.ref b9), .val (.ref b14), .val (.ref b20), .val (.ref b21), .unset, .unset, .unset, .unset] [(.ref b9)]))
          refine own_byW (fun tz kz => XS.goto X200.here hx rfl (pc0 := 138) (pc' := 142) rfl (hb hby at_138) (by decide) (by decide) kz) ?_
          show own_GoW p e below s00 _ _ (T200.setTop (mkF m 142 #[.val (.long na), .second, .val (.long nb), .second, .val (.long nc), .second, .val (.long nq), .second, .val (.int fl), .val (.int (3 : Int32)), .val (.ref b4), .val (.ref b9), .val (.ref b14), .val (.ref b20), .val (.ref b21), .unset, .unset, .unset, .unset] [(.ref b9)]))
          refine own_byW (fun tz kz => XS.astore X200.here hx rfl (hb hby at_142) rfl rfl (l' := #[.val (.long na), .second, .val (.long nb), .second, .val (.long nc), .second, .val (.long nq), .second, .val (.int fl), .val (.int (3 : Int32)), .val (.ref b4), .val (.ref b9), .val (.ref b14), .val (.ref b20), .val (.ref b21), .val (.ref b9), .unset, .unset, .unset]) rfl kz) ?_
          show own_GoW p e below s00 _ _ (T200.setTop (mkF m 144 #[.val (.long na), .second, .val (.long nb), .second, .val (.long nc), .second, .val (.long nq), .second, .val (.int fl), .val (.int (3 : Int32)), .val (.ref b4), .val (.ref b9), .val (.ref b14), .val (.ref b20), .val (.ref b21), .val (.ref b9), .unset, .unset, .unset] []))
          refine own_byW (fun tz kz => XS.iload X200.here hx rfl (hb hby at_144) rfl  kz) ?_
          show own_GoW p e below s00 _ _ (T200.setTop (mkF m 146 #[.val (.long na), .second, .val (.long nb), .second, .val (.long nc), .second, .val (.long nq), .second, .val (.int fl), .val (.int (3 : Int32)), .val (.ref b4), .val (.ref b9), .val (.ref b14), .val (.ref b20), .val (.ref b21), .val (.ref b9), .unset, .unset, .unset] [(.int (3 : Int32))]))
          refine own_byW (fun tz kz => XS.iconst X200.here hx rfl (hb hby at_146) kz) ?_
          show own_GoW p e below s00 _ _ (T200.setTop (mkF m 147 #[.val (.long na), .second, .val (.long nb), .second, .val (.long nc), .second, .val (.long nq), .second, .val (.int fl), .val (.int (3 : Int32)), .val (.ref b4), .val (.ref b9), .val (.ref b14), .val (.ref b20), .val (.ref b21), .val (.ref b9), .unset, .unset, .unset] [(.int (2 : Int32)), (.int (3 : Int32))]))
          refine own_byW (fun tz kz => XS.icmpNo X200.here hx rfl (hb hby at_147) rfl (flt (by decide : ¬ (3 : Int32) < (2 : Int32))).1 kz) ?_
          show own_GoW p e below s00 _ _ (T200.setTop (mkF m 150 #[.val (.long na), .second, .val (.long nb), .second, .val (.long nc), .second, .val (.long nq), .second, .val (.int fl), .val (.int (3 : Int32)), .val (.ref b4), .val (.ref b9), .val (.ref b14), .val (.ref b20), .val (.ref b21), .val (.ref b9), .unset, .unset, .unset] []))
          refine own_byW (fun tz kz => XS.aload X200.here hx rfl (hb hby at_150) rfl rfl kz) ?_
          show own_GoW p e below s00 _ _ (T200.setTop (mkF m 152 #[.val (.long na), .second, .val (.long nb), .second, .val (.long nc), .second, .val (.long nq), .second, .val (.int fl), .val (.int (3 : Int32)), .val (.ref b4), .val (.ref b9), .val (.ref b14), .val (.ref b20), .val (.ref b21), .val (.ref b9), .unset, .unset, .unset] [(.ref b14)]))
          refine own_byW (fun tz kz => XS.goto X200.here hx rfl (pc0 := 152) (pc' := 156) rfl (hb hby at_152) (by decide) (by decide) kz) ?_
          show own_GoW p e below s00 _ _ (T200.setTop (mkF m 156 #[.val (.long na), .second, .val (.long nb), .second, .val (.long nc), .second, .val (.long nq), .second, .val (.int fl), .val (.int (3 : Int32)), .val (.ref b4), .val (.ref b9), .val (.ref b14), .val (.ref b20), .val (.ref b21), .val (.ref b9), .unset, .unset, .unset] [(.ref b14)]))
          refine own_byW (fun tz kz => XS.astore X200.here hx rfl (hb hby at_156) rfl rfl (l' := #[.val (.long na), .second, .val (.long nb), .second, .val (.long nc), .second, .val (.long nq), .second, .val (.int fl), .val (.int (3 : Int32)), .val (.ref b4), .val (.ref b9), .val (.ref b14), .val (.ref b20), .val (.ref b21), .val (.ref b9), .val (.ref b14), .unset, .unset]) rfl kz) ?_
          show own_GoW p e below s00 _ _ (T200.setTop (mkF m 158 #[.val (.long na), .second, .val (.long nb), .second, .val (.long nc), .second, .val (.long nq), .second, .val (.int fl), .val (.int (3 : Int32)), .val (.ref b4), .val (.ref b9), .val (.ref b14), .val (.ref b20), .val (.ref b21), .val (.ref b9), .val (.ref b14), .unset, .unset] []))
          refine own_byW (fun tz kz => XS.iload X200.here hx rfl (hb hby at_158) rfl  kz) ?_
          show own_GoW p e below s00 _ _ (T200.setTop (mkF m 160 #[.val (.long na), .second, .val (.long nb), .second, .val (.long nc), .second, .val (.long nq), .second, .val (.int fl), .val (.int (3 : Int32)), .val (.ref b4), .val (.ref b9), .val (.ref b14), .val (.ref b20), .val (.ref b21), .val (.ref b9), .val (.ref b14), .unset, .unset] [(.int (3 : Int32))]))
          refine own_byW (fun tz kz => XS.iconst X200.here hx rfl (hb hby at_160) kz) ?_
          show own_GoW p e below s00 _ _ (T200.setTop (mkF m 161 #[.val (.long na), .second, .val (.long nb), .second, .val (.long nc), .second, .val (.long nq), .second, .val (.int fl), .val (.int (3 : Int32)), .val (.ref b4), .val (.ref b9), .val (.ref b14), .val (.ref b20), .val (.ref b21), .val (.ref b9), .val (.ref b14), .unset, .unset] [(.int (3 : Int32)), (.int (3 : Int32))]))
          refine own_byW (fun tz kz => XS.icmpNo X200.here hx rfl (hb hby at_161) rfl (flt (by decide : ¬ (3 : Int32) < (3 : Int32))).1 kz) ?_
          show own_GoW p e below s00 _ _ (T200.setTop (mkF m 164 #[.val (.long na), .second, .val (.long nb), .second, .val (.long nc), .second, .val (.long nq), .second, .val (.int fl), .val (.int (3 : Int32)), .val (.ref b4), .val (.ref b9), .val (.ref b14), .val (.ref b20), .val (.ref b21), .val (.ref b9), .val (.ref b14), .unset, .unset] []))
          refine own_byW (fun tz kz => XS.aload X200.here hx rfl (hb hby at_164) rfl rfl kz) ?_
          show own_GoW p e below s00 _ _ (T200.setTop (mkF m 166 #[.val (.long na), .second, .val (.long nb), .second, .val (.long nc), .second, .val (.long nq), .second, .val (.int fl), .val (.int (3 : Int32)), .val (.ref b4), .val (.ref b9), .val (.ref b14), .val (.ref b20), .val (.ref b21), .val (.ref b9), .val (.ref b14), .unset, .unset] [(.ref b20)]))
          refine own_byW (fun tz kz => XS.goto X200.here hx rfl (pc0 := 166) (pc' := 170) rfl (hb hby at_166) (by decide) (by decide) kz) ?_
          show own_GoW p e below s00 _ _ (T200.setTop (mkF m 170 #[.val (.long na), .second, .val (.long nb), .second, .val (.long nc), .second, .val (.long nq), .second, .val (.int fl), .val (.int (3 : Int32)), .val (.ref b4), .val (.ref b9), .val (.ref b14), .val (.ref b20), .val (.ref b21), .val (.ref b9), .val (.ref b14), .unset, .unset] [(.ref b20)]))
          refine own_byW (fun tz kz => XS.astore X200.here hx rfl (hb hby at_170) rfl rfl (l' := #[.val (.long na), .second, .val (.long nb), .second, .val (.long nc), .second, .val (.long nq), .second, .val (.int fl), .val (.int (3 : Int32)), .val (.ref b4), .val (.ref b9), .val (.ref b14), .val (.ref b20), .val (.ref b21), .val (.ref b9), .val (.ref b14), .val (.ref b20), .unset]) rfl kz) ?_
          show own_GoW p e below s00 _ _ (T200.setTop (mkF m 172 #[.val (.long na), .second, .val (.long nb), .second, .val (.long nc), .second, .val (.long nq), .second, .val (.int fl), .val (.int (3 : Int32)), .val (.ref b4), .val (.ref b9), .val (.ref b14), .val (.ref b20), .val (.ref b21), .val (.ref b9), .val (.ref b14), .val (.ref b20), .unset] []))
          refine own_byW (fun tz kz => XS.aconstNull X200.here hx rfl (hb hby at_172) kz) ?_
          show own_GoW p e below s00 _ _ (T200.setTop (mkF m 173 #[.val (.long na), .second, .val (.long nb), .second, .val (.long nc), .second, .val (.long nq), .second, .val (.int fl), .val (.int (3 : Int32)), .val (.ref b4), .val (.ref b9), .val (.ref b14), .val (.ref b20), .val (.ref b21), .val (.ref b9), .val (.ref b14), .val (.ref b20), .unset] [.null]))
          refine own_byW (fun tz kz => XS.astore X200.here hx rfl (hb hby at_173) rfl rfl (l' := #[.val (.long na), .second, .val (.long nb), .second, .val (.long nc), .second, .val (.long nq), .second, .val (.int fl), .val (.int (3 : Int32)), .val (.ref b4), .val (.ref b9), .val (.ref b14), .val (.ref b20), .val (.ref b21), .val (.ref b9), .val (.ref b14), .val (.ref b20), .val .null]) rfl kz) ?_
          show own_GoW p e below s00 _ _ (T200.setTop (mkF m 175 #[.val (.long na), .second, .val (.long nb), .second, .val (.long nc), .second, .val (.long nq), .second, .val (.int fl), .val (.int (3 : Int32)), .val (.ref b4), .val (.ref b9), .val (.ref b14), .val (.ref b20), .val (.ref b21), .val (.ref b9), .val (.ref b14), .val (.ref b20), .val .null] []))
          refine own_byW (fun tz kz => XS.lload X200.here hx rfl (hb hby at_175) rfl kz) ?_
          show own_GoW p e below s00 _ _ (T200.setTop (mkF m 177 #[.val (.long na), .second, .val (.long nb), .second, .val (.long nc), .second, .val (.long nq), .second, .val (.int fl), .val (.int (3 : Int32)), .val (.ref b4), .val (.ref b9), .val (.ref b14), .val (.ref b20), .val (.ref b21), .val (.ref b9), .val (.ref b14), .val (.ref b20), .val .null] [(.long nq)]))
          refine own_byW (fun tz kz => XS.lloadN X200.here hx rfl (hb hby at_177) rfl kz) ?_
          show own_GoW p e below s00 _ _ (T200.setTop (mkF m 178 #[.val (.long na), .second, .val (.long nb), .second, .val (.long nc), .second, .val (.long nq), .second, .val (.int fl), .val (.int (3 : Int32)), .val (.ref b4), .val (.ref b9), .val (.ref b14), .val (.ref b20), .val (.ref b21), .val (.ref b9), .val (.ref b14), .val (.ref b20), .val .null] [(.long na), (.long nq)]))
          refine own_byW (fun tz kz => XS.lcmp X200.here hx rfl (hb hby at_178) rfl kz) ?_
          show own_GoW p e below s00 _ _ (T200.setTop (mkF m 179 #[.val (.long na), .second, .val (.long nb), .second, .val (.long nc), .second, .val (.long nq), .second, .val (.int fl), .val (.int (3 : Int32)), .val (.ref b4), .val (.ref b9), .val (.ref b14), .val (.ref b20), .val (.ref b21), .val (.ref b9), .val (.ref b14), .val (.ref b20), .val .null] [(.int (lcmpW nq na))]))
          by_cases hc179_201 : nq = na
          · refine own_byW (fun tz kz => XS.ifNo X200.here hx rfl (hb hby at_179) rfl ((if0 _ _).trans (teq ((lw_eq nq na).mpr hc179_201)).2) kz) ?_
            show own_GoW p e below s00 _ _ (T200.setTop (mkF m 182 #[.val (.long na), .second, .val (.long nb), .second, .val (.long nc), .second, .val (.long nq), .second, .val (.int fl), .val (.int (3 : Int32)), .val (.ref b4), .val (.ref b9), .val (.ref b14), .val (.ref b20), .val (.ref b21), .val (.ref b9), .val (.ref b14), .val (.ref b20), .val .null] []))
            refine own_byW (fun tz kz => XS.aload X200.here hx rfl (hb hby at_182) rfl rfl kz) ?_
            show own_GoW p e below s00 _ _ (T200.setTop (mkF m 184 #[.val (.long na), .second, .val (.long nb), .second, .val (.long nc), .second, .val (.long nq), .second, .val (.int fl), .val (.int (3 : Int32)), .val (.ref b4), .val (.ref b9), .val (.ref b14), .val (.ref b20), .val (.ref b21), .val (.ref b9), .val (.ref b14), .val (.ref b20), .val .null] [(.ref b9)]))
            refine own_byW (fun tz kz => XS.astore X200.here hx rfl (hb hby at_184) rfl rfl (l' := #[.val (.long na), .second, .val (.long nb), .second, .val (.long nc), .second, .val (.long nq), .second, .val (.int fl), .val (.int (3 : Int32)), .val (.ref b4), .val (.ref b9), .val (.ref b14), .val (.ref b20), .val (.ref b21), .val (.ref b9), .val (.ref b14), .val (.ref b20), .val (.ref b9)]) rfl kz) ?_
            show own_GoW p e below s00 _ _ (T200.setTop (mkF m 186 #[.val (.long na), .second, .val (.long nb), .second, .val (.long nc), .second, .val (.long nq), .second, .val (.int fl), .val (.int (3 : Int32)), .val (.ref b4), .val (.ref b9), .val (.ref b14), .val (.ref b20), .val (.ref b21), .val (.ref b9), .val (.ref b14), .val (.ref b20), .val (.ref b9)] []))
            refine own_byW (fun tz kz => XS.goto X200.here hx rfl (pc0 := 186) (pc' := 215) rfl (hb hby at_186) (by decide) (by decide) kz) ?_
            show own_GoW p e below s00 _ _ (T200.setTop (mkF m 215 #[.val (.long na), .second, .val (.long nb), .second, .val (.long nc), .second, .val (.long nq), .second, .val (.int fl), .val (.int (3 : Int32)), .val (.ref b4), .val (.ref b9), .val (.ref b14), .val (.ref b20), .val (.ref b21), .val (.ref b9), .val (.ref b14), .val (.ref b20), .val (.ref b9)] []))
            refine own_byW (fun tz kz => XS.aload X200.here hx rfl (hb hby at_215) rfl rfl kz) ?_
            show own_GoW p e below s00 _ _ (T200.setTop (mkF m 217 #[.val (.long na), .second, .val (.long nb), .second, .val (.long nc), .second, .val (.long nq), .second, .val (.int fl), .val (.int (3 : Int32)), .val (.ref b4), .val (.ref b9), .val (.ref b14), .val (.ref b20), .val (.ref b21), .val (.ref b9), .val (.ref b14), .val (.ref b20), .val (.ref b9)] [(.ref b21)]))
            refine own_byW (fun tz kz => XS.lloadN X200.here hx rfl (hb hby at_217) rfl kz) ?_
            show own_GoW p e below s00 _ _ (T200.setTop (mkF m 218 #[.val (.long na), .second, .val (.long nb), .second, .val (.long nc), .second, .val (.long nq), .second, .val (.int fl), .val (.int (3 : Int32)), .val (.ref b4), .val (.ref b9), .val (.ref b14), .val (.ref b20), .val (.ref b21), .val (.ref b9), .val (.ref b14), .val (.ref b20), .val (.ref b9)] [(.long na), (.ref b21)]))
            have f202 := (f198.keep Kq200 (ninS ne_b20_b21 (ninS ne_b20_ar29 nin0)))
            have f203 := ((f193.keep Kq195 (ninS ne_b14_b21 (ninS ne_b14_ar29 nin0))).keep Kq200 (ninS ne_b14_b21 (ninS ne_b14_ar29 nin0)))
            have f204 := (((f188.keep Kq190 (ninS ne_b9_b21 (ninS ne_b9_ar29 nin0))).keep Kq195 (ninS ne_b9_b21 (ninS ne_b9_ar29 nin0))).keep Kq200 (ninS ne_b9_b21 (ninS ne_b9_ar29 nin0)))
            have Fi205 : own_Find (own_set (own_set (own_set own_g0 kf186 b9) kf191 b14) kf196 b20) num na (some b9) (own_H na) := by
              have q := (Ta196).path b9 (by simp)
              rw [n1] at q; exact q
            have hn205 : ∀ (k : Nat) (y : Addr), (own_set (own_set (own_set own_g0 kf186 b9) kf191 b14) kf196 b20) k = some y → Fld Z T200.heap y "com/example/ajenda/ajenda/core/Job" "number" "J" (.long (num y)) := by
              intro k y q0
              have q := (Ta196).all k y q0
              simp only [List.mem_cons, List.not_mem_nil, or_false] at q
              rcases q with q | q | q
              · rw [q]; rw [n3]; exact f202
              · rw [q]; rw [n2]; exact f203
              · rw [q]; rw [n1]; exact f204
            have f206 := (f199.keep Kq200)
            obtain ⟨cq207, kq207, q207a, q207b, q207c⟩ := isOf hZ e200 f206
            obtain ⟨_, _, ⟨T207, L207, k207, n207⟩, -, X207, ⟨Lc207, hQ207, l207, y207, z207⟩, st207⟩ := X200.virtualBack hx (y := (⟨"com/example/ajenda/ajenda/core/JobsByNumber", "get", "(J)Lcom/example/ajenda/ajenda/core/Job;"⟩ : MethodName)) (z := (⟨"com/example/ajenda/ajenda/core/JobsByNumber", "get", "(J)Lcom/example/ajenda/ajenda/core/Job;"⟩ : MethodName)) hown (mvT hZ (hw _ (List.mem_of_getElem? (i := 80) rfl))) (mvT hZ (hw _ (List.mem_of_getElem? (i := 81) rfl))) (notFace_of_selects (args := #[]) (mvT hZ (hw _ (List.mem_of_getElem? (i := 83) rfl)))) (mvT hZ (hw _ (List.mem_of_getElem? (i := 83) rfl))) (mvT hZ (hw _ (List.mem_of_getElem? (i := 82) rfl))) (by decide) (backOf (W := 0) (rm_get l Z a0 hw [] b21 ar29 kk29 (own_set (own_set (own_set own_g0 kf186 b9) kf191 b14) kf196 b20) num na (some b9) T200.heap n0 Vq200 Fq200 hn205 Fi205) hZ (hw _ (List.mem_of_getElem? (i := 84) rfl)) (hw _ (List.mem_of_getElem? (i := 50) rfl)) (by decide) (by decide)) q207a q207c (g := (mkF m 218 #[.val (.long na), .second, .val (.long nb), .second, .val (.long nc), .second, .val (.long nq), .second, .val (.int fl), .val (.int (3 : Int32)), .val (.ref b4), .val (.ref b9), .val (.ref b14), .val (.ref b20), .val (.ref b21), .val (.ref b9), .val (.ref b14), .val (.ref b20), .val (.ref b9)] [(.long na), (.ref b21)])) rfl (by rw [hml]; rfl) (Steps.refl _) (argsL := [(.long na)]) (rest := []) (lenOf pd_7 rfl) rfl (by show 2 * 0 + _ ≤ _; exact Nat.le_of_eq rfl) (hb hby at_218) (fun _ _ => ⟨rfl, e200, (by decide : ((((((((1 + 2) + 5) + 2) + 5) + 2) + 5) + 1) + 1) + 0 ≤ _), (by decide : ((((((((8 + 4) + 29) + (8 + 4)) + 29) + (8 + 4)) + 29) + 2) + 16) + 0 ≤ _)⟩)
            dsimp only [Pt.U, Pt.locs, Pt.cells, Pt.slots] at X207 l207 y207 z207 st207 hQ207
            rw [l207, y207, z207] at X207
            obtain ⟨rfl, Nq207, e207⟩ := hQ207
            have N207 := Fr.app N200 Nq207
            refine own_viaW st207 ?_
            show own_GoW p e below s00 _ _ (T207.setTop (mkF m 221 #[.val (.long na), .second, .val (.long nb), .second, .val (.long nc), .second, .val (.long nq), .second, .val (.int fl), .val (.int (3 : Int32)), .val (.ref b4), .val (.ref b9), .val (.ref b14), .val (.ref b20), .val (.ref b21), .val (.ref b9), .val (.ref b14), .val (.ref b20), .val (.ref b9)] [(.ref b9)]))
            refine own_byW (fun tz kz => XS.aload X207.here hx rfl (hb hby at_221) rfl rfl kz) ?_
            show own_GoW p e below s00 _ _ (T207.setTop (mkF m 223 #[.val (.long na), .second, .val (.long nb), .second, .val (.long nc), .second, .val (.long nq), .second, .val (.int fl), .val (.int (3 : Int32)), .val (.ref b4), .val (.ref b9), .val (.ref b14), .val (.ref b20), .val (.ref b21), .val (.ref b9), .val (.ref b14), .val (.ref b20), .val (.ref b9)] [(.ref b9), (.ref b9)]))
            refine own_byW (fun tz kz => Jvm.RoadKit.acmp (g := (mkF m 223 #[.val (.long na), .second, .val (.long nb), .second, .val (.long nc), .second, .val (.long nq), .second, .val (.int fl), .val (.int (3 : Int32)), .val (.ref b4), .val (.ref b9), .val (.ref b14), .val (.ref b20), .val (.ref b21), .val (.ref b9), .val (.ref b14), .val (.ref b20), .val (.ref b9)] [(.ref b9), (.ref b9)])) X207 hx rfl rfl rfl (pc0 := 223) (pc' := 226) (same := true) rfl (hb hby at_223) rfl (decide_eq_true rfl) (by decide) (by decide) kz) ?_
            show own_GoW p e below s00 _ _ (T207.setTop (mkF m 226 #[.val (.long na), .second, .val (.long nb), .second, .val (.long nc), .second, .val (.long nq), .second, .val (.int fl), .val (.int (3 : Int32)), .val (.ref b4), .val (.ref b9), .val (.ref b14), .val (.ref b20), .val (.ref b21), .val (.ref b9), .val (.ref b14), .val (.ref b20), .val (.ref b9)] []))
            refine own_byW (fun tz kz => XS.aload X207.here hx rfl (hb hby at_226) rfl rfl kz) ?_
            show own_GoW p e below s00 _ _ (T207.setTop (mkF m 228 #[.val (.long na), .second, .val (.long nb), .second, .val (.long nc), .second, .val (.long nq), .second, .val (.int fl), .val (.int (3 : Int32)), .val (.ref b4), .val (.ref b9), .val (.ref b14), .val (.ref b20), .val (.ref b21), .val (.ref b9), .val (.ref b14), .val (.ref b20), .val (.ref b9)] [(.ref b21)]))
            refine own_byW (fun tz kz => XS.lloadN X207.here hx rfl (hb hby at_228) rfl kz) ?_
            show own_GoW p e below s00 _ _ (T207.setTop (mkF m 229 #[.val (.long na), .second, .val (.long nb), .second, .val (.long nc), .second, .val (.long nq), .second, .val (.int fl), .val (.int (3 : Int32)), .val (.ref b4), .val (.ref b9), .val (.ref b14), .val (.ref b20), .val (.ref b21), .val (.ref b9), .val (.ref b14), .val (.ref b20), .val (.ref b9)] [(.long nb), (.ref b21)]))
            have Fi208 : own_Find (own_set (own_set (own_set own_g0 kf186 b9) kf191 b14) kf196 b20) num nb (some b14) (own_H nb) := by
              have q := (Ta196).path b14 (by simp)
              rw [n2] at q; exact q
            have hn208 : ∀ (k : Nat) (y : Addr), (own_set (own_set (own_set own_g0 kf186 b9) kf191 b14) kf196 b20) k = some y → Fld Z T200.heap y "com/example/ajenda/ajenda/core/Job" "number" "J" (.long (num y)) := by
              intro k y q0
              have q := (Ta196).all k y q0
              simp only [List.mem_cons, List.not_mem_nil, or_false] at q
              rcases q with q | q | q
              · rw [q]; rw [n3]; exact f202
              · rw [q]; rw [n2]; exact f203
              · rw [q]; rw [n1]; exact f204
            obtain ⟨cq209, kq209, q209a, q209b, q209c⟩ := isOf hZ e207 f206
            obtain ⟨_, _, ⟨T209, L209, k209, n209⟩, -, X209, ⟨Lc209, hQ209, l209, y209, z209⟩, st209⟩ := X207.virtualBack hx (y := (⟨"com/example/ajenda/ajenda/core/JobsByNumber", "get", "(J)Lcom/example/ajenda/ajenda/core/Job;"⟩ : MethodName)) (z := (⟨"com/example/ajenda/ajenda/core/JobsByNumber", "get", "(J)Lcom/example/ajenda/ajenda/core/Job;"⟩ : MethodName)) hown (mvT hZ (hw _ (List.mem_of_getElem? (i := 80) rfl))) (mvT hZ (hw _ (List.mem_of_getElem? (i := 81) rfl))) (notFace_of_selects (args := #[]) (mvT hZ (hw _ (List.mem_of_getElem? (i := 83) rfl)))) (mvT hZ (hw _ (List.mem_of_getElem? (i := 83) rfl))) (mvT hZ (hw _ (List.mem_of_getElem? (i := 82) rfl))) (by decide) (backOf (W := 0) (rm_get l Z a0 hw [] b21 ar29 kk29 (own_set (own_set (own_set own_g0 kf186 b9) kf191 b14) kf196 b20) num nb (some b14) T200.heap n0 Vq200 Fq200 hn208 Fi208) hZ (hw _ (List.mem_of_getElem? (i := 84) rfl)) (hw _ (List.mem_of_getElem? (i := 50) rfl)) (by decide) (by decide)) q209a q209c (g := (mkF m 229 #[.val (.long na), .second, .val (.long nb), .second, .val (.long nc), .second, .val (.long nq), .second, .val (.int fl), .val (.int (3 : Int32)), .val (.ref b4), .val (.ref b9), .val (.ref b14), .val (.ref b20), .val (.ref b21), .val (.ref b9), .val (.ref b14), .val (.ref b20), .val (.ref b9)] [(.long nb), (.ref b21)])) rfl (by rw [hml]; rfl) (Steps.refl _) (argsL := [(.long nb)]) (rest := []) (lenOf pd_7 rfl) rfl (by show 2 * 0 + _ ≤ _; exact Nat.le_of_eq rfl) (hb hby at_229) (fun _ _ => ⟨rfl, e207, (by decide : ((((((((1 + 2) + 5) + 2) + 5) + 2) + 5) + 1) + 1) + 0 ≤ _), (by decide : ((((((((8 + 4) + 29) + (8 + 4)) + 29) + (8 + 4)) + 29) + 2) + 16) + 0 ≤ _)⟩)
            dsimp only [Pt.U, Pt.locs, Pt.cells, Pt.slots] at X209 l209 y209 z209 st209 hQ209
            rw [l209, y209, z209] at X209
            obtain ⟨rfl, Nq209, e209⟩ := hQ209
            have N209 := Fr.app N207 Nq209
            refine own_viaW st209 ?_
            show own_GoW p e below s00 _ _ (T209.setTop (mkF m 232 #[.val (.long na), .second, .val (.long nb), .second, .val (.long nc), .second, .val (.long nq), .second, .val (.int fl), .val (.int (3 : Int32)), .val (.ref b4), .val (.ref b9), .val (.ref b14), .val (.ref b20), .val (.ref b21), .val (.ref b9), .val (.ref b14), .val (.ref b20), .val (.ref b9)] [(.ref b14)]))
            refine own_byW (fun tz kz => XS.aload X209.here hx rfl (hb hby at_232) rfl rfl kz) ?_
            show own_GoW p e below s00 _ _ (T209.setTop (mkF m 234 #[.val (.long na), .second, .val (.long nb), .second, .val (.long nc), .second, .val (.long nq), .second, .val (.int fl), .val (.int (3 : Int32)), .val (.ref b4), .val (.ref b9), .val (.ref b14), .val (.ref b20), .val (.ref b21), .val (.ref b9), .val (.ref b14), .val (.ref b20), .val (.ref b9)] [(.ref b14), (.ref b14)]))
            refine own_byW (fun tz kz => Jvm.RoadKit.acmp (g := (mkF m 234 #[.val (.long na), .second, .val (.long nb), .second, .val (.long nc), .second, .val (.long nq), .second, .val (.int fl), .val (.int (3 : Int32)), .val (.ref b4), .val (.ref b9), .val (.ref b14), .val (.ref b20), .val (.ref b21), .val (.ref b9), .val (.ref b14), .val (.ref b20), .val (.ref b9)] [(.ref b14), (.ref b14)])) X209 hx rfl rfl rfl (pc0 := 234) (pc' := 237) (same := true) rfl (hb hby at_234) rfl (decide_eq_true rfl) (by decide) (by decide) kz) ?_
            show own_GoW p e below s00 _ _ (T209.setTop (mkF m 237 #[.val (.long na), .second, .val (.long nb), .second, .val (.long nc), .second, .val (.long nq), .second, .val (.int fl), .val (.int (3 : Int32)), .val (.ref b4), .val (.ref b9), .val (.ref b14), .val (.ref b20), .val (.ref b21), .val (.ref b9), .val (.ref b14), .val (.ref b20), .val (.ref b9)] []))
            refine own_byW (fun tz kz => XS.aload X209.here hx rfl (hb hby at_237) rfl rfl kz) ?_
            show own_GoW p e below s00 _ _ (T209.setTop (mkF m 239 #[.val (.long na), .second, .val (.long nb), .second, .val (.long nc), .second, .val (.long nq), .second, .val (.int fl), .val (.int (3 : Int32)), .val (.ref b4), .val (.ref b9), .val (.ref b14), .val (.ref b20), .val (.ref b21), .val (.ref b9), .val (.ref b14), .val (.ref b20), .val (.ref b9)] [(.ref b21)]))
            refine own_byW (fun tz kz => XS.lload X209.here hx rfl (hb hby at_239) rfl kz) ?_
            show own_GoW p e below s00 _ _ (T209.setTop (mkF m 241 #[.val (.long na), .second, .val (.long nb), .second, .val (.long nc), .second, .val (.long nq), .second, .val (.int fl), .val (.int (3 : Int32)), .val (.ref b4), .val (.ref b9), .val (.ref b14), .val (.ref b20), .val (.ref b21), .val (.ref b9), .val (.ref b14), .val (.ref b20), .val (.ref b9)] [(.long nc), (.ref b21)]))
            have Fi210 : own_Find (own_set (own_set (own_set own_g0 kf186 b9) kf191 b14) kf196 b20) num nc (some b20) (own_H nc) := by
              have q := (Ta196).path b20 (by simp)
              rw [n3] at q; exact q
            have hn210 : ∀ (k : Nat) (y : Addr), (own_set (own_set (own_set own_g0 kf186 b9) kf191 b14) kf196 b20) k = some y → Fld Z T200.heap y "com/example/ajenda/ajenda/core/Job" "number" "J" (.long (num y)) := by
              intro k y q0
              have q := (Ta196).all k y q0
              simp only [List.mem_cons, List.not_mem_nil, or_false] at q
              rcases q with q | q | q
              · rw [q]; rw [n3]; exact f202
              · rw [q]; rw [n2]; exact f203
              · rw [q]; rw [n1]; exact f204
            obtain ⟨cq211, kq211, q211a, q211b, q211c⟩ := isOf hZ e209 f206
            obtain ⟨_, _, ⟨T211, L211, k211, n211⟩, -, X211, ⟨Lc211, hQ211, l211, y211, z211⟩, st211⟩ := X209.virtualBack hx (y := (⟨"com/example/ajenda/ajenda/core/JobsByNumber", "get", "(J)Lcom/example/ajenda/ajenda/core/Job;"⟩ : MethodName)) (z := (⟨"com/example/ajenda/ajenda/core/JobsByNumber", "get", "(J)Lcom/example/ajenda/ajenda/core/Job;"⟩ : MethodName)) hown (mvT hZ (hw _ (List.mem_of_getElem? (i := 80) rfl))) (mvT hZ (hw _ (List.mem_of_getElem? (i := 81) rfl))) (notFace_of_selects (args := #[]) (mvT hZ (hw _ (List.mem_of_getElem? (i := 83) rfl)))) (mvT hZ (hw _ (List.mem_of_getElem? (i := 83) rfl))) (mvT hZ (hw _ (List.mem_of_getElem? (i := 82) rfl))) (by decide) (backOf (W := 0) (rm_get l Z a0 hw [] b21 ar29 kk29 (own_set (own_set (own_set own_g0 kf186 b9) kf191 b14) kf196 b20) num nc (some b20) T200.heap n0 Vq200 Fq200 hn210 Fi210) hZ (hw _ (List.mem_of_getElem? (i := 84) rfl)) (hw _ (List.mem_of_getElem? (i := 50) rfl)) (by decide) (by decide)) q211a q211c (g := (mkF m 241 #[.val (.long na), .second, .val (.long nb), .second, .val (.long nc), .second, .val (.long nq), .second, .val (.int fl), .val (.int (3 : Int32)), .val (.ref b4), .val (.ref b9), .val (.ref b14), .val (.ref b20), .val (.ref b21), .val (.ref b9), .val (.ref b14), .val (.ref b20), .val (.ref b9)] [(.long nc), (.ref b21)])) rfl (by rw [hml]; rfl) (Steps.refl _) (argsL := [(.long nc)]) (rest := []) (lenOf pd_7 rfl) rfl (by show 2 * 0 + _ ≤ _; exact Nat.le_of_eq rfl) (hb hby at_241) (fun _ _ => ⟨rfl, e209, (by decide : ((((((((1 + 2) + 5) + 2) + 5) + 2) + 5) + 1) + 1) + 0 ≤ _), (by decide : ((((((((8 + 4) + 29) + (8 + 4)) + 29) + (8 + 4)) + 29) + 2) + 16) + 0 ≤ _)⟩)
            dsimp only [Pt.U, Pt.locs, Pt.cells, Pt.slots] at X211 l211 y211 z211 st211 hQ211
            rw [l211, y211, z211] at X211
            obtain ⟨rfl, Nq211, e211⟩ := hQ211
            have N211 := Fr.app N209 Nq211
            refine own_viaW st211 ?_
            show own_GoW p e below s00 _ _ (T211.setTop (mkF m 244 #[.val (.long na), .second, .val (.long nb), .second, .val (.long nc), .second, .val (.long nq), .second, .val (.int fl), .val (.int (3 : Int32)), .val (.ref b4), .val (.ref b9), .val (.ref b14), .val (.ref b20), .val (.ref b21), .val (.ref b9), .val (.ref b14), .val (.ref b20), .val (.ref b9)] [(.ref b20)]))
            refine own_byW (fun tz kz => XS.aload X211.here hx rfl (hb hby at_244) rfl rfl kz) ?_
            show own_GoW p e below s00 _ _ (T211.setTop (mkF m 246 #[.val (.long na), .second, .val (.long nb), .second, .val (.long nc), .second, .val (.long nq), .second, .val (.int fl), .val (.int (3 : Int32)), .val (.ref b4), .val (.ref b9), .val (.ref b14), .val (.ref b20), .val (.ref b21), .val (.ref b9), .val (.ref b14), .val (.ref b20), .val (.ref b9)] [(.ref b20), (.ref b20)]))
            refine own_byW (fun tz kz => Jvm.RoadKit.acmp (g := (mkF m 246 #[.val (.long na), .second, .val (.long nb), .second, .val (.long nc), .second, .val (.long nq), .second, .val (.int fl), .val (.int (3 : Int32)), .val (.ref b4), .val (.ref b9), .val (.ref b14), .val (.ref b20), .val (.ref b21), .val (.ref b9), .val (.ref b14), .val (.ref b20), .val (.ref b9)] [(.ref b20), (.ref b20)])) X211 hx rfl rfl rfl (pc0 := 246) (pc' := 249) (same := true) rfl (hb hby at_246) rfl (decide_eq_true rfl) (by decide) (by decide) kz) ?_
            show own_GoW p e below s00 _ _ (T211.setTop (mkF m 249 #[.val (.long na), .second, .val (.long nb), .second, .val (.long nc), .second, .val (.long nq), .second, .val (.int fl), .val (.int (3 : Int32)), .val (.ref b4), .val (.ref b9), .val (.ref b14), .val (.ref b20), .val (.ref b21), .val (.ref b9), .val (.ref b14), .val (.ref b20), .val (.ref b9)] []))
            refine own_byW (fun tz kz => XS.aload X211.here hx rfl (hb hby at_249) rfl rfl kz) ?_
            show own_GoW p e below s00 _ _ (T211.setTop (mkF m 251 #[.val (.long na), .second, .val (.long nb), .second, .val (.long nc), .second, .val (.long nq), .second, .val (.int fl), .val (.int (3 : Int32)), .val (.ref b4), .val (.ref b9), .val (.ref b14), .val (.ref b20), .val (.ref b21), .val (.ref b9), .val (.ref b14), .val (.ref b20), .val (.ref b9)] [(.ref b21)]))
            refine own_byW (fun tz kz => XS.lload X211.here hx rfl (hb hby at_251) rfl kz) ?_
            show own_GoW p e below s00 _ _ (T211.setTop (mkF m 253 #[.val (.long na), .second, .val (.long nb), .second, .val (.long nc), .second, .val (.long nq), .second, .val (.int fl), .val (.int (3 : Int32)), .val (.ref b4), .val (.ref b9), .val (.ref b14), .val (.ref b20), .val (.ref b21), .val (.ref b9), .val (.ref b14), .val (.ref b20), .val (.ref b9)] [(.long nq), (.ref b21)]))
            have Fi212 : own_Find (own_set (own_set (own_set own_g0 kf186 b9) kf191 b14) kf196 b20) num nq (some b9) (own_H nq) := by
              rw [hc179_201]
              have q := (Ta196).path b9 (by simp)
              rw [n1] at q; exact q
            have hn212 : ∀ (k : Nat) (y : Addr), (own_set (own_set (own_set own_g0 kf186 b9) kf191 b14) kf196 b20) k = some y → Fld Z T200.heap y "com/example/ajenda/ajenda/core/Job" "number" "J" (.long (num y)) := by
              intro k y q0
              have q := (Ta196).all k y q0
              simp only [List.mem_cons, List.not_mem_nil, or_false] at q
              rcases q with q | q | q
              · rw [q]; rw [n3]; exact f202
              · rw [q]; rw [n2]; exact f203
              · rw [q]; rw [n1]; exact f204
            obtain ⟨cq213, kq213, q213a, q213b, q213c⟩ := isOf hZ e211 f206
            obtain ⟨_, _, ⟨T213, L213, k213, n213⟩, -, X213, ⟨Lc213, hQ213, l213, y213, z213⟩, st213⟩ := X211.virtualBack hx (y := (⟨"com/example/ajenda/ajenda/core/JobsByNumber", "get", "(J)Lcom/example/ajenda/ajenda/core/Job;"⟩ : MethodName)) (z := (⟨"com/example/ajenda/ajenda/core/JobsByNumber", "get", "(J)Lcom/example/ajenda/ajenda/core/Job;"⟩ : MethodName)) hown (mvT hZ (hw _ (List.mem_of_getElem? (i := 80) rfl))) (mvT hZ (hw _ (List.mem_of_getElem? (i := 81) rfl))) (notFace_of_selects (args := #[]) (mvT hZ (hw _ (List.mem_of_getElem? (i := 83) rfl)))) (mvT hZ (hw _ (List.mem_of_getElem? (i := 83) rfl))) (mvT hZ (hw _ (List.mem_of_getElem? (i := 82) rfl))) (by decide) (backOf (W := 0) (rm_get l Z a0 hw [] b21 ar29 kk29 (own_set (own_set (own_set own_g0 kf186 b9) kf191 b14) kf196 b20) num nq (some b9) T200.heap n0 Vq200 Fq200 hn212 Fi212) hZ (hw _ (List.mem_of_getElem? (i := 84) rfl)) (hw _ (List.mem_of_getElem? (i := 50) rfl)) (by decide) (by decide)) q213a q213c (g := (mkF m 253 #[.val (.long na), .second, .val (.long nb), .second, .val (.long nc), .second, .val (.long nq), .second, .val (.int fl), .val (.int (3 : Int32)), .val (.ref b4), .val (.ref b9), .val (.ref b14), .val (.ref b20), .val (.ref b21), .val (.ref b9), .val (.ref b14), .val (.ref b20), .val (.ref b9)] [(.long nq), (.ref b21)])) rfl (by rw [hml]; rfl) (Steps.refl _) (argsL := [(.long nq)]) (rest := []) (lenOf pd_7 rfl) rfl (by show 2 * 0 + _ ≤ _; exact Nat.le_of_eq rfl) (hb hby at_253) (fun _ _ => ⟨rfl, e211, (by decide : ((((((((1 + 2) + 5) + 2) + 5) + 2) + 5) + 1) + 1) + 0 ≤ _), (by decide : ((((((((8 + 4) + 29) + (8 + 4)) + 29) + (8 + 4)) + 29) + 2) + 16) + 0 ≤ _)⟩)
            dsimp only [Pt.U, Pt.locs, Pt.cells, Pt.slots] at X213 l213 y213 z213 st213 hQ213
            rw [l213, y213, z213] at X213
            obtain ⟨rfl, Nq213, e213⟩ := hQ213
            have N213 := Fr.app N211 Nq213
            refine own_viaW st213 ?_
            show own_GoW p e below s00 _ _ (T213.setTop (mkF m 256 #[.val (.long na), .second, .val (.long nb), .second, .val (.long nc), .second, .val (.long nq), .second, .val (.int fl), .val (.int (3 : Int32)), .val (.ref b4), .val (.ref b9), .val (.ref b14), .val (.ref b20), .val (.ref b21), .val (.ref b9), .val (.ref b14), .val (.ref b20), .val (.ref b9)] [(.ref b9)]))
            refine own_byW (fun tz kz => XS.aload X213.here hx rfl (hb hby at_256) rfl rfl kz) ?_
            show own_GoW p e below s00 _ _ (T213.setTop (mkF m 258 #[.val (.long na), .second, .val (.long nb), .second, .val (.long nc), .second, .val (.long nq), .second, .val (.int fl), .val (.int (3 : Int32)), .val (.ref b4), .val (.ref b9), .val (.ref b14), .val (.ref b20), .val (.ref b21), .val (.ref b9), .val (.ref b14), .val (.ref b20), .val (.ref b9)] [(.ref b9), (.ref b9)]))
            refine own_byW (fun tz kz => Jvm.RoadKit.acmp (g := (mkF m 258 #[.val (.long na), .second, .val (.long nb), .second, .val (.long nc), .second, .val (.long nq), .second, .val (.int fl), .val (.int (3 : Int32)), .val (.ref b4), .val (.ref b9), .val (.ref b14), .val (.ref b20), .val (.ref b21), .val (.ref b9), .val (.ref b14), .val (.ref b20), .val (.ref b9)] [(.ref b9), (.ref b9)])) X213 hx rfl rfl rfl (pc0 := 258) (pc' := 261) (same := true) rfl (hb hby at_258) rfl (decide_eq_true rfl) (by decide) (by decide) kz) ?_
            show own_GoW p e below s00 _ _ (T213.setTop (mkF m 261 #[.val (.long na), .second, .val (.long nb), .second, .val (.long nc), .second, .val (.long nq), .second, .val (.int fl), .val (.int (3 : Int32)), .val (.ref b4), .val (.ref b9), .val (.ref b14), .val (.ref b20), .val (.ref b21), .val (.ref b9), .val (.ref b14), .val (.ref b20), .val (.ref b9)] []))
            refine own_byW (fun tz kz => XS.iconst X213.here hx rfl (hb hby at_261) kz) ?_
            show own_GoW p e below s00 _ _ (T213.setTop (mkF m 262 #[.val (.long na), .second, .val (.long nb), .second, .val (.long nc), .second, .val (.long nq), .second, .val (.int fl), .val (.int (3 : Int32)), .val (.ref b4), .val (.ref b9), .val (.ref b14), .val (.ref b20), .val (.ref b21), .val (.ref b9), .val (.ref b14), .val (.ref b20), .val (.ref b9)] [(.int (1 : Int32))]))
            refine own_byW (fun tz kz => XS.goto X213.here hx rfl (pc0 := 262) (pc' := 266) rfl (hb hby at_262) (by decide) (by decide) kz) ?_
            show own_GoW p e below s00 _ _ (T213.setTop (mkF m 266 #[.val (.long na), .second, .val (.long nb), .second, .val (.long nc), .second, .val (.long nq), .second, .val (.int fl), .val (.int (3 : Int32)), .val (.ref b4), .val (.ref b9), .val (.ref b14), .val (.ref b20), .val (.ref b21), .val (.ref b9), .val (.ref b14), .val (.ref b20), .val (.ref b9)] [(.int (1 : Int32))]))
            have A214 := (own_At.up (own_At.up (own_At.up (own_At.up (own_At.up A20 E21.1) Kq29.1) Kq190.1) Kq195.1) Kq200.1)
            refine own_retIW X213 e213 A214 hx hlk (t := .boolean) hret (by simp) rfl (hb hby at_266) ?_ (by decide) (by decide)
            exact ⟨rfl, N213⟩
          · refine own_byW (fun tz kz => XS.ifYes X200.here hx rfl (pc0 := 179) (pc' := 189) rfl (hb hby at_179) rfl ((if0 _ _).trans (feq (fun q => hc179_201 ((lw_eq nq na).mp q))).2) (by decide) (by decide) kz) ?_
            show own_GoW p e below s00 _ _ (T200.setTop (mkF m 189 #[.val (.long na), .second, .val (.long nb), .second, .val (.long nc), .second, .val (.long nq), .second, .val (.int fl), .val (.int (3 : Int32)), .val (.ref b4), .val (.ref b9), .val (.ref b14), .val (.ref b20), .val (.ref b21), .val (.ref b9), .val (.ref b14), .val (.ref b20), .val .null] []))
            refine own_byW (fun tz kz => XS.lload X200.here hx rfl (hb hby at_189) rfl kz) ?_
            show own_GoW p e below s00 _ _ (T200.setTop (mkF m 191 #[.val (.long na), .second, .val (.long nb), .second, .val (.long nc), .second, .val (.long nq), .second, .val (.int fl), .val (.int (3 : Int32)), .val (.ref b4), .val (.ref b9), .val (.ref b14), .val (.ref b20), .val (.ref b21), .val (.ref b9), .val (.ref b14), .val (.ref b20), .val .null] [(.long nq)]))
            refine own_byW (fun tz kz => XS.lloadN X200.here hx rfl (hb hby at_191) rfl kz) ?_
            show own_GoW p e below s00 _ _ (T200.setTop (mkF m 192 #[.val (.long na), .second, .val (.long nb), .second, .val (.long nc), .second, .val (.long nq), .second, .val (.int fl), .val (.int (3 : Int32)), .val (.ref b4), .val (.ref b9), .val (.ref b14), .val (.ref b20), .val (.ref b21), .val (.ref b9), .val (.ref b14), .val (.ref b20), .val .null] [(.long nb), (.long nq)]))
            refine own_byW (fun tz kz => XS.lcmp X200.here hx rfl (hb hby at_192) rfl kz) ?_
            show own_GoW p e below s00 _ _ (T200.setTop (mkF m 193 #[.val (.long na), .second, .val (.long nb), .second, .val (.long nc), .second, .val (.long nq), .second, .val (.int fl), .val (.int (3 : Int32)), .val (.ref b4), .val (.ref b9), .val (.ref b14), .val (.ref b20), .val (.ref b21), .val (.ref b9), .val (.ref b14), .val (.ref b20), .val .null] [(.int (lcmpW nq nb))]))
            by_cases hc193_215 : nq = nb
            · refine own_byW (fun tz kz => XS.ifNo X200.here hx rfl (hb hby at_193) rfl ((if0 _ _).trans (teq ((lw_eq nq nb).mpr hc193_215)).2) kz) ?_
              show own_GoW p e below s00 _ _ (T200.setTop (mkF m 196 #[.val (.long na), .second, .val (.long nb), .second, .val (.long nc), .second, .val (.long nq), .second, .val (.int fl), .val (.int (3 : Int32)), .val (.ref b4), .val (.ref b9), .val (.ref b14), .val (.ref b20), .val (.ref b21), .val (.ref b9), .val (.ref b14), .val (.ref b20), .val .null] []))
              refine own_byW (fun tz kz => XS.aload X200.here hx rfl (hb hby at_196) rfl rfl kz) ?_
              show own_GoW p e below s00 _ _ (T200.setTop (mkF m 198 #[.val (.long na), .second, .val (.long nb), .second, .val (.long nc), .second, .val (.long nq), .second, .val (.int fl), .val (.int (3 : Int32)), .val (.ref b4), .val (.ref b9), .val (.ref b14), .val (.ref b20), .val (.ref b21), .val (.ref b9), .val (.ref b14), .val (.ref b20), .val .null] [(.ref b14)]))
              refine own_byW (fun tz kz => XS.astore X200.here hx rfl (hb hby at_198) rfl rfl (l' := #[.val (.long na), .second, .val (.long nb), .second, .val (.long nc), .second, .val (.long nq), .second, .val (.int fl), .val (.int (3 : Int32)), .val (.ref b4), .val (.ref b9), .val (.ref b14), .val (.ref b20), .val (.ref b21), .val (.ref b9), .val (.ref b14), .val (.ref b20), .val (.ref b14)]) rfl kz) ?_
              show own_GoW p e below s00 _ _ (T200.setTop (mkF m 200 #[.val (.long na), .second, .val (.long nb), .second, .val (.long nc), .second, .val (.long nq), .second, .val (.int fl), .val (.int (3 : Int32)), .val (.ref b4), .val (.ref b9), .val (.ref b14), .val (.ref b20), .val (.ref b21), .val (.ref b9), .val (.ref b14), .val (.ref b20), .val (.ref b14)] []))
              refine own_byW (fun tz kz => XS.goto X200.here hx rfl (pc0 := 200) (pc' := 215) rfl (hb hby at_200) (by decide) (by decide) kz) ?_
              show own_GoW p e below s00 _ _ (T200.setTop (mkF m 215 #[.val (.long na), .second, .val (.long nb), .second, .val (.long nc), .second, .val (.long nq), .second, .val (.int fl), .val (.int (3 : Int32)), .val (.ref b4), .val (.ref b9), .val (.ref b14), .val (.ref b20), .val (.ref b21), .val (.ref b9), .val (.ref b14), .val (.ref b20), .val (.ref b14)] []))
              refine own_byW (fun tz kz => XS.aload X200.here hx rfl (hb hby at_215) rfl rfl kz) ?_
              show own_GoW p e below s00 _ _ (T200.setTop (mkF m 217 #[.val (.long na), .second, .val (.long nb), .second, .val (.long nc), .second, .val (.long nq), .second, .val (.int fl), .val (.int (3 : Int32)), .val (.ref b4), .val (.ref b9), .val (.ref b14), .val (.ref b20), .val (.ref b21), .val (.ref b9), .val (.ref b14), .val (.ref b20), .val (.ref b14)] [(.ref b21)]))
              refine own_byW (fun tz kz => XS.lloadN X200.here hx rfl (hb hby at_217) rfl kz) ?_
              show own_GoW p e below s00 _ _ (T200.setTop (mkF m 218 #[.val (.long na), .second, .val (.long nb), .second, .val (.long nc), .second, .val (.long nq), .second, .val (.int fl), .val (.int (3 : Int32)), .val (.ref b4), .val (.ref b9), .val (.ref b14), .val (.ref b20), .val (.ref b21), .val (.ref b9), .val (.ref b14), .val (.ref b20), .val (.ref b14)] [(.long na), (.ref b21)]))
              have f216 := (f198.keep Kq200 (ninS ne_b20_b21 (ninS ne_b20_ar29 nin0)))
              have f217 := ((f193.keep Kq195 (ninS ne_b14_b21 (ninS ne_b14_ar29 nin0))).keep Kq200 (ninS ne_b14_b21 (ninS ne_b14_ar29 nin0)))
              have f218 := (((f188.keep Kq190 (ninS ne_b9_b21 (ninS ne_b9_ar29 nin0))).keep Kq195 (ninS ne_b9_b21 (ninS ne_b9_ar29 nin0))).keep Kq200 (ninS ne_b9_b21 (ninS ne_b9_ar29 nin0)))
              have Fi219 : own_Find (own_set (own_set (own_set own_g0 kf186 b9) kf191 b14) kf196 b20) num na (some b9) (own_H na) := by
                have q := (Ta196).path b9 (by simp)
                rw [n1] at q; exact q
              have hn219 : ∀ (k : Nat) (y : Addr), (own_set (own_set (own_set own_g0 kf186 b9) kf191 b14) kf196 b20) k = some y → Fld Z T200.heap y "com/example/ajenda/ajenda/core/Job" "number" "J" (.long (num y)) := by
                intro k y q0
                have q := (Ta196).all k y q0
                simp only [List.mem_cons, List.not_mem_nil, or_false] at q
                rcases q with q | q | q
                · rw [q]; rw [n3]; exact f216
                · rw [q]; rw [n2]; exact f217
                · rw [q]; rw [n1]; exact f218
              have f220 := (f199.keep Kq200)
              obtain ⟨cq221, kq221, q221a, q221b, q221c⟩ := isOf hZ e200 f220
              obtain ⟨_, _, ⟨T221, L221, k221, n221⟩, -, X221, ⟨Lc221, hQ221, l221, y221, z221⟩, st221⟩ := X200.virtualBack hx (y := (⟨"com/example/ajenda/ajenda/core/JobsByNumber", "get", "(J)Lcom/example/ajenda/ajenda/core/Job;"⟩ : MethodName)) (z := (⟨"com/example/ajenda/ajenda/core/JobsByNumber", "get", "(J)Lcom/example/ajenda/ajenda/core/Job;"⟩ : MethodName)) hown (mvT hZ (hw _ (List.mem_of_getElem? (i := 80) rfl))) (mvT hZ (hw _ (List.mem_of_getElem? (i := 81) rfl))) (notFace_of_selects (args := #[]) (mvT hZ (hw _ (List.mem_of_getElem? (i := 83) rfl)))) (mvT hZ (hw _ (List.mem_of_getElem? (i := 83) rfl))) (mvT hZ (hw _ (List.mem_of_getElem? (i := 82) rfl))) (by decide) (backOf (W := 0) (rm_get l Z a0 hw [] b21 ar29 kk29 (own_set (own_set (own_set own_g0 kf186 b9) kf191 b14) kf196 b20) num na (some b9) T200.heap n0 Vq200 Fq200 hn219 Fi219) hZ (hw _ (List.mem_of_getElem? (i := 84) rfl)) (hw _ (List.mem_of_getElem? (i := 50) rfl)) (by decide) (by decide)) q221a q221c (g := (mkF m 218 #[.val (.long na), .second, .val (.long nb), .second, .val (.long nc), .second, .val (.long nq), .second, .val (.int fl), .val (.int (3 : Int32)), .val (.ref b4), .val (.ref b9), .val (.ref b14), .val (.ref b20), .val (.ref b21), .val (.ref b9), .val (.ref b14), .val (.ref b20), .val (.ref b14)] [(.long na), (.ref b21)])) rfl (by rw [hml]; rfl) (Steps.refl _) (argsL := [(.long na)]) (rest := []) (lenOf pd_7 rfl) rfl (by show 2 * 0 + _ ≤ _; exact Nat.le_of_eq rfl) (hb hby at_218) (fun _ _ => ⟨rfl, e200, (by decide : ((((((((1 + 2) + 5) + 2) + 5) + 2) + 5) + 1) + 1) + 0 ≤ _), (by decide : ((((((((8 + 4) + 29) + (8 + 4)) + 29) + (8 + 4)) + 29) + 2) + 16) + 0 ≤ _)⟩)
              dsimp only [Pt.U, Pt.locs, Pt.cells, Pt.slots] at X221 l221 y221 z221 st221 hQ221
              rw [l221, y221, z221] at X221
              obtain ⟨rfl, Nq221, e221⟩ := hQ221
              have N221 := Fr.app N200 Nq221
              refine own_viaW st221 ?_
              show own_GoW p e below s00 _ _ (T221.setTop (mkF m 221 #[.val (.long na), .second, .val (.long nb), .second, .val (.long nc), .second, .val (.long nq), .second, .val (.int fl), .val (.int (3 : Int32)), .val (.ref b4), .val (.ref b9), .val (.ref b14), .val (.ref b20), .val (.ref b21), .val (.ref b9), .val (.ref b14), .val (.ref b20), .val (.ref b14)] [(.ref b9)]))
              refine own_byW (fun tz kz => XS.aload X221.here hx rfl (hb hby at_221) rfl rfl kz) ?_
              show own_GoW p e below s00 _ _ (T221.setTop (mkF m 223 #[.val (.long na), .second, .val (.long nb), .second, .val (.long nc), .second, .val (.long nq), .second, .val (.int fl), .val (.int (3 : Int32)), .val (.ref b4), .val (.ref b9), .val (.ref b14), .val (.ref b20), .val (.ref b21), .val (.ref b9), .val (.ref b14), .val (.ref b20), .val (.ref b14)] [(.ref b9), (.ref b9)]))
              refine own_byW (fun tz kz => Jvm.RoadKit.acmp (g := (mkF m 223 #[.val (.long na), .second, .val (.long nb), .second, .val (.long nc), .second, .val (.long nq), .second, .val (.int fl), .val (.int (3 : Int32)), .val (.ref b4), .val (.ref b9), .val (.ref b14), .val (.ref b20), .val (.ref b21), .val (.ref b9), .val (.ref b14), .val (.ref b20), .val (.ref b14)] [(.ref b9), (.ref b9)])) X221 hx rfl rfl rfl (pc0 := 223) (pc' := 226) (same := true) rfl (hb hby at_223) rfl (decide_eq_true rfl) (by decide) (by decide) kz) ?_
              show own_GoW p e below s00 _ _ (T221.setTop (mkF m 226 #[.val (.long na), .second, .val (.long nb), .second, .val (.long nc), .second, .val (.long nq), .second, .val (.int fl), .val (.int (3 : Int32)), .val (.ref b4), .val (.ref b9), .val (.ref b14), .val (.ref b20), .val (.ref b21), .val (.ref b9), .val (.ref b14), .val (.ref b20), .val (.ref b14)] []))
              refine own_byW (fun tz kz => XS.aload X221.here hx rfl (hb hby at_226) rfl rfl kz) ?_
              show own_GoW p e below s00 _ _ (T221.setTop (mkF m 228 #[.val (.long na), .second, .val (.long nb), .second, .val (.long nc), .second, .val (.long nq), .second, .val (.int fl), .val (.int (3 : Int32)), .val (.ref b4), .val (.ref b9), .val (.ref b14), .val (.ref b20), .val (.ref b21), .val (.ref b9), .val (.ref b14), .val (.ref b20), .val (.ref b14)] [(.ref b21)]))
              refine own_byW (fun tz kz => XS.lloadN X221.here hx rfl (hb hby at_228) rfl kz) ?_
              show own_GoW p e below s00 _ _ (T221.setTop (mkF m 229 #[.val (.long na), .second, .val (.long nb), .second, .val (.long nc), .second, .val (.long nq), .second, .val (.int fl), .val (.int (3 : Int32)), .val (.ref b4), .val (.ref b9), .val (.ref b14), .val (.ref b20), .val (.ref b21), .val (.ref b9), .val (.ref b14), .val (.ref b20), .val (.ref b14)] [(.long nb), (.ref b21)]))
              have Fi222 : own_Find (own_set (own_set (own_set own_g0 kf186 b9) kf191 b14) kf196 b20) num nb (some b14) (own_H nb) := by
                have q := (Ta196).path b14 (by simp)
                rw [n2] at q; exact q
              have hn222 : ∀ (k : Nat) (y : Addr), (own_set (own_set (own_set own_g0 kf186 b9) kf191 b14) kf196 b20) k = some y → Fld Z T200.heap y "com/example/ajenda/ajenda/core/Job" "number" "J" (.long (num y)) := by
                intro k y q0
                have q := (Ta196).all k y q0
                simp only [List.mem_cons, List.not_mem_nil, or_false] at q
                rcases q with q | q | q
                · rw [q]; rw [n3]; exact f216
                · rw [q]; rw [n2]; exact f217
                · rw [q]; rw [n1]; exact f218
              obtain ⟨cq223, kq223, q223a, q223b, q223c⟩ := isOf hZ e221 f220
              obtain ⟨_, _, ⟨T223, L223, k223, n223⟩, -, X223, ⟨Lc223, hQ223, l223, y223, z223⟩, st223⟩ := X221.virtualBack hx (y := (⟨"com/example/ajenda/ajenda/core/JobsByNumber", "get", "(J)Lcom/example/ajenda/ajenda/core/Job;"⟩ : MethodName)) (z := (⟨"com/example/ajenda/ajenda/core/JobsByNumber", "get", "(J)Lcom/example/ajenda/ajenda/core/Job;"⟩ : MethodName)) hown (mvT hZ (hw _ (List.mem_of_getElem? (i := 80) rfl))) (mvT hZ (hw _ (List.mem_of_getElem? (i := 81) rfl))) (notFace_of_selects (args := #[]) (mvT hZ (hw _ (List.mem_of_getElem? (i := 83) rfl)))) (mvT hZ (hw _ (List.mem_of_getElem? (i := 83) rfl))) (mvT hZ (hw _ (List.mem_of_getElem? (i := 82) rfl))) (by decide) (backOf (W := 0) (rm_get l Z a0 hw [] b21 ar29 kk29 (own_set (own_set (own_set own_g0 kf186 b9) kf191 b14) kf196 b20) num nb (some b14) T200.heap n0 Vq200 Fq200 hn222 Fi222) hZ (hw _ (List.mem_of_getElem? (i := 84) rfl)) (hw _ (List.mem_of_getElem? (i := 50) rfl)) (by decide) (by decide)) q223a q223c (g := (mkF m 229 #[.val (.long na), .second, .val (.long nb), .second, .val (.long nc), .second, .val (.long nq), .second, .val (.int fl), .val (.int (3 : Int32)), .val (.ref b4), .val (.ref b9), .val (.ref b14), .val (.ref b20), .val (.ref b21), .val (.ref b9), .val (.ref b14), .val (.ref b20), .val (.ref b14)] [(.long nb), (.ref b21)])) rfl (by rw [hml]; rfl) (Steps.refl _) (argsL := [(.long nb)]) (rest := []) (lenOf pd_7 rfl) rfl (by show 2 * 0 + _ ≤ _; exact Nat.le_of_eq rfl) (hb hby at_229) (fun _ _ => ⟨rfl, e221, (by decide : ((((((((1 + 2) + 5) + 2) + 5) + 2) + 5) + 1) + 1) + 0 ≤ _), (by decide : ((((((((8 + 4) + 29) + (8 + 4)) + 29) + (8 + 4)) + 29) + 2) + 16) + 0 ≤ _)⟩)
              dsimp only [Pt.U, Pt.locs, Pt.cells, Pt.slots] at X223 l223 y223 z223 st223 hQ223
              rw [l223, y223, z223] at X223
              obtain ⟨rfl, Nq223, e223⟩ := hQ223
              have N223 := Fr.app N221 Nq223
              refine own_viaW st223 ?_
              show own_GoW p e below s00 _ _ (T223.setTop (mkF m 232 #[.val (.long na), .second, .val (.long nb), .second, .val (.long nc), .second, .val (.long nq), .second, .val (.int fl), .val (.int (3 : Int32)), .val (.ref b4), .val (.ref b9), .val (.ref b14), .val (.ref b20), .val (.ref b21), .val (.ref b9), .val (.ref b14), .val (.ref b20), .val (.ref b14)] [(.ref b14)]))
              refine own_byW (fun tz kz => XS.aload X223.here hx rfl (hb hby at_232) rfl rfl kz) ?_
              show own_GoW p e below s00 _ _ (T223.setTop (mkF m 234 #[.val (.long na), .second, .val (.long nb), .second, .val (.long nc), .second, .val (.long nq), .second, .val (.int fl), .val (.int (3 : Int32)), .val (.ref b4), .val (.ref b9), .val (.ref b14), .val (.ref b20), .val (.ref b21), .val (.ref b9), .val (.ref b14), .val (.ref b20), .val (.ref b14)] [(.ref b14), (.ref b14)]))
              refine own_byW (fun tz kz => Jvm.RoadKit.acmp (g := (mkF m 234 #[.val (.long na), .second, .val (.long nb), .second, .val (.long nc), .second, .val (.long nq), .second, .val (.int fl), .val (.int (3 : Int32)), .val (.ref b4), .val (.ref b9), .val (.ref b14), .val (.ref b20), .val (.ref b21), .val (.ref b9), .val (.ref b14), .val (.ref b20), .val (.ref b14)] [(.ref b14), (.ref b14)])) X223 hx rfl rfl rfl (pc0 := 234) (pc' := 237) (same := true) rfl (hb hby at_234) rfl (decide_eq_true rfl) (by decide) (by decide) kz) ?_
              show own_GoW p e below s00 _ _ (T223.setTop (mkF m 237 #[.val (.long na), .second, .val (.long nb), .second, .val (.long nc), .second, .val (.long nq), .second, .val (.int fl), .val (.int (3 : Int32)), .val (.ref b4), .val (.ref b9), .val (.ref b14), .val (.ref b20), .val (.ref b21), .val (.ref b9), .val (.ref b14), .val (.ref b20), .val (.ref b14)] []))
              refine own_byW (fun tz kz => XS.aload X223.here hx rfl (hb hby at_237) rfl rfl kz) ?_
              show own_GoW p e below s00 _ _ (T223.setTop (mkF m 239 #[.val (.long na), .second, .val (.long nb), .second, .val (.long nc), .second, .val (.long nq), .second, .val (.int fl), .val (.int (3 : Int32)), .val (.ref b4), .val (.ref b9), .val (.ref b14), .val (.ref b20), .val (.ref b21), .val (.ref b9), .val (.ref b14), .val (.ref b20), .val (.ref b14)] [(.ref b21)]))
              refine own_byW (fun tz kz => XS.lload X223.here hx rfl (hb hby at_239) rfl kz) ?_
              show own_GoW p e below s00 _ _ (T223.setTop (mkF m 241 #[.val (.long na), .second, .val (.long nb), .second, .val (.long nc), .second, .val (.long nq), .second, .val (.int fl), .val (.int (3 : Int32)), .val (.ref b4), .val (.ref b9), .val (.ref b14), .val (.ref b20), .val (.ref b21), .val (.ref b9), .val (.ref b14), .val (.ref b20), .val (.ref b14)] [(.long nc), (.ref b21)]))
              have Fi224 : own_Find (own_set (own_set (own_set own_g0 kf186 b9) kf191 b14) kf196 b20) num nc (some b20) (own_H nc) := by
                have q := (Ta196).path b20 (by simp)
                rw [n3] at q; exact q
              have hn224 : ∀ (k : Nat) (y : Addr), (own_set (own_set (own_set own_g0 kf186 b9) kf191 b14) kf196 b20) k = some y → Fld Z T200.heap y "com/example/ajenda/ajenda/core/Job" "number" "J" (.long (num y)) := by
                intro k y q0
                have q := (Ta196).all k y q0
                simp only [List.mem_cons, List.not_mem_nil, or_false] at q
                rcases q with q | q | q
                · rw [q]; rw [n3]; exact f216
                · rw [q]; rw [n2]; exact f217
                · rw [q]; rw [n1]; exact f218
              obtain ⟨cq225, kq225, q225a, q225b, q225c⟩ := isOf hZ e223 f220
              obtain ⟨_, _, ⟨T225, L225, k225, n225⟩, -, X225, ⟨Lc225, hQ225, l225, y225, z225⟩, st225⟩ := X223.virtualBack hx (y := (⟨"com/example/ajenda/ajenda/core/JobsByNumber", "get", "(J)Lcom/example/ajenda/ajenda/core/Job;"⟩ : MethodName)) (z := (⟨"com/example/ajenda/ajenda/core/JobsByNumber", "get", "(J)Lcom/example/ajenda/ajenda/core/Job;"⟩ : MethodName)) hown (mvT hZ (hw _ (List.mem_of_getElem? (i := 80) rfl))) (mvT hZ (hw _ (List.mem_of_getElem? (i := 81) rfl))) (notFace_of_selects (args := #[]) (mvT hZ (hw _ (List.mem_of_getElem? (i := 83) rfl)))) (mvT hZ (hw _ (List.mem_of_getElem? (i := 83) rfl))) (mvT hZ (hw _ (List.mem_of_getElem? (i := 82) rfl))) (by decide) (backOf (W := 0) (rm_get l Z a0 hw [] b21 ar29 kk29 (own_set (own_set (own_set own_g0 kf186 b9) kf191 b14) kf196 b20) num nc (some b20) T200.heap n0 Vq200 Fq200 hn224 Fi224) hZ (hw _ (List.mem_of_getElem? (i := 84) rfl)) (hw _ (List.mem_of_getElem? (i := 50) rfl)) (by decide) (by decide)) q225a q225c (g := (mkF m 241 #[.val (.long na), .second, .val (.long nb), .second, .val (.long nc), .second, .val (.long nq), .second, .val (.int fl), .val (.int (3 : Int32)), .val (.ref b4), .val (.ref b9), .val (.ref b14), .val (.ref b20), .val (.ref b21), .val (.ref b9), .val (.ref b14), .val (.ref b20), .val (.ref b14)] [(.long nc), (.ref b21)])) rfl (by rw [hml]; rfl) (Steps.refl _) (argsL := [(.long nc)]) (rest := []) (lenOf pd_7 rfl) rfl (by show 2 * 0 + _ ≤ _; exact Nat.le_of_eq rfl) (hb hby at_241) (fun _ _ => ⟨rfl, e223, (by decide : ((((((((1 + 2) + 5) + 2) + 5) + 2) + 5) + 1) + 1) + 0 ≤ _), (by decide : ((((((((8 + 4) + 29) + (8 + 4)) + 29) + (8 + 4)) + 29) + 2) + 16) + 0 ≤ _)⟩)
              dsimp only [Pt.U, Pt.locs, Pt.cells, Pt.slots] at X225 l225 y225 z225 st225 hQ225
              rw [l225, y225, z225] at X225
              obtain ⟨rfl, Nq225, e225⟩ := hQ225
              have N225 := Fr.app N223 Nq225
              refine own_viaW st225 ?_
              show own_GoW p e below s00 _ _ (T225.setTop (mkF m 244 #[.val (.long na), .second, .val (.long nb), .second, .val (.long nc), .second, .val (.long nq), .second, .val (.int fl), .val (.int (3 : Int32)), .val (.ref b4), .val (.ref b9), .val (.ref b14), .val (.ref b20), .val (.ref b21), .val (.ref b9), .val (.ref b14), .val (.ref b20), .val (.ref b14)] [(.ref b20)]))
              refine own_byW (fun tz kz => XS.aload X225.here hx rfl (hb hby at_244) rfl rfl kz) ?_
              show own_GoW p e below s00 _ _ (T225.setTop (mkF m 246 #[.val (.long na), .second, .val (.long nb), .second, .val (.long nc), .second, .val (.long nq), .second, .val (.int fl), .val (.int (3 : Int32)), .val (.ref b4), .val (.ref b9), .val (.ref b14), .val (.ref b20), .val (.ref b21), .val (.ref b9), .val (.ref b14), .val (.ref b20), .val (.ref b14)] [(.ref b20), (.ref b20)]))
              refine own_byW (fun tz kz => Jvm.RoadKit.acmp (g := (mkF m 246 #[.val (.long na), .second, .val (.long nb), .second, .val (.long nc), .second, .val (.long nq), .second, .val (.int fl), .val (.int (3 : Int32)), .val (.ref b4), .val (.ref b9), .val (.ref b14), .val (.ref b20), .val (.ref b21), .val (.ref b9), .val (.ref b14), .val (.ref b20), .val (.ref b14)] [(.ref b20), (.ref b20)])) X225 hx rfl rfl rfl (pc0 := 246) (pc' := 249) (same := true) rfl (hb hby at_246) rfl (decide_eq_true rfl) (by decide) (by decide) kz) ?_
              show own_GoW p e below s00 _ _ (T225.setTop (mkF m 249 #[.val (.long na), .second, .val (.long nb), .second, .val (.long nc), .second, .val (.long nq), .second, .val (.int fl), .val (.int (3 : Int32)), .val (.ref b4), .val (.ref b9), .val (.ref b14), .val (.ref b20), .val (.ref b21), .val (.ref b9), .val (.ref b14), .val (.ref b20), .val (.ref b14)] []))
              refine own_byW (fun tz kz => XS.aload X225.here hx rfl (hb hby at_249) rfl rfl kz) ?_
              show own_GoW p e below s00 _ _ (T225.setTop (mkF m 251 #[.val (.long na), .second, .val (.long nb), .second, .val (.long nc), .second, .val (.long nq), .second, .val (.int fl), .val (.int (3 : Int32)), .val (.ref b4), .val (.ref b9), .val (.ref b14), .val (.ref b20), .val (.ref b21), .val (.ref b9), .val (.ref b14), .val (.ref b20), .val (.ref b14)] [(.ref b21)]))
              refine own_byW (fun tz kz => XS.lload X225.here hx rfl (hb hby at_251) rfl kz) ?_
              show own_GoW p e below s00 _ _ (T225.setTop (mkF m 253 #[.val (.long na), .second, .val (.long nb), .second, .val (.long nc), .second, .val (.long nq), .second, .val (.int fl), .val (.int (3 : Int32)), .val (.ref b4), .val (.ref b9), .val (.ref b14), .val (.ref b20), .val (.ref b21), .val (.ref b9), .val (.ref b14), .val (.ref b20), .val (.ref b14)] [(.long nq), (.ref b21)]))
              have Fi226 : own_Find (own_set (own_set (own_set own_g0 kf186 b9) kf191 b14) kf196 b20) num nq (some b14) (own_H nq) := by
                rw [hc193_215]
                have q := (Ta196).path b14 (by simp)
                rw [n2] at q; exact q
              have hn226 : ∀ (k : Nat) (y : Addr), (own_set (own_set (own_set own_g0 kf186 b9) kf191 b14) kf196 b20) k = some y → Fld Z T200.heap y "com/example/ajenda/ajenda/core/Job" "number" "J" (.long (num y)) := by
                intro k y q0
                have q := (Ta196).all k y q0
                simp only [List.mem_cons, List.not_mem_nil, or_false] at q
                rcases q with q | q | q
                · rw [q]; rw [n3]; exact f216
                · rw [q]; rw [n2]; exact f217
                · rw [q]; rw [n1]; exact f218
              obtain ⟨cq227, kq227, q227a, q227b, q227c⟩ := isOf hZ e225 f220
              obtain ⟨_, _, ⟨T227, L227, k227, n227⟩, -, X227, ⟨Lc227, hQ227, l227, y227, z227⟩, st227⟩ := X225.virtualBack hx (y := (⟨"com/example/ajenda/ajenda/core/JobsByNumber", "get", "(J)Lcom/example/ajenda/ajenda/core/Job;"⟩ : MethodName)) (z := (⟨"com/example/ajenda/ajenda/core/JobsByNumber", "get", "(J)Lcom/example/ajenda/ajenda/core/Job;"⟩ : MethodName)) hown (mvT hZ (hw _ (List.mem_of_getElem? (i := 80) rfl))) (mvT hZ (hw _ (List.mem_of_getElem? (i := 81) rfl))) (notFace_of_selects (args := #[]) (mvT hZ (hw _ (List.mem_of_getElem? (i := 83) rfl)))) (mvT hZ (hw _ (List.mem_of_getElem? (i := 83) rfl))) (mvT hZ (hw _ (List.mem_of_getElem? (i := 82) rfl))) (by decide) (backOf (W := 0) (rm_get l Z a0 hw [] b21 ar29 kk29 (own_set (own_set (own_set own_g0 kf186 b9) kf191 b14) kf196 b20) num nq (some b14) T200.heap n0 Vq200 Fq200 hn226 Fi226) hZ (hw _ (List.mem_of_getElem? (i := 84) rfl)) (hw _ (List.mem_of_getElem? (i := 50) rfl)) (by decide) (by decide)) q227a q227c (g := (mkF m 253 #[.val (.long na), .second, .val (.long nb), .second, .val (.long nc), .second, .val (.long nq), .second, .val (.int fl), .val (.int (3 : Int32)), .val (.ref b4), .val (.ref b9), .val (.ref b14), .val (.ref b20), .val (.ref b21), .val (.ref b9), .val (.ref b14), .val (.ref b20), .val (.ref b14)] [(.long nq), (.ref b21)])) rfl (by rw [hml]; rfl) (Steps.refl _) (argsL := [(.long nq)]) (rest := []) (lenOf pd_7 rfl) rfl (by show 2 * 0 + _ ≤ _; exact Nat.le_of_eq rfl) (hb hby at_253) (fun _ _ => ⟨rfl, e225, (by decide : ((((((((1 + 2) + 5) + 2) + 5) + 2) + 5) + 1) + 1) + 0 ≤ _), (by decide : ((((((((8 + 4) + 29) + (8 + 4)) + 29) + (8 + 4)) + 29) + 2) + 16) + 0 ≤ _)⟩)
              dsimp only [Pt.U, Pt.locs, Pt.cells, Pt.slots] at X227 l227 y227 z227 st227 hQ227
              rw [l227, y227, z227] at X227
              obtain ⟨rfl, Nq227, e227⟩ := hQ227
              have N227 := Fr.app N225 Nq227
              refine own_viaW st227 ?_
              show own_GoW p e below s00 _ _ (T227.setTop (mkF m 256 #[.val (.long na), .second, .val (.long nb), .second, .val (.long nc), .second, .val (.long nq), .second, .val (.int fl), .val (.int (3 : Int32)), .val (.ref b4), .val (.ref b9), .val (.ref b14), .val (.ref b20), .val (.ref b21), .val (.ref b9), .val (.ref b14), .val (.ref b20), .val (.ref b14)] [(.ref b14)]))
              refine own_byW (fun tz kz => XS.aload X227.here hx rfl (hb hby at_256) rfl rfl kz) ?_
              show own_GoW p e below s00 _ _ (T227.setTop (mkF m 258 #[.val (.long na), .second, .val (.long nb), .second, .val (.long nc), .second, .val (.long nq), .second, .val (.int fl), .val (.int (3 : Int32)), .val (.ref b4), .val (.ref b9), .val (.ref b14), .val (.ref b20), .val (.ref b21), .val (.ref b9), .val (.ref b14), .val (.ref b20), .val (.ref b14)] [(.ref b14), (.ref b14)]))
              refine own_byW (fun tz kz => Jvm.RoadKit.acmp (g := (mkF m 258 #[.val (.long na), .second, .val (.long nb), .second, .val (.long nc), .second, .val (.long nq), .second, .val (.int fl), .val (.int (3 : Int32)), .val (.ref b4), .val (.ref b9), .val (.ref b14), .val (.ref b20), .val (.ref b21), .val (.ref b9), .val (.ref b14), .val (.ref b20), .val (.ref b14)] [(.ref b14), (.ref b14)])) X227 hx rfl rfl rfl (pc0 := 258) (pc' := 261) (same := true) rfl (hb hby at_258) rfl (decide_eq_true rfl) (by decide) (by decide) kz) ?_
              show own_GoW p e below s00 _ _ (T227.setTop (mkF m 261 #[.val (.long na), .second, .val (.long nb), .second, .val (.long nc), .second, .val (.long nq), .second, .val (.int fl), .val (.int (3 : Int32)), .val (.ref b4), .val (.ref b9), .val (.ref b14), .val (.ref b20), .val (.ref b21), .val (.ref b9), .val (.ref b14), .val (.ref b20), .val (.ref b14)] []))
              refine own_byW (fun tz kz => XS.iconst X227.here hx rfl (hb hby at_261) kz) ?_
              show own_GoW p e below s00 _ _ (T227.setTop (mkF m 262 #[.val (.long na), .second, .val (.long nb), .second, .val (.long nc), .second, .val (.long nq), .second, .val (.int fl), .val (.int (3 : Int32)), .val (.ref b4), .val (.ref b9), .val (.ref b14), .val (.ref b20), .val (.ref b21), .val (.ref b9), .val (.ref b14), .val (.ref b20), .val (.ref b14)] [(.int (1 : Int32))]))
              refine own_byW (fun tz kz => XS.goto X227.here hx rfl (pc0 := 262) (pc' := 266) rfl (hb hby at_262) (by decide) (by decide) kz) ?_
              show own_GoW p e below s00 _ _ (T227.setTop (mkF m 266 #[.val (.long na), .second, .val (.long nb), .second, .val (.long nc), .second, .val (.long nq), .second, .val (.int fl), .val (.int (3 : Int32)), .val (.ref b4), .val (.ref b9), .val (.ref b14), .val (.ref b20), .val (.ref b21), .val (.ref b9), .val (.ref b14), .val (.ref b20), .val (.ref b14)] [(.int (1 : Int32))]))
              have A228 := (own_At.up (own_At.up (own_At.up (own_At.up (own_At.up A20 E21.1) Kq29.1) Kq190.1) Kq195.1) Kq200.1)
              refine own_retIW X227 e227 A228 hx hlk (t := .boolean) hret (by simp) rfl (hb hby at_266) ?_ (by decide) (by decide)
              exact ⟨rfl, N227⟩
            · refine own_byW (fun tz kz => XS.ifYes X200.here hx rfl (pc0 := 193) (pc' := 203) rfl (hb hby at_193) rfl ((if0 _ _).trans (feq (fun q => hc193_215 ((lw_eq nq nb).mp q))).2) (by decide) (by decide) kz) ?_
              show own_GoW p e below s00 _ _ (T200.setTop (mkF m 203 #[.val (.long na), .second, .val (.long nb), .second, .val (.long nc), .second, .val (.long nq), .second, .val (.int fl), .val (.int (3 : Int32)), .val (.ref b4), .val (.ref b9), .val (.ref b14), .val (.ref b20), .val (.ref b21), .val (.ref b9), .val (.ref b14), .val (.ref b20), .val .null] []))
              refine own_byW (fun tz kz => XS.lload X200.here hx rfl (hb hby at_203) rfl kz) ?_
              show own_GoW p e below s00 _ _ (T200.setTop (mkF m 205 #[.val (.long na), .second, .val (.long nb), .second, .val (.long nc), .second, .val (.long nq), .second, .val (.int fl), .val (.int (3 : Int32)), .val (.ref b4), .val (.ref b9), .val (.ref b14), .val (.ref b20), .val (.ref b21), .val (.ref b9), .val (.ref b14), .val (.ref b20), .val .null] [(.long nq)]))
              refine own_byW (fun tz kz => XS.lload X200.here hx rfl (hb hby at_205) rfl kz) ?_
              show own_GoW p e below s00 _ _ (T200.setTop (mkF m 207 #[.val (.long na), .second, .val (.long nb), .second, .val (.long nc), .second, .val (.long nq), .second, .val (.int fl), .val (.int (3 : Int32)), .val (.ref b4), .val (.ref b9), .val (.ref b14), .val (.ref b20), .val (.ref b21), .val (.ref b9), .val (.ref b14), .val (.ref b20), .val .null] [(.long nc), (.long nq)]))
              refine own_byW (fun tz kz => XS.lcmp X200.here hx rfl (hb hby at_207) rfl kz) ?_
              show own_GoW p e below s00 _ _ (T200.setTop (mkF m 208 #[.val (.long na), .second, .val (.long nb), .second, .val (.long nc), .second, .val (.long nq), .second, .val (.int fl), .val (.int (3 : Int32)), .val (.ref b4), .val (.ref b9), .val (.ref b14), .val (.ref b20), .val (.ref b21), .val (.ref b9), .val (.ref b14), .val (.ref b20), .val .null] [(.int (lcmpW nq nc))]))
              by_cases hc208_229 : nq = nc
              · refine own_byW (fun tz kz => XS.ifNo X200.here hx rfl (hb hby at_208) rfl ((if0 _ _).trans (teq ((lw_eq nq nc).mpr hc208_229)).2) kz) ?_
                show own_GoW p e below s00 _ _ (T200.setTop (mkF m 211 #[.val (.long na), .second, .val (.long nb), .second, .val (.long nc), .second, .val (.long nq), .second, .val (.int fl), .val (.int (3 : Int32)), .val (.ref b4), .val (.ref b9), .val (.ref b14), .val (.ref b20), .val (.ref b21), .val (.ref b9), .val (.ref b14), .val (.ref b20), .val .null] []))
                refine own_byW (fun tz kz => XS.aload X200.here hx rfl (hb hby at_211) rfl rfl kz) ?_
                show own_GoW p e below s00 _ _ (T200.setTop (mkF m 213 #[.val (.long na), .second, .val (.long nb), .second, .val (.long nc), .second, .val (.long nq), .second, .val (.int fl), .val (.int (3 : Int32)), .val (.ref b4), .val (.ref b9), .val (.ref b14), .val (.ref b20), .val (.ref b21), .val (.ref b9), .val (.ref b14), .val (.ref b20), .val .null] [(.ref b20)]))
                refine own_byW (fun tz kz => XS.astore X200.here hx rfl (hb hby at_213) rfl rfl (l' := #[.val (.long na), .second, .val (.long nb), .second, .val (.long nc), .second, .val (.long nq), .second, .val (.int fl), .val (.int (3 : Int32)), .val (.ref b4), .val (.ref b9), .val (.ref b14), .val (.ref b20), .val (.ref b21), .val (.ref b9), .val (.ref b14), .val (.ref b20), .val (.ref b20)]) rfl kz) ?_
                show own_GoW p e below s00 _ _ (T200.setTop (mkF m 215 #[.val (.long na), .second, .val (.long nb), .second, .val (.long nc), .second, .val (.long nq), .second, .val (.int fl), .val (.int (3 : Int32)), .val (.ref b4), .val (.ref b9), .val (.ref b14), .val (.ref b20), .val (.ref b21), .val (.ref b9), .val (.ref b14), .val (.ref b20), .val (.ref b20)] []))
                refine own_byW (fun tz kz => XS.aload X200.here hx rfl (hb hby at_215) rfl rfl kz) ?_
                show own_GoW p e below s00 _ _ (T200.setTop (mkF m 217 #[.val (.long na), .second, .val (.long nb), .second, .val (.long nc), .second, .val (.long nq), .second, .val (.int fl), .val (.int (3 : Int32)), .val (.ref b4), .val (.ref b9), .val (.ref b14), .val (.ref b20), .val (.ref b21), .val (.ref b9), .val (.ref b14), .val (.ref b20), .val (.ref b20)] [(.ref b21)]))
                refine own_byW (fun tz kz => XS.lloadN X200.here hx rfl (hb hby at_217) rfl kz) ?_
                show own_GoW p e below s00 _ _ (T200.setTop (mkF m 218 #[.val (.long na), .second, .val (.long nb), .second, .val (.long nc), .second, .val (.long nq), .second, .val (.int fl), .val (.int (3 : Int32)), .val (.ref b4), .val (.ref b9), .val (.ref b14), .val (.ref b20), .val (.ref b21), .val (.ref b9), .val (.ref b14), .val (.ref b20), .val (.ref b20)] [(.long na), (.ref b21)]))
                have f230 := (f198.keep Kq200 (ninS ne_b20_b21 (ninS ne_b20_ar29 nin0)))
                have f231 := ((f193.keep Kq195 (ninS ne_b14_b21 (ninS ne_b14_ar29 nin0))).keep Kq200 (ninS ne_b14_b21 (ninS ne_b14_ar29 nin0)))
                have f232 := (((f188.keep Kq190 (ninS ne_b9_b21 (ninS ne_b9_ar29 nin0))).keep Kq195 (ninS ne_b9_b21 (ninS ne_b9_ar29 nin0))).keep Kq200 (ninS ne_b9_b21 (ninS ne_b9_ar29 nin0)))
                have Fi233 : own_Find (own_set (own_set (own_set own_g0 kf186 b9) kf191 b14) kf196 b20) num na (some b9) (own_H na) := by
                  have q := (Ta196).path b9 (by simp)
                  rw [n1] at q; exact q
                have hn233 : ∀ (k : Nat) (y : Addr), (own_set (own_set (own_set own_g0 kf186 b9) kf191 b14) kf196 b20) k = some y → Fld Z T200.heap y "com/example/ajenda/ajenda/core/Job" "number" "J" (.long (num y)) := by
                  intro k y q0
                  have q := (Ta196).all k y q0
                  simp only [List.mem_cons, List.not_mem_nil, or_false] at q
                  rcases q with q | q | q
                  · rw [q]; rw [n3]; exact f230
                  · rw [q]; rw [n2]; exact f231
                  · rw [q]; rw [n1]; exact f232
                have f234 := (f199.keep Kq200)
                obtain ⟨cq235, kq235, q235a, q235b, q235c⟩ := isOf hZ e200 f234
                obtain ⟨_, _, ⟨T235, L235, k235, n235⟩, -, X235, ⟨Lc235, hQ235, l235, y235, z235⟩, st235⟩ := X200.virtualBack hx (y := (⟨"com/example/ajenda/ajenda/core/JobsByNumber", "get", "(J)Lcom/example/ajenda/ajenda/core/Job;"⟩ : MethodName)) (z := (⟨"com/example/ajenda/ajenda/core/JobsByNumber", "get", "(J)Lcom/example/ajenda/ajenda/core/Job;"⟩ : MethodName)) hown (mvT hZ (hw _ (List.mem_of_getElem? (i := 80) rfl))) (mvT hZ (hw _ (List.mem_of_getElem? (i := 81) rfl))) (notFace_of_selects (args := #[]) (mvT hZ (hw _ (List.mem_of_getElem? (i := 83) rfl)))) (mvT hZ (hw _ (List.mem_of_getElem? (i := 83) rfl))) (mvT hZ (hw _ (List.mem_of_getElem? (i := 82) rfl))) (by decide) (backOf (W := 0) (rm_get l Z a0 hw [] b21 ar29 kk29 (own_set (own_set (own_set own_g0 kf186 b9) kf191 b14) kf196 b20) num na (some b9) T200.heap n0 Vq200 Fq200 hn233 Fi233) hZ (hw _ (List.mem_of_getElem? (i := 84) rfl)) (hw _ (List.mem_of_getElem? (i := 50) rfl)) (by decide) (by decide)) q235a q235c (g := (mkF m 218 #[.val (.long na), .second, .val (.long nb), .second, .val (.long nc), .second, .val (.long nq), .second, .val (.int fl), .val (.int (3 : Int32)), .val (.ref b4), .val (.ref b9), .val (.ref b14), .val (.ref b20), .val (.ref b21), .val (.ref b9), .val (.ref b14), .val (.ref b20), .val (.ref b20)] [(.long na), (.ref b21)])) rfl (by rw [hml]; rfl) (Steps.refl _) (argsL := [(.long na)]) (rest := []) (lenOf pd_7 rfl) rfl (by show 2 * 0 + _ ≤ _; exact Nat.le_of_eq rfl) (hb hby at_218) (fun _ _ => ⟨rfl, e200, (by decide : ((((((((1 + 2) + 5) + 2) + 5) + 2) + 5) + 1) + 1) + 0 ≤ _), (by decide : ((((((((8 + 4) + 29) + (8 + 4)) + 29) + (8 + 4)) + 29) + 2) + 16) + 0 ≤ _)⟩)
                dsimp only [Pt.U, Pt.locs, Pt.cells, Pt.slots] at X235 l235 y235 z235 st235 hQ235
                rw [l235, y235, z235] at X235
                obtain ⟨rfl, Nq235, e235⟩ := hQ235
                have N235 := Fr.app N200 Nq235
                refine own_viaW st235 ?_
                show own_GoW p e below s00 _ _ (T235.setTop (mkF m 221 #[.val (.long na), .second, .val (.long nb), .second, .val (.long nc), .second, .val (.long nq), .second, .val (.int fl), .val (.int (3 : Int32)), .val (.ref b4), .val (.ref b9), .val (.ref b14), .val (.ref b20), .val (.ref b21), .val (.ref b9), .val (.ref b14), .val (.ref b20), .val (.ref b20)] [(.ref b9)]))
                refine own_byW (fun tz kz => XS.aload X235.here hx rfl (hb hby at_221) rfl rfl kz) ?_
                show own_GoW p e below s00 _ _ (T235.setTop (mkF m 223 #[.val (.long na), .second, .val (.long nb), .second, .val (.long nc), .second, .val (.long nq), .second, .val (.int fl), .val (.int (3 : Int32)), .val (.ref b4), .val (.ref b9), .val (.ref b14), .val (.ref b20), .val (.ref b21), .val (.ref b9), .val (.ref b14), .val (.ref b20), .val (.ref b20)] [(.ref b9), (.ref b9)]))
                refine own_byW (fun tz kz => Jvm.RoadKit.acmp (g := (mkF m 223 #[.val (.long na), .second, .val (.long nb), .second, .val (.long nc), .second, .val (.long nq), .second, .val (.int fl), .val (.int (3 : Int32)), .val (.ref b4), .val (.ref b9), .val (.ref b14), .val (.ref b20), .val (.ref b21), .val (.ref b9), .val (.ref b14), .val (.ref b20), .val (.ref b20)] [(.ref b9), (.ref b9)])) X235 hx rfl rfl rfl (pc0 := 223) (pc' := 226) (same := true) rfl (hb hby at_223) rfl (decide_eq_true rfl) (by decide) (by decide) kz) ?_
                show own_GoW p e below s00 _ _ (T235.setTop (mkF m 226 #[.val (.long na), .second, .val (.long nb), .second, .val (.long nc), .second, .val (.long nq), .second, .val (.int fl), .val (.int (3 : Int32)), .val (.ref b4), .val (.ref b9), .val (.ref b14), .val (.ref b20), .val (.ref b21), .val (.ref b9), .val (.ref b14), .val (.ref b20), .val (.ref b20)] []))
                refine own_byW (fun tz kz => XS.aload X235.here hx rfl (hb hby at_226) rfl rfl kz) ?_
                show own_GoW p e below s00 _ _ (T235.setTop (mkF m 228 #[.val (.long na), .second, .val (.long nb), .second, .val (.long nc), .second, .val (.long nq), .second, .val (.int fl), .val (.int (3 : Int32)), .val (.ref b4), .val (.ref b9), .val (.ref b14), .val (.ref b20), .val (.ref b21), .val (.ref b9), .val (.ref b14), .val (.ref b20), .val (.ref b20)] [(.ref b21)]))
                refine own_byW (fun tz kz => XS.lloadN X235.here hx rfl (hb hby at_228) rfl kz) ?_
                show own_GoW p e below s00 _ _ (T235.setTop (mkF m 229 #[.val (.long na), .second, .val (.long nb), .second, .val (.long nc), .second, .val (.long nq), .second, .val (.int fl), .val (.int (3 : Int32)), .val (.ref b4), .val (.ref b9), .val (.ref b14), .val (.ref b20), .val (.ref b21), .val (.ref b9), .val (.ref b14), .val (.ref b20), .val (.ref b20)] [(.long nb), (.ref b21)]))
                have Fi236 : own_Find (own_set (own_set (own_set own_g0 kf186 b9) kf191 b14) kf196 b20) num nb (some b14) (own_H nb) := by
                  have q := (Ta196).path b14 (by simp)
                  rw [n2] at q; exact q
                have hn236 : ∀ (k : Nat) (y : Addr), (own_set (own_set (own_set own_g0 kf186 b9) kf191 b14) kf196 b20) k = some y → Fld Z T200.heap y "com/example/ajenda/ajenda/core/Job" "number" "J" (.long (num y)) := by
                  intro k y q0
                  have q := (Ta196).all k y q0
                  simp only [List.mem_cons, List.not_mem_nil, or_false] at q
                  rcases q with q | q | q
                  · rw [q]; rw [n3]; exact f230
                  · rw [q]; rw [n2]; exact f231
                  · rw [q]; rw [n1]; exact f232
                obtain ⟨cq237, kq237, q237a, q237b, q237c⟩ := isOf hZ e235 f234
                obtain ⟨_, _, ⟨T237, L237, k237, n237⟩, -, X237, ⟨Lc237, hQ237, l237, y237, z237⟩, st237⟩ := X235.virtualBack hx (y := (⟨"com/example/ajenda/ajenda/core/JobsByNumber", "get", "(J)Lcom/example/ajenda/ajenda/core/Job;"⟩ : MethodName)) (z := (⟨"com/example/ajenda/ajenda/core/JobsByNumber", "get", "(J)Lcom/example/ajenda/ajenda/core/Job;"⟩ : MethodName)) hown (mvT hZ (hw _ (List.mem_of_getElem? (i := 80) rfl))) (mvT hZ (hw _ (List.mem_of_getElem? (i := 81) rfl))) (notFace_of_selects (args := #[]) (mvT hZ (hw _ (List.mem_of_getElem? (i := 83) rfl)))) (mvT hZ (hw _ (List.mem_of_getElem? (i := 83) rfl))) (mvT hZ (hw _ (List.mem_of_getElem? (i := 82) rfl))) (by decide) (backOf (W := 0) (rm_get l Z a0 hw [] b21 ar29 kk29 (own_set (own_set (own_set own_g0 kf186 b9) kf191 b14) kf196 b20) num nb (some b14) T200.heap n0 Vq200 Fq200 hn236 Fi236) hZ (hw _ (List.mem_of_getElem? (i := 84) rfl)) (hw _ (List.mem_of_getElem? (i := 50) rfl)) (by decide) (by decide)) q237a q237c (g := (mkF m 229 #[.val (.long na), .second, .val (.long nb), .second, .val (.long nc), .second, .val (.long nq), .second, .val (.int fl), .val (.int (3 : Int32)), .val (.ref b4), .val (.ref b9), .val (.ref b14), .val (.ref b20), .val (.ref b21), .val (.ref b9), .val (.ref b14), .val (.ref b20), .val (.ref b20)] [(.long nb), (.ref b21)])) rfl (by rw [hml]; rfl) (Steps.refl _) (argsL := [(.long nb)]) (rest := []) (lenOf pd_7 rfl) rfl (by show 2 * 0 + _ ≤ _; exact Nat.le_of_eq rfl) (hb hby at_229) (fun _ _ => ⟨rfl, e235, (by decide : ((((((((1 + 2) + 5) + 2) + 5) + 2) + 5) + 1) + 1) + 0 ≤ _), (by decide : ((((((((8 + 4) + 29) + (8 + 4)) + 29) + (8 + 4)) + 29) + 2) + 16) + 0 ≤ _)⟩)
                dsimp only [Pt.U, Pt.locs, Pt.cells, Pt.slots] at X237 l237 y237 z237 st237 hQ237
                rw [l237, y237, z237] at X237
                obtain ⟨rfl, Nq237, e237⟩ := hQ237
                have N237 := Fr.app N235 Nq237
                refine own_viaW st237 ?_
                show own_GoW p e below s00 _ _ (T237.setTop (mkF m 232 #[.val (.long na), .second, .val (.long nb), .second, .val (.long nc), .second, .val (.long nq), .second, .val (.int fl), .val (.int (3 : Int32)), .val (.ref b4), .val (.ref b9), .val (.ref b14), .val (.ref b20), .val (.ref b21), .val (.ref b9), .val (.ref b14), .val (.ref b20), .val (.ref b20)] [(.ref b14)]))
                refine own_byW (fun tz kz => XS.aload X237.here hx rfl (hb hby at_232) rfl rfl kz) ?_
                show own_GoW p e below s00 _ _ (T237.setTop (mkF m 234 #[.val (.long na), .second, .val (.long nb), .second, .val (.long nc), .second, .val (.long nq), .second, .val (.int fl), .val (.int (3 : Int32)), .val (.ref b4), .val (.ref b9), .val (.ref b14), .val (.ref b20), .val (.ref b21), .val (.ref b9), .val (.ref b14), .val (.ref b20), .val (.ref b20)] [(.ref b14), (.ref b14)]))
                refine own_byW (fun tz kz => Jvm.RoadKit.acmp (g := (mkF m 234 #[.val (.long na), .second, .val (.long nb), .second, .val (.long nc), .second, .val (.long nq), .second, .val (.int fl), .val (.int (3 : Int32)), .val (.ref b4), .val (.ref b9), .val (.ref b14), .val (.ref b20), .val (.ref b21), .val (.ref b9), .val (.ref b14), .val (.ref b20), .val (.ref b20)] [(.ref b14), (.ref b14)])) X237 hx rfl rfl rfl (pc0 := 234) (pc' := 237) (same := true) rfl (hb hby at_234) rfl (decide_eq_true rfl) (by decide) (by decide) kz) ?_
                show own_GoW p e below s00 _ _ (T237.setTop (mkF m 237 #[.val (.long na), .second, .val (.long nb), .second, .val (.long nc), .second, .val (.long nq), .second, .val (.int fl), .val (.int (3 : Int32)), .val (.ref b4), .val (.ref b9), .val (.ref b14), .val (.ref b20), .val (.ref b21), .val (.ref b9), .val (.ref b14), .val (.ref b20), .val (.ref b20)] []))
                refine own_byW (fun tz kz => XS.aload X237.here hx rfl (hb hby at_237) rfl rfl kz) ?_
                show own_GoW p e below s00 _ _ (T237.setTop (mkF m 239 #[.val (.long na), .second, .val (.long nb), .second, .val (.long nc), .second, .val (.long nq), .second, .val (.int fl), .val (.int (3 : Int32)), .val (.ref b4), .val (.ref b9), .val (.ref b14), .val (.ref b20), .val (.ref b21), .val (.ref b9), .val (.ref b14), .val (.ref b20), .val (.ref b20)] [(.ref b21)]))
                refine own_byW (fun tz kz => XS.lload X237.here hx rfl (hb hby at_239) rfl kz) ?_
                show own_GoW p e below s00 _ _ (T237.setTop (mkF m 241 #[.val (.long na), .second, .val (.long nb), .second, .val (.long nc), .second, .val (.long nq), .second, .val (.int fl), .val (.int (3 : Int32)), .val (.ref b4), .val (.ref b9), .val (.ref b14), .val (.ref b20), .val (.ref b21), .val (.ref b9), .val (.ref b14), .val (.ref b20), .val (.ref b20)] [(.long nc), (.ref b21)]))
                have Fi238 : own_Find (own_set (own_set (own_set own_g0 kf186 b9) kf191 b14) kf196 b20) num nc (some b20) (own_H nc) := by
                  have q := (Ta196).path b20 (by simp)
                  rw [n3] at q; exact q
                have hn238 : ∀ (k : Nat) (y : Addr), (own_set (own_set (own_set own_g0 kf186 b9) kf191 b14) kf196 b20) k = some y → Fld Z T200.heap y "com/example/ajenda/ajenda/core/Job" "number" "J" (.long (num y)) := by
                  intro k y q0
                  have q := (Ta196).all k y q0
                  simp only [List.mem_cons, List.not_mem_nil, or_false] at q
                  rcases q with q | q | q
                  · rw [q]; rw [n3]; exact f230
                  · rw [q]; rw [n2]; exact f231
                  · rw [q]; rw [n1]; exact f232
                obtain ⟨cq239, kq239, q239a, q239b, q239c⟩ := isOf hZ e237 f234
                obtain ⟨_, _, ⟨T239, L239, k239, n239⟩, -, X239, ⟨Lc239, hQ239, l239, y239, z239⟩, st239⟩ := X237.virtualBack hx (y := (⟨"com/example/ajenda/ajenda/core/JobsByNumber", "get", "(J)Lcom/example/ajenda/ajenda/core/Job;"⟩ : MethodName)) (z := (⟨"com/example/ajenda/ajenda/core/JobsByNumber", "get", "(J)Lcom/example/ajenda/ajenda/core/Job;"⟩ : MethodName)) hown (mvT hZ (hw _ (List.mem_of_getElem? (i := 80) rfl))) (mvT hZ (hw _ (List.mem_of_getElem? (i := 81) rfl))) (notFace_of_selects (args := #[]) (mvT hZ (hw _ (List.mem_of_getElem? (i := 83) rfl)))) (mvT hZ (hw _ (List.mem_of_getElem? (i := 83) rfl))) (mvT hZ (hw _ (List.mem_of_getElem? (i := 82) rfl))) (by decide) (backOf (W := 0) (rm_get l Z a0 hw [] b21 ar29 kk29 (own_set (own_set (own_set own_g0 kf186 b9) kf191 b14) kf196 b20) num nc (some b20) T200.heap n0 Vq200 Fq200 hn238 Fi238) hZ (hw _ (List.mem_of_getElem? (i := 84) rfl)) (hw _ (List.mem_of_getElem? (i := 50) rfl)) (by decide) (by decide)) q239a q239c (g := (mkF m 241 #[.val (.long na), .second, .val (.long nb), .second, .val (.long nc), .second, .val (.long nq), .second, .val (.int fl), .val (.int (3 : Int32)), .val (.ref b4), .val (.ref b9), .val (.ref b14), .val (.ref b20), .val (.ref b21), .val (.ref b9), .val (.ref b14), .val (.ref b20), .val (.ref b20)] [(.long nc), (.ref b21)])) rfl (by rw [hml]; rfl) (Steps.refl _) (argsL := [(.long nc)]) (rest := []) (lenOf pd_7 rfl) rfl (by show 2 * 0 + _ ≤ _; exact Nat.le_of_eq rfl) (hb hby at_241) (fun _ _ => ⟨rfl, e237, (by decide : ((((((((1 + 2) + 5) + 2) + 5) + 2) + 5) + 1) + 1) + 0 ≤ _), (by decide : ((((((((8 + 4) + 29) + (8 + 4)) + 29) + (8 + 4)) + 29) + 2) + 16) + 0 ≤ _)⟩)
                dsimp only [Pt.U, Pt.locs, Pt.cells, Pt.slots] at X239 l239 y239 z239 st239 hQ239
                rw [l239, y239, z239] at X239
                obtain ⟨rfl, Nq239, e239⟩ := hQ239
                have N239 := Fr.app N237 Nq239
                refine own_viaW st239 ?_
                show own_GoW p e below s00 _ _ (T239.setTop (mkF m 244 #[.val (.long na), .second, .val (.long nb), .second, .val (.long nc), .second, .val (.long nq), .second, .val (.int fl), .val (.int (3 : Int32)), .val (.ref b4), .val (.ref b9), .val (.ref b14), .val (.ref b20), .val (.ref b21), .val (.ref b9), .val (.ref b14), .val (.ref b20), .val (.ref b20)] [(.ref b20)]))
                refine own_byW (fun tz kz => XS.aload X239.here hx rfl (hb hby at_244) rfl rfl kz) ?_
                show own_GoW p e below s00 _ _ (T239.setTop (mkF m 246 #[.val (.long na), .second, .val (.long nb), .second, .val (.long nc), .second, .val (.long nq), .second, .val (.int fl), .val (.int (3 : Int32)), .val (.ref b4), .val (.ref b9), .val (.ref b14), .val (.ref b20), .val (.ref b21), .val (.ref b9), .val (.ref b14), .val (.ref b20), .val (.ref b20)] [(.ref b20), (.ref b20)]))
                refine own_byW (fun tz kz => Jvm.RoadKit.acmp (g := (mkF m 246 #[.val (.long na), .second, .val (.long nb), .second, .val (.long nc), .second, .val (.long nq), .second, .val (.int fl), .val (.int (3 : Int32)), .val (.ref b4), .val (.ref b9), .val (.ref b14), .val (.ref b20), .val (.ref b21), .val (.ref b9), .val (.ref b14), .val (.ref b20), .val (.ref b20)] [(.ref b20), (.ref b20)])) X239 hx rfl rfl rfl (pc0 := 246) (pc' := 249) (same := true) rfl (hb hby at_246) rfl (decide_eq_true rfl) (by decide) (by decide) kz) ?_
                show own_GoW p e below s00 _ _ (T239.setTop (mkF m 249 #[.val (.long na), .second, .val (.long nb), .second, .val (.long nc), .second, .val (.long nq), .second, .val (.int fl), .val (.int (3 : Int32)), .val (.ref b4), .val (.ref b9), .val (.ref b14), .val (.ref b20), .val (.ref b21), .val (.ref b9), .val (.ref b14), .val (.ref b20), .val (.ref b20)] []))
                refine own_byW (fun tz kz => XS.aload X239.here hx rfl (hb hby at_249) rfl rfl kz) ?_
                show own_GoW p e below s00 _ _ (T239.setTop (mkF m 251 #[.val (.long na), .second, .val (.long nb), .second, .val (.long nc), .second, .val (.long nq), .second, .val (.int fl), .val (.int (3 : Int32)), .val (.ref b4), .val (.ref b9), .val (.ref b14), .val (.ref b20), .val (.ref b21), .val (.ref b9), .val (.ref b14), .val (.ref b20), .val (.ref b20)] [(.ref b21)]))
                refine own_byW (fun tz kz => XS.lload X239.here hx rfl (hb hby at_251) rfl kz) ?_
                show own_GoW p e below s00 _ _ (T239.setTop (mkF m 253 #[.val (.long na), .second, .val (.long nb), .second, .val (.long nc), .second, .val (.long nq), .second, .val (.int fl), .val (.int (3 : Int32)), .val (.ref b4), .val (.ref b9), .val (.ref b14), .val (.ref b20), .val (.ref b21), .val (.ref b9), .val (.ref b14), .val (.ref b20), .val (.ref b20)] [(.long nq), (.ref b21)]))
                have Fi240 : own_Find (own_set (own_set (own_set own_g0 kf186 b9) kf191 b14) kf196 b20) num nq (some b20) (own_H nq) := by
                  rw [hc208_229]
                  have q := (Ta196).path b20 (by simp)
                  rw [n3] at q; exact q
                have hn240 : ∀ (k : Nat) (y : Addr), (own_set (own_set (own_set own_g0 kf186 b9) kf191 b14) kf196 b20) k = some y → Fld Z T200.heap y "com/example/ajenda/ajenda/core/Job" "number" "J" (.long (num y)) := by
                  intro k y q0
                  have q := (Ta196).all k y q0
                  simp only [List.mem_cons, List.not_mem_nil, or_false] at q
                  rcases q with q | q | q
                  · rw [q]; rw [n3]; exact f230
                  · rw [q]; rw [n2]; exact f231
                  · rw [q]; rw [n1]; exact f232
                obtain ⟨cq241, kq241, q241a, q241b, q241c⟩ := isOf hZ e239 f234
                obtain ⟨_, _, ⟨T241, L241, k241, n241⟩, -, X241, ⟨Lc241, hQ241, l241, y241, z241⟩, st241⟩ := X239.virtualBack hx (y := (⟨"com/example/ajenda/ajenda/core/JobsByNumber", "get", "(J)Lcom/example/ajenda/ajenda/core/Job;"⟩ : MethodName)) (z := (⟨"com/example/ajenda/ajenda/core/JobsByNumber", "get", "(J)Lcom/example/ajenda/ajenda/core/Job;"⟩ : MethodName)) hown (mvT hZ (hw _ (List.mem_of_getElem? (i := 80) rfl))) (mvT hZ (hw _ (List.mem_of_getElem? (i := 81) rfl))) (notFace_of_selects (args := #[]) (mvT hZ (hw _ (List.mem_of_getElem? (i := 83) rfl)))) (mvT hZ (hw _ (List.mem_of_getElem? (i := 83) rfl))) (mvT hZ (hw _ (List.mem_of_getElem? (i := 82) rfl))) (by decide) (backOf (W := 0) (rm_get l Z a0 hw [] b21 ar29 kk29 (own_set (own_set (own_set own_g0 kf186 b9) kf191 b14) kf196 b20) num nq (some b20) T200.heap n0 Vq200 Fq200 hn240 Fi240) hZ (hw _ (List.mem_of_getElem? (i := 84) rfl)) (hw _ (List.mem_of_getElem? (i := 50) rfl)) (by decide) (by decide)) q241a q241c (g := (mkF m 253 #[.val (.long na), .second, .val (.long nb), .second, .val (.long nc), .second, .val (.long nq), .second, .val (.int fl), .val (.int (3 : Int32)), .val (.ref b4), .val (.ref b9), .val (.ref b14), .val (.ref b20), .val (.ref b21), .val (.ref b9), .val (.ref b14), .val (.ref b20), .val (.ref b20)] [(.long nq), (.ref b21)])) rfl (by rw [hml]; rfl) (Steps.refl _) (argsL := [(.long nq)]) (rest := []) (lenOf pd_7 rfl) rfl (by show 2 * 0 + _ ≤ _; exact Nat.le_of_eq rfl) (hb hby at_253) (fun _ _ => ⟨rfl, e239, (by decide : ((((((((1 + 2) + 5) + 2) + 5) + 2) + 5) + 1) + 1) + 0 ≤ _), (by decide : ((((((((8 + 4) + 29) + (8 + 4)) + 29) + (8 + 4)) + 29) + 2) + 16) + 0 ≤ _)⟩)
                dsimp only [Pt.U, Pt.locs, Pt.cells, Pt.slots] at X241 l241 y241 z241 st241 hQ241
                rw [l241, y241, z241] at X241
                obtain ⟨rfl, Nq241, e241⟩ := hQ241
                have N241 := Fr.app N239 Nq241
                refine own_viaW st241 ?_
                show own_GoW p e below s00 _ _ (T241.setTop (mkF m 256 #[.val (.long na), .second, .val (.long nb), .second, .val (.long nc), .second, .val (.long nq), .second, .val (.int fl), .val (.int (3 : Int32)), .val (.ref b4), .val (.ref b9), .val (.ref b14), .val (.ref b20), .val (.ref b21), .val (.ref b9), .val (.ref b14), .val (.ref b20), .val (.ref b20)] [(.ref b20)]))
                refine own_byW (fun tz kz => XS.aload X241.here hx rfl (hb hby at_256) rfl rfl kz) ?_
                show own_GoW p e below s00 _ _ (T241.setTop (mkF m 258 #[.val (.long na), .second, .val (.long nb), .second, .val (.long nc), .second, .val (.long nq), .second, .val (.int fl), .val (.int (3 : Int32)), .val (.ref b4), .val (.ref b9), .val (.ref b14), .val (.ref b20), .val (.ref b21), .val (.ref b9), .val (.ref b14), .val (.ref b20), .val (.ref b20)] [(.ref b20), (.ref b20)]))
                refine own_byW (fun tz kz => Jvm.RoadKit.acmp (g := (mkF m 258 #[.val (.long na), .second, .val (.long nb), .second, .val (.long nc), .second, .val (.long nq), .second, .val (.int fl), .val (.int (3 : Int32)), .val (.ref b4), .val (.ref b9), .val (.ref b14), .val (.ref b20), .val (.ref b21), .val (.ref b9), .val (.ref b14), .val (.ref b20), .val (.ref b20)] [(.ref b20), (.ref b20)])) X241 hx rfl rfl rfl (pc0 := 258) (pc' := 261) (same := true) rfl (hb hby at_258) rfl (decide_eq_true rfl) (by decide) (by decide) kz) ?_
                show own_GoW p e below s00 _ _ (T241.setTop (mkF m 261 #[.val (.long na), .second, .val (.long nb), .second, .val (.long nc), .second, .val (.long nq), .second, .val (.int fl), .val (.int (3 : Int32)), .val (.ref b4), .val (.ref b9), .val (.ref b14), .val (.ref b20), .val (.ref b21), .val (.ref b9), .val (.ref b14), .val (.ref b20), .val (.ref b20)] []))
                refine own_byW (fun tz kz => XS.iconst X241.here hx rfl (hb hby at_261) kz) ?_
                show own_GoW p e below s00 _ _ (T241.setTop (mkF m 262 #[.val (.long na), .second, .val (.long nb), .second, .val (.long nc), .second, .val (.long nq), .second, .val (.int fl), .val (.int (3 : Int32)), .val (.ref b4), .val (.ref b9), .val (.ref b14), .val (.ref b20), .val (.ref b21), .val (.ref b9), .val (.ref b14), .val (.ref b20), .val (.ref b20)] [(.int (1 : Int32))]))
                refine own_byW (fun tz kz => XS.goto X241.here hx rfl (pc0 := 262) (pc' := 266) rfl (hb hby at_262) (by decide) (by decide) kz) ?_
                show own_GoW p e below s00 _ _ (T241.setTop (mkF m 266 #[.val (.long na), .second, .val (.long nb), .second, .val (.long nc), .second, .val (.long nq), .second, .val (.int fl), .val (.int (3 : Int32)), .val (.ref b4), .val (.ref b9), .val (.ref b14), .val (.ref b20), .val (.ref b21), .val (.ref b9), .val (.ref b14), .val (.ref b20), .val (.ref b20)] [(.int (1 : Int32))]))
                have A242 := (own_At.up (own_At.up (own_At.up (own_At.up (own_At.up A20 E21.1) Kq29.1) Kq190.1) Kq195.1) Kq200.1)
                refine own_retIW X241 e241 A242 hx hlk (t := .boolean) hret (by simp) rfl (hb hby at_266) ?_ (by decide) (by decide)
                exact ⟨rfl, N241⟩
              · refine own_byW (fun tz kz => XS.ifYes X200.here hx rfl (pc0 := 208) (pc' := 215) rfl (hb hby at_208) rfl ((if0 _ _).trans (feq (fun q => hc208_229 ((lw_eq nq nc).mp q))).2) (by decide) (by decide) kz) ?_
                show own_GoW p e below s00 _ _ (T200.setTop (mkF m 215 #[.val (.long na), .second, .val (.long nb), .second, .val (.long nc), .second, .val (.long nq), .second, .val (.int fl), .val (.int (3 : Int32)), .val (.ref b4), .val (.ref b9), .val (.ref b14), .val (.ref b20), .val (.ref b21), .val (.ref b9), .val (.ref b14), .val (.ref b20), .val .null] []))
                refine own_byW (fun tz kz => XS.aload X200.here hx rfl (hb hby at_215) rfl rfl kz) ?_
                show own_GoW p e below s00 _ _ (T200.setTop (mkF m 217 #[.val (.long na), .second, .val (.long nb), .second, .val (.long nc), .second, .val (.long nq), .second, .val (.int fl), .val (.int (3 : Int32)), .val (.ref b4), .val (.ref b9), .val (.ref b14), .val (.ref b20), .val (.ref b21), .val (.ref b9), .val (.ref b14), .val (.ref b20), .val .null] [(.ref b21)]))
                refine own_byW (fun tz kz => XS.lloadN X200.here hx rfl (hb hby at_217) rfl kz) ?_
                show own_GoW p e below s00 _ _ (T200.setTop (mkF m 218 #[.val (.long na), .second, .val (.long nb), .second, .val (.long nc), .second, .val (.long nq), .second, .val (.int fl), .val (.int (3 : Int32)), .val (.ref b4), .val (.ref b9), .val (.ref b14), .val (.ref b20), .val (.ref b21), .val (.ref b9), .val (.ref b14), .val (.ref b20), .val .null] [(.long na), (.ref b21)]))
                have f243 := (f198.keep Kq200 (ninS ne_b20_b21 (ninS ne_b20_ar29 nin0)))
                have f244 := ((f193.keep Kq195 (ninS ne_b14_b21 (ninS ne_b14_ar29 nin0))).keep Kq200 (ninS ne_b14_b21 (ninS ne_b14_ar29 nin0)))
                have f245 := (((f188.keep Kq190 (ninS ne_b9_b21 (ninS ne_b9_ar29 nin0))).keep Kq195 (ninS ne_b9_b21 (ninS ne_b9_ar29 nin0))).keep Kq200 (ninS ne_b9_b21 (ninS ne_b9_ar29 nin0)))
                have Fi246 : own_Find (own_set (own_set (own_set own_g0 kf186 b9) kf191 b14) kf196 b20) num na (some b9) (own_H na) := by
                  have q := (Ta196).path b9 (by simp)
                  rw [n1] at q; exact q
                have hn246 : ∀ (k : Nat) (y : Addr), (own_set (own_set (own_set own_g0 kf186 b9) kf191 b14) kf196 b20) k = some y → Fld Z T200.heap y "com/example/ajenda/ajenda/core/Job" "number" "J" (.long (num y)) := by
                  intro k y q0
                  have q := (Ta196).all k y q0
                  simp only [List.mem_cons, List.not_mem_nil, or_false] at q
                  rcases q with q | q | q
                  · rw [q]; rw [n3]; exact f243
                  · rw [q]; rw [n2]; exact f244
                  · rw [q]; rw [n1]; exact f245
                have f247 := (f199.keep Kq200)
                obtain ⟨cq248, kq248, q248a, q248b, q248c⟩ := isOf hZ e200 f247
                obtain ⟨_, _, ⟨T248, L248, k248, n248⟩, -, X248, ⟨Lc248, hQ248, l248, y248, z248⟩, st248⟩ := X200.virtualBack hx (y := (⟨"com/example/ajenda/ajenda/core/JobsByNumber", "get", "(J)Lcom/example/ajenda/ajenda/core/Job;"⟩ : MethodName)) (z := (⟨"com/example/ajenda/ajenda/core/JobsByNumber", "get", "(J)Lcom/example/ajenda/ajenda/core/Job;"⟩ : MethodName)) hown (mvT hZ (hw _ (List.mem_of_getElem? (i := 80) rfl))) (mvT hZ (hw _ (List.mem_of_getElem? (i := 81) rfl))) (notFace_of_selects (args := #[]) (mvT hZ (hw _ (List.mem_of_getElem? (i := 83) rfl)))) (mvT hZ (hw _ (List.mem_of_getElem? (i := 83) rfl))) (mvT hZ (hw _ (List.mem_of_getElem? (i := 82) rfl))) (by decide) (backOf (W := 0) (rm_get l Z a0 hw [] b21 ar29 kk29 (own_set (own_set (own_set own_g0 kf186 b9) kf191 b14) kf196 b20) num na (some b9) T200.heap n0 Vq200 Fq200 hn246 Fi246) hZ (hw _ (List.mem_of_getElem? (i := 84) rfl)) (hw _ (List.mem_of_getElem? (i := 50) rfl)) (by decide) (by decide)) q248a q248c (g := (mkF m 218 #[.val (.long na), .second, .val (.long nb), .second, .val (.long nc), .second, .val (.long nq), .second, .val (.int fl), .val (.int (3 : Int32)), .val (.ref b4), .val (.ref b9), .val (.ref b14), .val (.ref b20), .val (.ref b21), .val (.ref b9), .val (.ref b14), .val (.ref b20), .val .null] [(.long na), (.ref b21)])) rfl (by rw [hml]; rfl) (Steps.refl _) (argsL := [(.long na)]) (rest := []) (lenOf pd_7 rfl) rfl (by show 2 * 0 + _ ≤ _; exact Nat.le_of_eq rfl) (hb hby at_218) (fun _ _ => ⟨rfl, e200, (by decide : ((((((((1 + 2) + 5) + 2) + 5) + 2) + 5) + 1) + 1) + 0 ≤ _), (by decide : ((((((((8 + 4) + 29) + (8 + 4)) + 29) + (8 + 4)) + 29) + 2) + 16) + 0 ≤ _)⟩)
                dsimp only [Pt.U, Pt.locs, Pt.cells, Pt.slots] at X248 l248 y248 z248 st248 hQ248
                rw [l248, y248, z248] at X248
                obtain ⟨rfl, Nq248, e248⟩ := hQ248
                have N248 := Fr.app N200 Nq248
                refine own_viaW st248 ?_
                show own_GoW p e below s00 _ _ (T248.setTop (mkF m 221 #[.val (.long na), .second, .val (.long nb), .second, .val (.long nc), .second, .val (.long nq), .second, .val (.int fl), .val (.int (3 : Int32)), .val (.ref b4), .val (.ref b9), .val (.ref b14), .val (.ref b20), .val (.ref b21), .val (.ref b9), .val (.ref b14), .val (.ref b20), .val .null] [(.ref b9)]))
                refine own_byW (fun tz kz => XS.aload X248.here hx rfl (hb hby at_221) rfl rfl kz) ?_
                show own_GoW p e below s00 _ _ (T248.setTop (mkF m 223 #[.val (.long na), .second, .val (.long nb), .second, .val (.long nc), .second, .val (.long nq), .second, .val (.int fl), .val (.int (3 : Int32)), .val (.ref b4), .val (.ref b9), .val (.ref b14), .val (.ref b20), .val (.ref b21), .val (.ref b9), .val (.ref b14), .val (.ref b20), .val .null] [(.ref b9), (.ref b9)]))
                refine own_byW (fun tz kz => Jvm.RoadKit.acmp (g := (mkF m 223 #[.val (.long na), .second, .val (.long nb), .second, .val (.long nc), .second, .val (.long nq), .second, .val (.int fl), .val (.int (3 : Int32)), .val (.ref b4), .val (.ref b9), .val (.ref b14), .val (.ref b20), .val (.ref b21), .val (.ref b9), .val (.ref b14), .val (.ref b20), .val .null] [(.ref b9), (.ref b9)])) X248 hx rfl rfl rfl (pc0 := 223) (pc' := 226) (same := true) rfl (hb hby at_223) rfl (decide_eq_true rfl) (by decide) (by decide) kz) ?_
                show own_GoW p e below s00 _ _ (T248.setTop (mkF m 226 #[.val (.long na), .second, .val (.long nb), .second, .val (.long nc), .second, .val (.long nq), .second, .val (.int fl), .val (.int (3 : Int32)), .val (.ref b4), .val (.ref b9), .val (.ref b14), .val (.ref b20), .val (.ref b21), .val (.ref b9), .val (.ref b14), .val (.ref b20), .val .null] []))
                refine own_byW (fun tz kz => XS.aload X248.here hx rfl (hb hby at_226) rfl rfl kz) ?_
                show own_GoW p e below s00 _ _ (T248.setTop (mkF m 228 #[.val (.long na), .second, .val (.long nb), .second, .val (.long nc), .second, .val (.long nq), .second, .val (.int fl), .val (.int (3 : Int32)), .val (.ref b4), .val (.ref b9), .val (.ref b14), .val (.ref b20), .val (.ref b21), .val (.ref b9), .val (.ref b14), .val (.ref b20), .val .null] [(.ref b21)]))
                refine own_byW (fun tz kz => XS.lloadN X248.here hx rfl (hb hby at_228) rfl kz) ?_
                show own_GoW p e below s00 _ _ (T248.setTop (mkF m 229 #[.val (.long na), .second, .val (.long nb), .second, .val (.long nc), .second, .val (.long nq), .second, .val (.int fl), .val (.int (3 : Int32)), .val (.ref b4), .val (.ref b9), .val (.ref b14), .val (.ref b20), .val (.ref b21), .val (.ref b9), .val (.ref b14), .val (.ref b20), .val .null] [(.long nb), (.ref b21)]))
                have Fi249 : own_Find (own_set (own_set (own_set own_g0 kf186 b9) kf191 b14) kf196 b20) num nb (some b14) (own_H nb) := by
                  have q := (Ta196).path b14 (by simp)
                  rw [n2] at q; exact q
                have hn249 : ∀ (k : Nat) (y : Addr), (own_set (own_set (own_set own_g0 kf186 b9) kf191 b14) kf196 b20) k = some y → Fld Z T200.heap y "com/example/ajenda/ajenda/core/Job" "number" "J" (.long (num y)) := by
                  intro k y q0
                  have q := (Ta196).all k y q0
                  simp only [List.mem_cons, List.not_mem_nil, or_false] at q
                  rcases q with q | q | q
                  · rw [q]; rw [n3]; exact f243
                  · rw [q]; rw [n2]; exact f244
                  · rw [q]; rw [n1]; exact f245
                obtain ⟨cq250, kq250, q250a, q250b, q250c⟩ := isOf hZ e248 f247
                obtain ⟨_, _, ⟨T250, L250, k250, n250⟩, -, X250, ⟨Lc250, hQ250, l250, y250, z250⟩, st250⟩ := X248.virtualBack hx (y := (⟨"com/example/ajenda/ajenda/core/JobsByNumber", "get", "(J)Lcom/example/ajenda/ajenda/core/Job;"⟩ : MethodName)) (z := (⟨"com/example/ajenda/ajenda/core/JobsByNumber", "get", "(J)Lcom/example/ajenda/ajenda/core/Job;"⟩ : MethodName)) hown (mvT hZ (hw _ (List.mem_of_getElem? (i := 80) rfl))) (mvT hZ (hw _ (List.mem_of_getElem? (i := 81) rfl))) (notFace_of_selects (args := #[]) (mvT hZ (hw _ (List.mem_of_getElem? (i := 83) rfl)))) (mvT hZ (hw _ (List.mem_of_getElem? (i := 83) rfl))) (mvT hZ (hw _ (List.mem_of_getElem? (i := 82) rfl))) (by decide) (backOf (W := 0) (rm_get l Z a0 hw [] b21 ar29 kk29 (own_set (own_set (own_set own_g0 kf186 b9) kf191 b14) kf196 b20) num nb (some b14) T200.heap n0 Vq200 Fq200 hn249 Fi249) hZ (hw _ (List.mem_of_getElem? (i := 84) rfl)) (hw _ (List.mem_of_getElem? (i := 50) rfl)) (by decide) (by decide)) q250a q250c (g := (mkF m 229 #[.val (.long na), .second, .val (.long nb), .second, .val (.long nc), .second, .val (.long nq), .second, .val (.int fl), .val (.int (3 : Int32)), .val (.ref b4), .val (.ref b9), .val (.ref b14), .val (.ref b20), .val (.ref b21), .val (.ref b9), .val (.ref b14), .val (.ref b20), .val .null] [(.long nb), (.ref b21)])) rfl (by rw [hml]; rfl) (Steps.refl _) (argsL := [(.long nb)]) (rest := []) (lenOf pd_7 rfl) rfl (by show 2 * 0 + _ ≤ _; exact Nat.le_of_eq rfl) (hb hby at_229) (fun _ _ => ⟨rfl, e248, (by decide : ((((((((1 + 2) + 5) + 2) + 5) + 2) + 5) + 1) + 1) + 0 ≤ _), (by decide : ((((((((8 + 4) + 29) + (8 + 4)) + 29) + (8 + 4)) + 29) + 2) + 16) + 0 ≤ _)⟩)
                dsimp only [Pt.U, Pt.locs, Pt.cells, Pt.slots] at X250 l250 y250 z250 st250 hQ250
                rw [l250, y250, z250] at X250
                obtain ⟨rfl, Nq250, e250⟩ := hQ250
                have N250 := Fr.app N248 Nq250
                refine own_viaW st250 ?_
                show own_GoW p e below s00 _ _ (T250.setTop (mkF m 232 #[.val (.long na), .second, .val (.long nb), .second, .val (.long nc), .second, .val (.long nq), .second, .val (.int fl), .val (.int (3 : Int32)), .val (.ref b4), .val (.ref b9), .val (.ref b14), .val (.ref b20), .val (.ref b21), .val (.ref b9), .val (.ref b14), .val (.ref b20), .val .null] [(.ref b14)]))
                refine own_byW (fun tz kz => XS.aload X250.here hx rfl (hb hby at_232) rfl rfl kz) ?_
                show own_GoW p e below s00 _ _ (T250.setTop (mkF m 234 #[.val (.long na), .second, .val (.long nb), .second, .val (.long nc), .second, .val (.long nq), .second, .val (.int fl), .val (.int (3 : Int32)), .val (.ref b4), .val (.ref b9), .val (.ref b14), .val (.ref b20), .val (.ref b21), .val (.ref b9), .val (.ref b14), .val (.ref b20), .val .null] [(.ref b14), (.ref b14)]))
                refine own_byW (fun tz kz => Jvm.RoadKit.acmp (g := (mkF m 234 #[.val (.long na), .second, .val (.long nb), .second, .val (.long nc), .second, .val (.long nq), .second, .val (.int fl), .val (.int (3 : Int32)), .val (.ref b4), .val (.ref b9), .val (.ref b14), .val (.ref b20), .val (.ref b21), .val (.ref b9), .val (.ref b14), .val (.ref b20), .val .null] [(.ref b14), (.ref b14)])) X250 hx rfl rfl rfl (pc0 := 234) (pc' := 237) (same := true) rfl (hb hby at_234) rfl (decide_eq_true rfl) (by decide) (by decide) kz) ?_
                show own_GoW p e below s00 _ _ (T250.setTop (mkF m 237 #[.val (.long na), .second, .val (.long nb), .second, .val (.long nc), .second, .val (.long nq), .second, .val (.int fl), .val (.int (3 : Int32)), .val (.ref b4), .val (.ref b9), .val (.ref b14), .val (.ref b20), .val (.ref b21), .val (.ref b9), .val (.ref b14), .val (.ref b20), .val .null] []))
                refine own_byW (fun tz kz => XS.aload X250.here hx rfl (hb hby at_237) rfl rfl kz) ?_
                show own_GoW p e below s00 _ _ (T250.setTop (mkF m 239 #[.val (.long na), .second, .val (.long nb), .second, .val (.long nc), .second, .val (.long nq), .second, .val (.int fl), .val (.int (3 : Int32)), .val (.ref b4), .val (.ref b9), .val (.ref b14), .val (.ref b20), .val (.ref b21), .val (.ref b9), .val (.ref b14), .val (.ref b20), .val .null] [(.ref b21)]))
                refine own_byW (fun tz kz => XS.lload X250.here hx rfl (hb hby at_239) rfl kz) ?_
                show own_GoW p e below s00 _ _ (T250.setTop (mkF m 241 #[.val (.long na), .second, .val (.long nb), .second, .val (.long nc), .second, .val (.long nq), .second, .val (.int fl), .val (.int (3 : Int32)), .val (.ref b4), .val (.ref b9), .val (.ref b14), .val (.ref b20), .val (.ref b21), .val (.ref b9), .val (.ref b14), .val (.ref b20), .val .null] [(.long nc), (.ref b21)]))
                have Fi251 : own_Find (own_set (own_set (own_set own_g0 kf186 b9) kf191 b14) kf196 b20) num nc (some b20) (own_H nc) := by
                  have q := (Ta196).path b20 (by simp)
                  rw [n3] at q; exact q
                have hn251 : ∀ (k : Nat) (y : Addr), (own_set (own_set (own_set own_g0 kf186 b9) kf191 b14) kf196 b20) k = some y → Fld Z T200.heap y "com/example/ajenda/ajenda/core/Job" "number" "J" (.long (num y)) := by
                  intro k y q0
                  have q := (Ta196).all k y q0
                  simp only [List.mem_cons, List.not_mem_nil, or_false] at q
                  rcases q with q | q | q
                  · rw [q]; rw [n3]; exact f243
                  · rw [q]; rw [n2]; exact f244
                  · rw [q]; rw [n1]; exact f245
                obtain ⟨cq252, kq252, q252a, q252b, q252c⟩ := isOf hZ e250 f247
                obtain ⟨_, _, ⟨T252, L252, k252, n252⟩, -, X252, ⟨Lc252, hQ252, l252, y252, z252⟩, st252⟩ := X250.virtualBack hx (y := (⟨"com/example/ajenda/ajenda/core/JobsByNumber", "get", "(J)Lcom/example/ajenda/ajenda/core/Job;"⟩ : MethodName)) (z := (⟨"com/example/ajenda/ajenda/core/JobsByNumber", "get", "(J)Lcom/example/ajenda/ajenda/core/Job;"⟩ : MethodName)) hown (mvT hZ (hw _ (List.mem_of_getElem? (i := 80) rfl))) (mvT hZ (hw _ (List.mem_of_getElem? (i := 81) rfl))) (notFace_of_selects (args := #[]) (mvT hZ (hw _ (List.mem_of_getElem? (i := 83) rfl)))) (mvT hZ (hw _ (List.mem_of_getElem? (i := 83) rfl))) (mvT hZ (hw _ (List.mem_of_getElem? (i := 82) rfl))) (by decide) (backOf (W := 0) (rm_get l Z a0 hw [] b21 ar29 kk29 (own_set (own_set (own_set own_g0 kf186 b9) kf191 b14) kf196 b20) num nc (some b20) T200.heap n0 Vq200 Fq200 hn251 Fi251) hZ (hw _ (List.mem_of_getElem? (i := 84) rfl)) (hw _ (List.mem_of_getElem? (i := 50) rfl)) (by decide) (by decide)) q252a q252c (g := (mkF m 241 #[.val (.long na), .second, .val (.long nb), .second, .val (.long nc), .second, .val (.long nq), .second, .val (.int fl), .val (.int (3 : Int32)), .val (.ref b4), .val (.ref b9), .val (.ref b14), .val (.ref b20), .val (.ref b21), .val (.ref b9), .val (.ref b14), .val (.ref b20), .val .null] [(.long nc), (.ref b21)])) rfl (by rw [hml]; rfl) (Steps.refl _) (argsL := [(.long nc)]) (rest := []) (lenOf pd_7 rfl) rfl (by show 2 * 0 + _ ≤ _; exact Nat.le_of_eq rfl) (hb hby at_241) (fun _ _ => ⟨rfl, e250, (by decide : ((((((((1 + 2) + 5) + 2) + 5) + 2) + 5) + 1) + 1) + 0 ≤ _), (by decide : ((((((((8 + 4) + 29) + (8 + 4)) + 29) + (8 + 4)) + 29) + 2) + 16) + 0 ≤ _)⟩)
                dsimp only [Pt.U, Pt.locs, Pt.cells, Pt.slots] at X252 l252 y252 z252 st252 hQ252
                rw [l252, y252, z252] at X252
                obtain ⟨rfl, Nq252, e252⟩ := hQ252
                have N252 := Fr.app N250 Nq252
                refine own_viaW st252 ?_
                show own_GoW p e below s00 _ _ (T252.setTop (mkF m 244 #[.val (.long na), .second, .val (.long nb), .second, .val (.long nc), .second, .val (.long nq), .second, .val (.int fl), .val (.int (3 : Int32)), .val (.ref b4), .val (.ref b9), .val (.ref b14), .val (.ref b20), .val (.ref b21), .val (.ref b9), .val (.ref b14), .val (.ref b20), .val .null] [(.ref b20)]))
                refine own_byW (fun tz kz => XS.aload X252.here hx rfl (hb hby at_244) rfl rfl kz) ?_
                show own_GoW p e below s00 _ _ (T252.setTop (mkF m 246 #[.val (.long na), .second, .val (.long nb), .second, .val (.long nc), .second, .val (.long nq), .second, .val (.int fl), .val (.int (3 : Int32)), .val (.ref b4), .val (.ref b9), .val (.ref b14), .val (.ref b20), .val (.ref b21), .val (.ref b9), .val (.ref b14), .val (.ref b20), .val .null] [(.ref b20), (.ref b20)]))
                refine own_byW (fun tz kz => Jvm.RoadKit.acmp (g := (mkF m 246 #[.val (.long na), .second, .val (.long nb), .second, .val (.long nc), .second, .val (.long nq), .second, .val (.int fl), .val (.int (3 : Int32)), .val (.ref b4), .val (.ref b9), .val (.ref b14), .val (.ref b20), .val (.ref b21), .val (.ref b9), .val (.ref b14), .val (.ref b20), .val .null] [(.ref b20), (.ref b20)])) X252 hx rfl rfl rfl (pc0 := 246) (pc' := 249) (same := true) rfl (hb hby at_246) rfl (decide_eq_true rfl) (by decide) (by decide) kz) ?_
                show own_GoW p e below s00 _ _ (T252.setTop (mkF m 249 #[.val (.long na), .second, .val (.long nb), .second, .val (.long nc), .second, .val (.long nq), .second, .val (.int fl), .val (.int (3 : Int32)), .val (.ref b4), .val (.ref b9), .val (.ref b14), .val (.ref b20), .val (.ref b21), .val (.ref b9), .val (.ref b14), .val (.ref b20), .val .null] []))
                refine own_byW (fun tz kz => XS.aload X252.here hx rfl (hb hby at_249) rfl rfl kz) ?_
                show own_GoW p e below s00 _ _ (T252.setTop (mkF m 251 #[.val (.long na), .second, .val (.long nb), .second, .val (.long nc), .second, .val (.long nq), .second, .val (.int fl), .val (.int (3 : Int32)), .val (.ref b4), .val (.ref b9), .val (.ref b14), .val (.ref b20), .val (.ref b21), .val (.ref b9), .val (.ref b14), .val (.ref b20), .val .null] [(.ref b21)]))
                refine own_byW (fun tz kz => XS.lload X252.here hx rfl (hb hby at_251) rfl kz) ?_
                show own_GoW p e below s00 _ _ (T252.setTop (mkF m 253 #[.val (.long na), .second, .val (.long nb), .second, .val (.long nc), .second, .val (.long nq), .second, .val (.int fl), .val (.int (3 : Int32)), .val (.ref b4), .val (.ref b9), .val (.ref b14), .val (.ref b20), .val (.ref b21), .val (.ref b9), .val (.ref b14), .val (.ref b20), .val .null] [(.long nq), (.ref b21)]))
                have hne253 : ∀ y ∈ ([b20, b14, b9] : List Addr), ¬ num y = nq := by
                  intro y q
                  simp only [List.mem_cons, List.not_mem_nil, or_false] at q
                  rcases q with q | q | q
                  · rw [q]; rw [n3]; exact (fun z => hc208_229 z.symm)
                  · rw [q]; rw [n2]; exact (fun z => hc193_215 z.symm)
                  · rw [q]; rw [n1]; exact (fun z => hc179_201 z.symm)
                have Fi253 : own_Find (own_set (own_set (own_set own_g0 kf186 b9) kf191 b14) kf196 b20) num nq none (own_H nq) := by
                  exact (Ta196).miss (by simp) (own_H_lt _) hne253
                have hn253 : ∀ (k : Nat) (y : Addr), (own_set (own_set (own_set own_g0 kf186 b9) kf191 b14) kf196 b20) k = some y → Fld Z T200.heap y "com/example/ajenda/ajenda/core/Job" "number" "J" (.long (num y)) := by
                  intro k y q0
                  have q := (Ta196).all k y q0
                  simp only [List.mem_cons, List.not_mem_nil, or_false] at q
                  rcases q with q | q | q
                  · rw [q]; rw [n3]; exact f243
                  · rw [q]; rw [n2]; exact f244
                  · rw [q]; rw [n1]; exact f245
                obtain ⟨cq254, kq254, q254a, q254b, q254c⟩ := isOf hZ e252 f247
                obtain ⟨_, _, ⟨T254, L254, k254, n254⟩, -, X254, ⟨Lc254, hQ254, l254, y254, z254⟩, st254⟩ := X252.virtualBack hx (y := (⟨"com/example/ajenda/ajenda/core/JobsByNumber", "get", "(J)Lcom/example/ajenda/ajenda/core/Job;"⟩ : MethodName)) (z := (⟨"com/example/ajenda/ajenda/core/JobsByNumber", "get", "(J)Lcom/example/ajenda/ajenda/core/Job;"⟩ : MethodName)) hown (mvT hZ (hw _ (List.mem_of_getElem? (i := 80) rfl))) (mvT hZ (hw _ (List.mem_of_getElem? (i := 81) rfl))) (notFace_of_selects (args := #[]) (mvT hZ (hw _ (List.mem_of_getElem? (i := 83) rfl)))) (mvT hZ (hw _ (List.mem_of_getElem? (i := 83) rfl))) (mvT hZ (hw _ (List.mem_of_getElem? (i := 82) rfl))) (by decide) (backOf (W := 0) (rm_get l Z a0 hw [] b21 ar29 kk29 (own_set (own_set (own_set own_g0 kf186 b9) kf191 b14) kf196 b20) num nq none T200.heap n0 Vq200 Fq200 hn253 Fi253) hZ (hw _ (List.mem_of_getElem? (i := 84) rfl)) (hw _ (List.mem_of_getElem? (i := 50) rfl)) (by decide) (by decide)) q254a q254c (g := (mkF m 253 #[.val (.long na), .second, .val (.long nb), .second, .val (.long nc), .second, .val (.long nq), .second, .val (.int fl), .val (.int (3 : Int32)), .val (.ref b4), .val (.ref b9), .val (.ref b14), .val (.ref b20), .val (.ref b21), .val (.ref b9), .val (.ref b14), .val (.ref b20), .val .null] [(.long nq), (.ref b21)])) rfl (by rw [hml]; rfl) (Steps.refl _) (argsL := [(.long nq)]) (rest := []) (lenOf pd_7 rfl) rfl (by show 2 * 0 + _ ≤ _; exact Nat.le_of_eq rfl) (hb hby at_253) (fun _ _ => ⟨rfl, e252, (by decide : ((((((((1 + 2) + 5) + 2) + 5) + 2) + 5) + 1) + 1) + 0 ≤ _), (by decide : ((((((((8 + 4) + 29) + (8 + 4)) + 29) + (8 + 4)) + 29) + 2) + 16) + 0 ≤ _)⟩)
                dsimp only [Pt.U, Pt.locs, Pt.cells, Pt.slots] at X254 l254 y254 z254 st254 hQ254
                rw [l254, y254, z254] at X254
                obtain ⟨rfl, Nq254, e254⟩ := hQ254
                have N254 := Fr.app N252 Nq254
                refine own_viaW st254 ?_
                show own_GoW p e below s00 _ _ (T254.setTop (mkF m 256 #[.val (.long na), .second, .val (.long nb), .second, .val (.long nc), .second, .val (.long nq), .second, .val (.int fl), .val (.int (3 : Int32)), .val (.ref b4), .val (.ref b9), .val (.ref b14), .val (.ref b20), .val (.ref b21), .val (.ref b9), .val (.ref b14), .val (.ref b20), .val .null] [.null]))
                refine own_byW (fun tz kz => XS.aload X254.here hx rfl (hb hby at_256) rfl rfl kz) ?_
                show own_GoW p e below s00 _ _ (T254.setTop (mkF m 258 #[.val (.long na), .second, .val (.long nb), .second, .val (.long nc), .second, .val (.long nq), .second, .val (.int fl), .val (.int (3 : Int32)), .val (.ref b4), .val (.ref b9), .val (.ref b14), .val (.ref b20), .val (.ref b21), .val (.ref b9), .val (.ref b14), .val (.ref b20), .val .null] [.null, .null]))
                refine own_byW (fun tz kz => Jvm.RoadKit.acmp (g := (mkF m 258 #[.val (.long na), .second, .val (.long nb), .second, .val (.long nc), .second, .val (.long nq), .second, .val (.int fl), .val (.int (3 : Int32)), .val (.ref b4), .val (.ref b9), .val (.ref b14), .val (.ref b20), .val (.ref b21), .val (.ref b9), .val (.ref b14), .val (.ref b20), .val .null] [.null, .null])) X254 hx rfl rfl rfl (pc0 := 258) (pc' := 261) (same := true) rfl (hb hby at_258) rfl (decide_eq_true rfl) (by decide) (by decide) kz) ?_
                show own_GoW p e below s00 _ _ (T254.setTop (mkF m 261 #[.val (.long na), .second, .val (.long nb), .second, .val (.long nc), .second, .val (.long nq), .second, .val (.int fl), .val (.int (3 : Int32)), .val (.ref b4), .val (.ref b9), .val (.ref b14), .val (.ref b20), .val (.ref b21), .val (.ref b9), .val (.ref b14), .val (.ref b20), .val .null] []))
                refine own_byW (fun tz kz => XS.iconst X254.here hx rfl (hb hby at_261) kz) ?_
                show own_GoW p e below s00 _ _ (T254.setTop (mkF m 262 #[.val (.long na), .second, .val (.long nb), .second, .val (.long nc), .second, .val (.long nq), .second, .val (.int fl), .val (.int (3 : Int32)), .val (.ref b4), .val (.ref b9), .val (.ref b14), .val (.ref b20), .val (.ref b21), .val (.ref b9), .val (.ref b14), .val (.ref b20), .val .null] [(.int (1 : Int32))]))
                refine own_byW (fun tz kz => XS.goto X254.here hx rfl (pc0 := 262) (pc' := 266) rfl (hb hby at_262) (by decide) (by decide) kz) ?_
                show own_GoW p e below s00 _ _ (T254.setTop (mkF m 266 #[.val (.long na), .second, .val (.long nb), .second, .val (.long nc), .second, .val (.long nq), .second, .val (.int fl), .val (.int (3 : Int32)), .val (.ref b4), .val (.ref b9), .val (.ref b14), .val (.ref b20), .val (.ref b21), .val (.ref b9), .val (.ref b14), .val (.ref b20), .val .null] [(.int (1 : Int32))]))
                have A255 := (own_At.up (own_At.up (own_At.up (own_At.up (own_At.up A20 E21.1) Kq29.1) Kq190.1) Kq195.1) Kq200.1)
                refine own_retIW X254 e254 A255 hx hlk (t := .boolean) hret (by simp) rfl (hb hby at_266) ?_ (by decide) (by decide)
                exact ⟨rfl, N254⟩
set_option maxRecDepth 65536 in
set_option maxHeartbeats 40000000 in
theorem comes_1 {Post : Tables → Env → Array Value → State → Outcome → State → Prop} (hpost : ∀ tb e args s v u, (limb_1_1.after args s (.returned v) u = true ∧ limb_1_2.after args s (.returned v) u = true ∧ True) → ReturnedEndW s (.returned v) u (Jvm.fieldLocs frame_1_writes args s ++ Jvm.arrayLocs frame_1_arrays args s ++ Jvm.staticLocs frame_1_statics s) 24 2240 → Post tb e args s (.returned v) u) :
    ArmFor flags0 classFile x code maxLocals ret World_1 tables_1 room_1 Calls_1 rest_1 Pre_1 Post := by
  intro l hfl _ _ p e ha hc hk s m args below hf hA hF happ hP
  obtain ⟨hcalls, hrest, hpre⟩ := hP
  obtain ⟨-, -, -, hnamed, -, -, -, hat⟩ := (Spec.applies_iff hf).mp happ
  obtain ⟨hg, hn⟩ := and_e (Cond.before_iff.mp (show (Jvm.Cond.and given_1 narrow_1).before args s = true from hpre))
  obtain ⟨g1a, g1b⟩ := and_e hg
  obtain ⟨g2a, g2b⟩ := and_e g1b
  obtain ⟨g3a, g3b⟩ := and_e g2b
  obtain ⟨g4a, g4b⟩ := and_e g3b
  obtain ⟨g5a, g5b⟩ := and_e g4b
  obtain ⟨w0, w1, w2, w3, w4, rfl⟩ : ∃ w0 w1 w2 w3 w4 : Value, args = #[w0, w1, w2, w3, w4] := by
    have hs : args.size = 5 := by simpa [Cond.value, given_1] using g1a
    obtain ⟨L⟩ := args
    match L, hs with
    | [w0, w1, w2, w3, w4], _ => exact ⟨w0, w1, w2, w3, w4, rfl⟩
  have hw := fun d (hd : d ∈ tables_1) => atoms_spec (ws := Jvm.Cond.code x code maxLocals ret :: tables_1) hat d (List.mem_cons_of_mem _ hd)
  have hfit : Fit s := fun {y c} hc i hi => by
    obtain ⟨ha, rfl⟩ := Array.getElem?_eq_some_iff.mp hc
    have q := List.all_eq_true.mp ((Array.all_eq_true_iff_forall_mem.mp hF) _ (Array.getElem_mem ha)) i (List.mem_range.mpr hi)
    simpa [Array.getElem?_eq_getElem hi] using q
  obtain ⟨i0, ei0⟩ := isL_v g2a
  obtain rfl : w0 = (.long i0) := Option.some.inj ei0
  obtain ⟨i1, ei1⟩ := isL_v g3a
  obtain rfl : w1 = (.long i1) := Option.some.inj ei1
  obtain ⟨i2, ei2⟩ := isL_v g4a
  obtain rfl : w2 = (.long i2) := Option.some.inj ei2
  obtain ⟨i3, ei3⟩ := isL_v g5a
  obtain rfl : w3 = (.long i3) := Option.some.inj ei3
  obtain ⟨i4, ei4⟩ := is_v g5b
  obtain rfl : w4 = (.int i4) := Option.some.inj ei4
  obtain ⟨m6a, m6b⟩ := and_e hn
  obtain ⟨m7a, m7b⟩ := and_e m6b
  obtain ⟨m8a, m8b⟩ := and_e m7b
  obtain ⟨m9a, m9b⟩ := and_e m8b
  obtain ⟨Priority_HIGH, ev_Priority_HIGH⟩ := exa_v m6a
  have E_Priority_HIGH : Exa s s.heap Priority_HIGH "com/example/ajenda/ajenda/core/Priority" := Exa.start ev_Priority_HIGH m6a
  have S_Priority_HIGH : Sta s s.heap "com/example/ajenda/ajenda/core/Priority" "HIGH" "Lcom/example/ajenda/ajenda/core/Priority;" (.ref Priority_HIGH) := Sta.start ev_Priority_HIGH (Or.inr ⟨(hw _ (List.mem_of_getElem? (i := 9) rfl)), (hw _ (List.mem_of_getElem? (i := 10) rfl))⟩)
  obtain ⟨Priority_NORMAL, ev_Priority_NORMAL⟩ := exa_v m9a
  have E_Priority_NORMAL : Exa s s.heap Priority_NORMAL "com/example/ajenda/ajenda/core/Priority" := Exa.start ev_Priority_NORMAL m9a
  have S_Priority_NORMAL : Sta s s.heap "com/example/ajenda/ajenda/core/Priority" "NORMAL" "Lcom/example/ajenda/ajenda/core/Priority;" (.ref Priority_NORMAL) := Sta.start ev_Priority_NORMAL (Or.inr ⟨(hw _ (List.mem_of_getElem? (i := 9) rfl)), (hw _ (List.mem_of_getElem? (i := 45) rfl))⟩)
  obtain ⟨Priority_LOW, ev_Priority_LOW⟩ := exa_v m9b
  have E_Priority_LOW : Exa s s.heap Priority_LOW "com/example/ajenda/ajenda/core/Priority" := Exa.start ev_Priority_LOW m9b
  have S_Priority_LOW : Sta s s.heap "com/example/ajenda/ajenda/core/Priority" "LOW" "Lcom/example/ajenda/ajenda/core/Priority;" (.ref Priority_LOW) := Sta.start ev_Priority_LOW (Or.inr ⟨(hw _ (List.mem_of_getElem? (i := 9) rfl)), (hw _ (List.mem_of_getElem? (i := 47) rfl))⟩)
  obtain ⟨Job_EMPTY, ev_Job_EMPTY⟩ := arr_v m7a
  have S_Job_EMPTY : Sta s s.heap "com/example/ajenda/ajenda/core/Job" "EMPTY" "[B" (.ref Job_EMPTY) := Sta.start ev_Job_EMPTY (Or.inr ⟨(hw _ (List.mem_of_getElem? (i := 13) rfl)), (hw _ (List.mem_of_getElem? (i := 39) rfl))⟩)
  obtain ⟨c_Job_EMPTY, A_Job_EMPTY⟩ := Arr.start ev_Job_EMPTY m7a
  obtain ⟨_, _, le1, le2, le3⟩ := Term.length_spec (eqv_i (Term.int_eval (0)) m8a)
  cases ev_Job_EMPTY.symm.trans le1
  cases (State.arrayAt?_spec le2).1.symm.trans A_Job_EMPTY.1
  have z_Job_EMPTY : c_Job_EMPTY.slots.size.toInt32 = (0 : Int32) := (Value.int.inj le3).symm
  have l_Job_EMPTY := own_len31 (eqv_i (Term.int_eval (0)) m8a) ev_Job_EMPTY A_Job_EMPTY.1
  have V_Job_EMPTY : Arv s s.heap Job_EMPTY c_Job_EMPTY.cls .byte (0 : Int32) [] (.int (0 : Int32)) := Arv.start hfit A_Job_EMPTY l_Job_EMPTY z_Job_EMPTY (by decide) rfl trivial
  obtain ⟨n, o, h1, h2, h3, _, L, rfl, ⟨rfl, N⟩, hq⟩ := rm0 l s _ hw tables_1 i0 i1 i2 i3 i4 Job_EMPTY Priority_HIGH Priority_NORMAL Priority_LOW s.heap s.heap.size (Old.start s) S_Job_EMPTY S_Priority_HIGH S_Priority_NORMAL S_Priority_LOW p e ha hc hk s m _ below hf ((Spec.applies_iff_loose hf).mp happ).1 ⟨rfl, State.Warmed39.refl s, rfl⟩ trivial
  refine ⟨n, _, h1, h2, h3, hpost _ _ _ _ _ _ ⟨Cond.after_iff.mpr rfl, Cond.after_iff.mpr (eq_i res_at (Term.int_eval (1)) rfl), trivial⟩ ⟨hq.1, hq.2.1, hq.2.2.1, (hq.2.2.2.sift fun y hy => Or.inr (N y hy)).mono (by decide) (by decide)⟩⟩
theorem main_1_1 : Claimed_1_1 := comes_1 fun _ _ _ _ _ _ h hF => ⟨h.1, hF⟩
theorem main_1_2 : Claimed_1_2 := comes_1 fun _ _ _ _ _ _ h hF => ⟨h.2.1, hF⟩
end Jvm.Pilot.@@N@@
namespace Jvm.Pilot.@@N@@
open Jvm Jvm.ClassFile Sem Op Lib Jvm.Free Jvm.Stand Jvm.Pilot.@@N@@.Jvm.D
/-! MADE BY PROGRAM (witnessworld.py) out of the Statement's table words and the real class files: 20 classes; the members and pool entries that the words name. The judged class is class 1, her method 1. -/
namespace start1
open Jvm.ClassFile
def u (s : String) : CpInfo := .utf8 (stringToUtf16 s)
/-- a pool by its gaps: so many unusable entries, then the entry; so many at the end -/
def gap : Nat → List CpInfo → List CpInfo
  | 0, r => r
  | n + 1, r => .unusable :: gap n r
def poolList (es : List (Nat × CpInfo)) (last : Nat) : List CpInfo := es.foldr (fun e r => gap e.1 (e.2 :: r)) (gap last [])
def pool (es : List (Nat × CpInfo)) (last : Nat) : Array CpInfo := ⟨poolList es last⟩
def fileOf (pool : Array CpInfo) (this : Nat) (attrs : Array Attribute := #[]) (ms : Array MethodInfo := #[]) (fl : Nat := 33) (sup : Nat := 0) (ifs : Array Nat := #[]) (fds : Array FieldInfo := #[]) : ClassFile where
  minorVersion := 0
  majorVersion := 65
  constantPool := pool
  accessFlags := fl
  thisClass := this
  superClass := sup
  interfaces := ifs
  fields := fds
  methods := ms
  attributes := attrs
def plain (name : String) (sup : Option ClassId) : Class where
  name := name
  kind := .ordinary
  loader := none
  accessFlags := 33
  super := sup
  interfaces := #[]
  cf := none
  fields := #[]
  methods := #[]
  instanceTypes := #[]
  staticTypes := #[]
  resolved := #[]
  callSites := []
  init := .initialized
  statics := none
  mirror := none

def pool0 : Array CpInfo := pool [(5, u "<init>"), (0, u "()V"), (1, .class_ 10), (1, u "java/lang/Object")] 113

def k0c0 : Code := { maxStack := 0, maxLocals := 1, code := object_method_1_code, exceptionTable := #[], attributes := #[] }
def k0m0 : Method := { name := "<init>", desc := "()V", sig := { parameters := [], returnType := none }, accessFlags := 1, code := some k0c0 }
/-- java/lang/Object -/
def k0 : Class := { plain "java/lang/Object" none with
  accessFlags := 33
  interfaces := #[]
  cf := some (fileOf pool0 8 #[] #[{ accessFlags := 1, nameIndex := 5, descriptorIndex := 6, attributes := #[] }] 33 0 #[] #[])
  fields := #[]
  methods := #[k0m0]
  instanceTypes := #[]
  staticTypes := #[]
  resolved := Array.replicate 124 none
  statics := none }

def pool1 : Array CpInfo := pool [(2, .class_ 4), (0, .nameAndType 5 6), (0, u "java/lang/Object"), (0, u "<init>"), (0, u "()V"), (0, .string 8), (0, u "H:"), (0, .fieldref 10 11), (0, .class_ 12), (0, .nameAndType 13 14), (0, u "com/example/ajenda/ajenda/core/Priority"), (0, u "HIGH"), (0, u "Lcom/example/ajenda/ajenda/core/Priority;"), (0, .methodref 16 17), (0, .class_ 18), (0, .nameAndType 19 20), (0, u "com/example/ajenda/ajenda/core/Job"), (0, u "made"), (0, u "(JLjava/lang/String;Lcom/example/ajenda/ajenda/core/FunctionQueue;Lcom/example/ajenda/ajenda/core/Priority;[B[B)Lcom/example/ajenda/ajenda/core/Job;"), (0, .fieldref 10 22), (0, .nameAndType 23 14), (0, u "NORMAL"), (0, .fieldref 10 25), (0, .nameAndType 26 14), (0, u "LOW"), (0, .class_ 28), (0, u "com/example/ajenda/ajenda/core/JobsByNumber"), (0, .methodref 27 3), (0, .methodref 27 31), (0, .nameAndType 32 33), (0, u "add"), (0, u "(Lcom/example/ajenda/ajenda/core/Job;)V"), (0, .methodref 27 35), (0, .nameAndType 36 37), (0, u "get"), (0, u "(J)Lcom/example/ajenda/ajenda/core/Job;"), (0, .class_ 39), (0, u "com/example/ajenda/ajenda/core/JobsByNumberGetPinLaw"), (2, u "law"), (0, u "(JJJJI)Z")] 5

def k1m0 : Method := { name := "<init>", desc := "()V", sig := { parameters := [], returnType := none }, accessFlags := 1, code := none }
def k1c1 : Code := { maxStack := 7, maxLocals := 19, code := code, exceptionTable := #[], attributes := #[] }
def k1m1 : Method := { name := "law", desc := "(JJJJI)Z", sig := { parameters := [.long, .long, .long, .long, .int], returnType := some .boolean }, accessFlags := 9, code := some k1c1 }
/-- com/example/ajenda/ajenda/core/JobsByNumberGetPinLaw -/
def k1 : Class := { plain "com/example/ajenda/ajenda/core/JobsByNumberGetPinLaw" (some 0) with
  accessFlags := 49
  interfaces := #[]
  cf := some (fileOf pool1 38 #[] #[{ accessFlags := 1, nameIndex := 5, descriptorIndex := 6, attributes := #[] }, { accessFlags := 9, nameIndex := 42, descriptorIndex := 43, attributes := #[] }] 49 2 #[] #[])
  fields := #[]
  methods := #[k1m0, k1m1]
  instanceTypes := #[]
  staticTypes := #[]
  resolved := Array.replicate 49 none
  statics := none }

def pool2 : Array CpInfo := pool [(1, .class_ 2), (0, u "java/io/Serializable"), (0, .class_ 4), (0, u "java/lang/Object")] 2

/-- java/io/Serializable -/
def k2 : Class := { plain "java/io/Serializable" (some 0) with
  accessFlags := 1537
  interfaces := #[]
  cf := some (fileOf pool2 1 #[] #[] 1537 3 #[] #[])
  fields := #[]
  methods := #[]
  instanceTypes := #[]
  staticTypes := #[]
  resolved := Array.replicate 7 none
  statics := none }

def pool3 : Array CpInfo := pool [(1, .class_ 2), (0, u "java/lang/Comparable"), (0, .class_ 4), (0, u "java/lang/Object")] 7

/-- java/lang/Comparable -/
def k3 : Class := { plain "java/lang/Comparable" (some 0) with
  accessFlags := 1537
  interfaces := #[]
  cf := some (fileOf pool3 1 #[] #[] 1537 3 #[] #[])
  fields := #[]
  methods := #[]
  instanceTypes := #[]
  staticTypes := #[]
  resolved := Array.replicate 12 none
  statics := none }

def pool4 : Array CpInfo := pool [(2, .class_ 4), (1, u "java/lang/CharSequence"), (42, .class_ 48), (0, u "java/lang/CharSequence$1CodePointIterator"), (10, .class_ 60), (0, u "java/lang/CharSequence$1CharIterator"), (5, .class_ 67), (0, u "java/lang/Object")] 63

/-- java/lang/CharSequence -/
def k4 : Class := { plain "java/lang/CharSequence" (some 0) with
  accessFlags := 1537
  interfaces := #[]
  cf := some (fileOf pool4 2 #[.nestMembers #[47, 59]] #[] 1537 66 #[] #[])
  fields := #[]
  methods := #[]
  instanceTypes := #[]
  staticTypes := #[]
  resolved := Array.replicate 131 none
  statics := none }

def pool5 : Array CpInfo := pool [(1, .class_ 2), (0, u "java/lang/constant/Constable"), (0, .class_ 4), (0, u "java/lang/Object")] 6

/-- java/lang/constant/Constable -/
def k5 : Class := { plain "java/lang/constant/Constable" (some 0) with
  accessFlags := 1537
  interfaces := #[]
  cf := some (fileOf pool5 1 #[] #[] 1537 3 #[] #[])
  fields := #[]
  methods := #[]
  instanceTypes := #[]
  staticTypes := #[]
  resolved := Array.replicate 11 none
  statics := none }

def pool6 : Array CpInfo := pool [(1, .class_ 2), (0, u "java/lang/constant/ConstantDesc"), (0, .class_ 4), (0, u "java/lang/Object")] 32

/-- java/lang/constant/ConstantDesc -/
def k6 : Class := { plain "java/lang/constant/ConstantDesc" (some 0) with
  accessFlags := 1537
  interfaces := #[]
  cf := some (fileOf pool6 1 #[] #[] 1537 3 #[] #[])
  fields := #[]
  methods := #[]
  instanceTypes := #[]
  staticTypes := #[]
  resolved := Array.replicate 37 none
  statics := none }

def pool7 : Array CpInfo := pool [(2, .class_ 4), (1, u "java/lang/Object"), (0, u "<init>"), (0, u "()V"), (3, .class_ 12), (1, u "java/lang/String"), (0, u "value"), (0, u "[B"), (2, u "coder"), (0, u "B"), (2, u "hash"), (0, u "I"), (2, u "hashIsZero"), (0, u "Z"), (13, u "COMPACT_STRINGS"), (534, .class_ 576), (0, u "java/lang/CharSequence"), (22, u "CASE_INSENSITIVE_ORDER"), (0, u "Ljava/util/Comparator;"), (500, u "serialPersistentFields"), (0, u "[Ljava/io/ObjectStreamField;"), (0, .class_ 1104), (0, u "java/lang/String$CaseInsensitiveComparator"), (1, .class_ 1107), (0, u "java/io/Serializable"), (0, .class_ 1109), (0, u "java/lang/Comparable"), (0, .class_ 1111), (0, u "java/lang/constant/Constable"), (0, .class_ 1113), (0, u "java/lang/constant/ConstantDesc"), (2, u "serialVersionUID"), (0, u "J"), (3, u "REPL"), (0, u "C"), (2, u "LATIN1"), (1, u "UTF16")] 323

def k7m0 : Method := { name := "<init>", desc := "()V", sig := { parameters := [], returnType := none }, accessFlags := 1, code := none }
/-- java/lang/String -/
def k7 : Class := { plain "java/lang/String" (some 0) with
  accessFlags := 49
  interfaces := #[2, 3, 4, 5, 6]
  cf := some (fileOf pool7 10 #[.nestMembers #[1103]] #[{ accessFlags := 1, nameIndex := 5, descriptorIndex := 6, attributes := #[] }] 49 2 #[1106, 1108, 575, 1110, 1112] #[{ accessFlags := 18, nameIndex := 13, descriptorIndex := 14, attributes := #[] }, { accessFlags := 18, nameIndex := 17, descriptorIndex := 18, attributes := #[] }, { accessFlags := 2, nameIndex := 21, descriptorIndex := 22, attributes := #[] }, { accessFlags := 2, nameIndex := 25, descriptorIndex := 26, attributes := #[] }, { accessFlags := 26, nameIndex := 1116, descriptorIndex := 1117, attributes := #[] }, { accessFlags := 24, nameIndex := 40, descriptorIndex := 26, attributes := #[] }, { accessFlags := 26, nameIndex := 1101, descriptorIndex := 1102, attributes := #[] }, { accessFlags := 26, nameIndex := 1121, descriptorIndex := 1122, attributes := #[] }, { accessFlags := 25, nameIndex := 599, descriptorIndex := 600, attributes := #[] }, { accessFlags := 24, nameIndex := 1125, descriptorIndex := 18, attributes := #[] }, { accessFlags := 24, nameIndex := 1127, descriptorIndex := 18, attributes := #[] }])
  fields := #[{ name := "value", type := (.array .byte), accessFlags := 18, slot := 0, constantValue := 0 }, { name := "coder", type := .byte, accessFlags := 18, slot := 1, constantValue := 0 }, { name := "hash", type := .int, accessFlags := 2, slot := 2, constantValue := 0 }, { name := "hashIsZero", type := .boolean, accessFlags := 2, slot := 3, constantValue := 0 }, { name := "serialVersionUID", type := .long, accessFlags := 26, slot := 0, constantValue := 0 }, { name := "COMPACT_STRINGS", type := .boolean, accessFlags := 24, slot := 1, constantValue := 0 }, { name := "serialPersistentFields", type := (.array (.object "java/io/ObjectStreamField")), accessFlags := 26, slot := 2, constantValue := 0 }, { name := "REPL", type := .char, accessFlags := 26, slot := 3, constantValue := 0 }, { name := "CASE_INSENSITIVE_ORDER", type := (.object "java/util/Comparator"), accessFlags := 25, slot := 4, constantValue := 0 }, { name := "LATIN1", type := .byte, accessFlags := 24, slot := 5, constantValue := 0 }, { name := "UTF16", type := .byte, accessFlags := 24, slot := 6, constantValue := 0 }]
  methods := #[k7m0]
  instanceTypes := #[(.array .byte), .byte, .int, .boolean]
  staticTypes := #[.long, .boolean, (.array (.object "java/io/ObjectStreamField")), .char, (.object "java/util/Comparator"), .byte, .byte]
  resolved := Array.replicate 1451 none
  statics := none }

def pool8 : Array CpInfo := pool [(2, .class_ 4), (1, u "java/lang/Enum"), (0, u "name"), (0, u "Ljava/lang/String;"), (2, u "ordinal"), (0, u "I"), (1, .class_ 14), (1, u "java/lang/Object"), (4, u "hash"), (86, .class_ 108), (1, u "java/lang/Enum$EnumDesc"), (2, .class_ 112), (0, u "java/lang/constant/Constable"), (0, .class_ 114), (0, u "java/lang/Comparable"), (0, .class_ 116), (0, u "java/io/Serializable")] 87

/-- java/lang/Enum -/
def k8 : Class := { plain "java/lang/Enum" (some 0) with
  accessFlags := 1057
  interfaces := #[5, 3, 2]
  cf := some (fileOf pool8 2 #[.nestMembers #[106]] #[] 1057 12 #[111, 113, 115] #[{ accessFlags := 18, nameIndex := 5, descriptorIndex := 6, attributes := #[] }, { accessFlags := 18, nameIndex := 9, descriptorIndex := 10, attributes := #[] }, { accessFlags := 2, nameIndex := 19, descriptorIndex := 10, attributes := #[] }])
  fields := #[{ name := "name", type := (.object "java/lang/String"), accessFlags := 18, slot := 0, constantValue := 0 }, { name := "ordinal", type := .int, accessFlags := 18, slot := 1, constantValue := 0 }, { name := "hash", type := .int, accessFlags := 2, slot := 2, constantValue := 0 }]
  methods := #[]
  instanceTypes := #[(.object "java/lang/String"), .int, .int]
  staticTypes := #[]
  resolved := Array.replicate 204 none
  statics := none }

def pool9 : Array CpInfo := pool [(1, .class_ 2), (0, u "com/example/ajenda/ajenda/core/Priority"), (2, u "HIGH"), (0, u "Lcom/example/ajenda/ajenda/core/Priority;"), (2, u "NORMAL"), (2, u "LOW"), (2, u "$VALUES"), (0, u "[Lcom/example/ajenda/ajenda/core/Priority;"), (6, .class_ 25), (1, u "java/lang/Enum")] 25

/-- com/example/ajenda/ajenda/core/Priority -/
def k9 : Class := { plain "com/example/ajenda/ajenda/core/Priority" (some 8) with
  accessFlags := 16433
  interfaces := #[]
  cf := some (fileOf pool9 1 #[] #[] 16433 23 #[] #[{ accessFlags := 16409, nameIndex := 5, descriptorIndex := 6, attributes := #[] }, { accessFlags := 16409, nameIndex := 9, descriptorIndex := 6, attributes := #[] }, { accessFlags := 16409, nameIndex := 12, descriptorIndex := 6, attributes := #[] }, { accessFlags := 4122, nameIndex := 15, descriptorIndex := 16, attributes := #[] }])
  fields := #[{ name := "HIGH", type := (.object "com/example/ajenda/ajenda/core/Priority"), accessFlags := 16409, slot := 0, constantValue := 0 }, { name := "NORMAL", type := (.object "com/example/ajenda/ajenda/core/Priority"), accessFlags := 16409, slot := 1, constantValue := 0 }, { name := "LOW", type := (.object "com/example/ajenda/ajenda/core/Priority"), accessFlags := 16409, slot := 2, constantValue := 0 }, { name := "$VALUES", type := (.array (.object "com/example/ajenda/ajenda/core/Priority")), accessFlags := 4122, slot := 3, constantValue := 0 }]
  methods := #[]
  instanceTypes := #[(.object "java/lang/String"), .int, .int]
  staticTypes := #[(.object "com/example/ajenda/ajenda/core/Priority"), (.object "com/example/ajenda/ajenda/core/Priority"), (.object "com/example/ajenda/ajenda/core/Priority"), (.array (.object "com/example/ajenda/ajenda/core/Priority"))]
  resolved := Array.replicate 51 none
  statics := some 0 }

def pool10 : Array CpInfo := pool [(1, .methodref 2 3), (0, .class_ 4), (0, .nameAndType 5 6), (0, u "java/lang/Object"), (0, u "<init>"), (0, u "()V"), (0, .class_ 8), (0, u "com/example/ajenda/ajenda/core/Job"), (0, .string 10), (0, u "0"), (0, .fieldref 7 12), (0, .nameAndType 13 14), (0, u "numerator"), (0, u "Ljava/lang/String;"), (0, .fieldref 7 16), (0, .nameAndType 17 14), (0, u "denominator"), (0, .fieldref 7 19), (0, .nameAndType 20 21), (0, u "number"), (0, u "J"), (0, .fieldref 7 23), (0, .nameAndType 24 25), (0, u "restored"), (0, u "Z"), (0, .fieldref 7 27), (0, .nameAndType 28 14), (0, u "handleStart"), (0, .fieldref 7 30), (0, .nameAndType 31 32), (0, u "queue"), (0, u "Lcom/example/ajenda/ajenda/core/FunctionQueue;"), (0, .fieldref 7 34), (0, .nameAndType 35 36), (0, u "priority"), (0, u "Lcom/example/ajenda/ajenda/core/Priority;"), (0, .fieldref 7 38), (0, .nameAndType 39 40), (0, u "EMPTY"), (0, u "[B"), (0, .fieldref 7 42), (0, .nameAndType 43 40), (0, u "uniqueId"), (0, .fieldref 7 45), (0, .nameAndType 46 40), (0, u "data"), (0, .methodref 7 48), (0, .nameAndType 5 49), (0, u "(JZLjava/lang/String;Lcom/example/ajenda/ajenda/core/FunctionQueue;Lcom/example/ajenda/ajenda/core/Priority;[B[B)V"), (2, u "background"), (2, u "clients"), (0, u "Ljava/util/Map;"), (68, u "HANDOUT_ORDER"), (0, u "Ljava/util/Comparator;"), (2, u "NOT_REPORTED"), (2, u "worker"), (0, u "Lcom/example/ajenda/ajenda/core/Session;"), (0, u "expiry"), (0, u "Ljava/util/concurrent/ScheduledFuture;"), (9, u "made"), (0, u "(JLjava/lang/String;Lcom/example/ajenda/ajenda/core/FunctionQueue;Lcom/example/ajenda/ajenda/core/Priority;[B[B)Lcom/example/ajenda/ajenda/core/Job;")] 58

def k10c0 : Code := { maxStack := 3, maxLocals := 9, code := prog_3_method_1_code, exceptionTable := #[], attributes := #[] }
def k10m0 : Method := { name := "<init>", desc := "(JZLjava/lang/String;Lcom/example/ajenda/ajenda/core/FunctionQueue;Lcom/example/ajenda/ajenda/core/Priority;[B[B)V", sig := { parameters := [.long, .boolean, (.object "java/lang/String"), (.object "com/example/ajenda/ajenda/core/FunctionQueue"), (.object "com/example/ajenda/ajenda/core/Priority"), (.array .byte), (.array .byte)], returnType := none }, accessFlags := 2, code := some k10c0 }
def k10c1 : Code := { maxStack := 10, maxLocals := 7, code := prog_3_method_2_code, exceptionTable := #[], attributes := #[] }
def k10m1 : Method := { name := "made", desc := "(JLjava/lang/String;Lcom/example/ajenda/ajenda/core/FunctionQueue;Lcom/example/ajenda/ajenda/core/Priority;[B[B)Lcom/example/ajenda/ajenda/core/Job;", sig := { parameters := [.long, (.object "java/lang/String"), (.object "com/example/ajenda/ajenda/core/FunctionQueue"), (.object "com/example/ajenda/ajenda/core/Priority"), (.array .byte), (.array .byte)], returnType := some (.object "com/example/ajenda/ajenda/core/Job") }, accessFlags := 8, code := some k10c1 }
/-- com/example/ajenda/ajenda/core/Job -/
def k10 : Class := { plain "com/example/ajenda/ajenda/core/Job" (some 0) with
  accessFlags := 49
  interfaces := #[]
  cf := some (fileOf pool10 7 #[] #[{ accessFlags := 2, nameIndex := 5, descriptorIndex := 49, attributes := #[] }, { accessFlags := 8, nameIndex := 145, descriptorIndex := 146, attributes := #[] }] 49 2 #[] #[{ accessFlags := 24, nameIndex := 125, descriptorIndex := 126, attributes := #[] }, { accessFlags := 24, nameIndex := 129, descriptorIndex := 14, attributes := #[] }, { accessFlags := 26, nameIndex := 39, descriptorIndex := 40, attributes := #[] }, { accessFlags := 16, nameIndex := 20, descriptorIndex := 21, attributes := #[] }, { accessFlags := 16, nameIndex := 35, descriptorIndex := 36, attributes := #[] }, { accessFlags := 16, nameIndex := 31, descriptorIndex := 32, attributes := #[] }, { accessFlags := 16, nameIndex := 24, descriptorIndex := 25, attributes := #[] }, { accessFlags := 18, nameIndex := 28, descriptorIndex := 14, attributes := #[] }, { accessFlags := 18, nameIndex := 43, descriptorIndex := 40, attributes := #[] }, { accessFlags := 18, nameIndex := 46, descriptorIndex := 40, attributes := #[] }, { accessFlags := 2, nameIndex := 55, descriptorIndex := 56, attributes := #[] }, { accessFlags := 0, nameIndex := 52, descriptorIndex := 25, attributes := #[] }, { accessFlags := 0, nameIndex := 132, descriptorIndex := 133, attributes := #[] }, { accessFlags := 0, nameIndex := 134, descriptorIndex := 135, attributes := #[] }, { accessFlags := 0, nameIndex := 13, descriptorIndex := 14, attributes := #[] }, { accessFlags := 0, nameIndex := 17, descriptorIndex := 14, attributes := #[] }])
  fields := #[{ name := "HANDOUT_ORDER", type := (.object "java/util/Comparator"), accessFlags := 24, slot := 0, constantValue := 0 }, { name := "NOT_REPORTED", type := (.object "java/lang/String"), accessFlags := 24, slot := 1, constantValue := 0 }, { name := "EMPTY", type := (.array .byte), accessFlags := 26, slot := 2, constantValue := 0 }, { name := "number", type := .long, accessFlags := 16, slot := 0, constantValue := 0 }, { name := "priority", type := (.object "com/example/ajenda/ajenda/core/Priority"), accessFlags := 16, slot := 1, constantValue := 0 }, { name := "queue", type := (.object "com/example/ajenda/ajenda/core/FunctionQueue"), accessFlags := 16, slot := 2, constantValue := 0 }, { name := "restored", type := .boolean, accessFlags := 16, slot := 3, constantValue := 0 }, { name := "handleStart", type := (.object "java/lang/String"), accessFlags := 18, slot := 4, constantValue := 0 }, { name := "uniqueId", type := (.array .byte), accessFlags := 18, slot := 5, constantValue := 0 }, { name := "data", type := (.array .byte), accessFlags := 18, slot := 6, constantValue := 0 }, { name := "clients", type := (.object "java/util/Map"), accessFlags := 2, slot := 7, constantValue := 0 }, { name := "background", type := .boolean, accessFlags := 0, slot := 8, constantValue := 0 }, { name := "worker", type := (.object "com/example/ajenda/ajenda/core/Session"), accessFlags := 0, slot := 9, constantValue := 0 }, { name := "expiry", type := (.object "java/util/concurrent/ScheduledFuture"), accessFlags := 0, slot := 10, constantValue := 0 }, { name := "numerator", type := (.object "java/lang/String"), accessFlags := 0, slot := 11, constantValue := 0 }, { name := "denominator", type := (.object "java/lang/String"), accessFlags := 0, slot := 12, constantValue := 0 }]
  methods := #[k10m0, k10m1]
  instanceTypes := #[.long, (.object "com/example/ajenda/ajenda/core/Priority"), (.object "com/example/ajenda/ajenda/core/FunctionQueue"), .boolean, (.object "java/lang/String"), (.array .byte), (.array .byte), (.object "java/util/Map"), .boolean, (.object "com/example/ajenda/ajenda/core/Session"), (.object "java/util/concurrent/ScheduledFuture"), (.object "java/lang/String"), (.object "java/lang/String")]
  staticTypes := #[(.object "java/util/Comparator"), (.object "java/lang/String"), (.array .byte)]
  resolved := Array.replicate 205 none
  statics := some 1 }

def pool11 : Array CpInfo := pool [(1, .methodref 2 3), (0, .class_ 4), (0, .nameAndType 5 6), (0, u "java/lang/Object"), (0, u "<init>"), (0, u "()V"), (0, .class_ 8), (0, u "com/example/ajenda/ajenda/core/JobsByNumber"), (0, .class_ 10), (0, u "com/example/ajenda/ajenda/core/Job"), (0, .fieldref 7 12), (0, .nameAndType 13 14), (0, u "slots"), (0, u "[Lcom/example/ajenda/ajenda/core/Job;"), (0, .fieldref 7 16), (0, .nameAndType 17 18), (0, u "size"), (0, u "I"), (0, .integer 1073741824), (13, .methodref 7 34), (0, .nameAndType 35 36), (0, u "place"), (0, u "([Lcom/example/ajenda/ajenda/core/Job;Lcom/example/ajenda/ajenda/core/Job;)V"), (0, .methodref 7 38), (0, .nameAndType 39 40), (0, u "home"), (0, u "(JI)I"), (0, .fieldref 9 42), (0, .nameAndType 43 44), (0, u "number"), (0, u "J"), (4, u "add"), (1, .long 11400714819323198485), (3, .methodref 56 57), (0, .class_ 58), (0, .nameAndType 59 60), (0, u "java/lang/Integer"), (0, u "numberOfTrailingZeros"), (0, u "(I)I"), (0, u "FEWEST_SLOTS"), (2, u "MOST_SLOTS"), (0, u "SPREAD"), (2, u "(Lcom/example/ajenda/ajenda/core/Job;)V"), (1, u "get"), (0, u "(J)Lcom/example/ajenda/ajenda/core/Job;")] 24

def k11c0 : Code := { maxStack := 2, maxLocals := 1, code := prog_11_method_1_code, exceptionTable := #[], attributes := #[] }
def k11m0 : Method := { name := "<init>", desc := "()V", sig := { parameters := [], returnType := none }, accessFlags := 0, code := some k11c0 }
def k11c1 : Code := { maxStack := 3, maxLocals := 2, code := prog_11_method_2_code, exceptionTable := #[], attributes := #[] }
def k11m1 : Method := { name := "add", desc := "(Lcom/example/ajenda/ajenda/core/Job;)V", sig := { parameters := [(.object "com/example/ajenda/ajenda/core/Job")], returnType := none }, accessFlags := 0, code := some k11c1 }
def k11c2 : Code := { maxStack := 4, maxLocals := 5, code := prog_11_method_3_code, exceptionTable := #[], attributes := #[] }
def k11m2 : Method := { name := "get", desc := "(J)Lcom/example/ajenda/ajenda/core/Job;", sig := { parameters := [.long], returnType := some (.object "com/example/ajenda/ajenda/core/Job") }, accessFlags := 0, code := some k11c2 }
def k11c3 : Code := { maxStack := 3, maxLocals := 3, code := prog_11_method_8_code, exceptionTable := #[], attributes := #[] }
def k11m3 : Method := { name := "place", desc := "([Lcom/example/ajenda/ajenda/core/Job;Lcom/example/ajenda/ajenda/core/Job;)V", sig := { parameters := [(.array (.object "com/example/ajenda/ajenda/core/Job")), (.object "com/example/ajenda/ajenda/core/Job")], returnType := none }, accessFlags := 10, code := some k11c3 }
def k11c4 : Code := { maxStack := 4, maxLocals := 3, code := prog_11_method_9_code, exceptionTable := #[], attributes := #[] }
def k11m4 : Method := { name := "home", desc := "(JI)I", sig := { parameters := [.long, .int], returnType := some .int }, accessFlags := 10, code := some k11c4 }
/-- com/example/ajenda/ajenda/core/JobsByNumber -/
def k11 : Class := { plain "com/example/ajenda/ajenda/core/JobsByNumber" (some 0) with
  accessFlags := 48
  interfaces := #[]
  cf := some (fileOf pool11 7 #[] #[{ accessFlags := 0, nameIndex := 5, descriptorIndex := 6, attributes := #[] }, { accessFlags := 0, nameIndex := 49, descriptorIndex := 68, attributes := #[] }, { accessFlags := 0, nameIndex := 70, descriptorIndex := 71, attributes := #[] }, { accessFlags := 10, nameIndex := 35, descriptorIndex := 36, attributes := #[] }, { accessFlags := 10, nameIndex := 39, descriptorIndex := 40, attributes := #[] }] 48 2 #[] #[{ accessFlags := 26, nameIndex := 61, descriptorIndex := 18, attributes := #[] }, { accessFlags := 26, nameIndex := 64, descriptorIndex := 18, attributes := #[] }, { accessFlags := 26, nameIndex := 65, descriptorIndex := 44, attributes := #[] }, { accessFlags := 2, nameIndex := 13, descriptorIndex := 14, attributes := #[] }, { accessFlags := 2, nameIndex := 17, descriptorIndex := 18, attributes := #[] }])
  fields := #[{ name := "FEWEST_SLOTS", type := .int, accessFlags := 26, slot := 0, constantValue := 0 }, { name := "MOST_SLOTS", type := .int, accessFlags := 26, slot := 1, constantValue := 0 }, { name := "SPREAD", type := .long, accessFlags := 26, slot := 2, constantValue := 0 }, { name := "slots", type := (.array (.object "com/example/ajenda/ajenda/core/Job")), accessFlags := 2, slot := 0, constantValue := 0 }, { name := "size", type := .int, accessFlags := 2, slot := 1, constantValue := 0 }]
  methods := #[k11m0, k11m1, k11m2, k11m3, k11m4]
  instanceTypes := #[(.array (.object "com/example/ajenda/ajenda/core/Job")), .int]
  staticTypes := #[.int, .int, .long]
  resolved := Array.replicate 96 none
  statics := none }

def pool12 : Array CpInfo := pool [(2, .class_ 4), (1, u "java/lang/Object"), (0, u "<init>"), (0, u "()V"), (1, .class_ 10), (1, u "java/lang/Number"), (2, .class_ 14), (0, u "java/io/Serializable"), (0, u "serialVersionUID"), (0, u "J")] 20

def k12m0 : Method := { name := "<init>", desc := "()V", sig := { parameters := [], returnType := none }, accessFlags := 1, code := none }
/-- java/lang/Number -/
def k12 : Class := { plain "java/lang/Number" (some 0) with
  accessFlags := 1057
  interfaces := #[2]
  cf := some (fileOf pool12 8 #[] #[{ accessFlags := 1, nameIndex := 5, descriptorIndex := 6, attributes := #[] }] 1057 2 #[13] #[{ accessFlags := 26, nameIndex := 15, descriptorIndex := 16, attributes := #[] }])
  fields := #[{ name := "serialVersionUID", type := .long, accessFlags := 26, slot := 0, constantValue := 0 }]
  methods := #[k12m0]
  instanceTypes := #[]
  staticTypes := #[.long]
  resolved := Array.replicate 37 none
  statics := none }

def pool13 : Array CpInfo := pool [(1, .class_ 2), (0, u "java/lang/Integer"), (16, u "digits"), (0, u "[C"), (33, u "(I)I"), (30, u "DigitOnes"), (0, u "[B"), (2, u "DigitTens"), (99, .class_ 190), (0, u "java/lang/Integer$IntegerCache"), (3, u "I"), (8, .class_ 204), (0, u "java/lang/Number"), (2, u "value"), (56, .integer 65536), (37, u "TYPE"), (0, u "Ljava/lang/Class;"), (0, .class_ 305), (0, u "java/lang/Comparable"), (0, .class_ 307), (0, u "java/lang/constant/Constable"), (0, .class_ 309), (0, u "java/lang/constant/ConstantDesc"), (0, u "MIN_VALUE"), (1, u "MAX_VALUE"), (3, u "SIZE"), (1, u "BYTES"), (1, u "serialVersionUID"), (0, u "J"), (84, u "numberOfTrailingZeros")] 46

def k13c0 : Code := { maxStack := 3, maxLocals := 2, code := jdk_33_method_48_code, exceptionTable := #[], attributes := #[] }
def k13m0 : Method := { name := "numberOfTrailingZeros", desc := "(I)I", sig := { parameters := [.int], returnType := some .int }, accessFlags := 9, code := some k13c0 }
/-- java/lang/Integer -/
def k13 : Class := { plain "java/lang/Integer" (some 12) with
  accessFlags := 49
  interfaces := #[3, 5, 6]
  cf := some (fileOf pool13 1 #[.nestMembers #[189]] #[{ accessFlags := 9, nameIndex := 406, descriptorIndex := 54, attributes := #[] }] 49 203 #[304, 306, 308] #[{ accessFlags := 25, nameIndex := 310, descriptorIndex := 194, attributes := #[] }, { accessFlags := 25, nameIndex := 312, descriptorIndex := 194, attributes := #[] }, { accessFlags := 25, nameIndex := 302, descriptorIndex := 303, attributes := #[] }, { accessFlags := 24, nameIndex := 19, descriptorIndex := 20, attributes := #[] }, { accessFlags := 24, nameIndex := 89, descriptorIndex := 86, attributes := #[] }, { accessFlags := 24, nameIndex := 85, descriptorIndex := 86, attributes := #[] }, { accessFlags := 18, nameIndex := 207, descriptorIndex := 194, attributes := #[] }, { accessFlags := 25, nameIndex := 316, descriptorIndex := 194, attributes := #[] }, { accessFlags := 25, nameIndex := 318, descriptorIndex := 194, attributes := #[] }, { accessFlags := 26, nameIndex := 320, descriptorIndex := 321, attributes := #[] }])
  fields := #[{ name := "MIN_VALUE", type := .int, accessFlags := 25, slot := 0, constantValue := 0 }, { name := "MAX_VALUE", type := .int, accessFlags := 25, slot := 1, constantValue := 0 }, { name := "TYPE", type := (.object "java/lang/Class"), accessFlags := 25, slot := 2, constantValue := 0 }, { name := "digits", type := (.array .char), accessFlags := 24, slot := 3, constantValue := 0 }, { name := "DigitTens", type := (.array .byte), accessFlags := 24, slot := 4, constantValue := 0 }, { name := "DigitOnes", type := (.array .byte), accessFlags := 24, slot := 5, constantValue := 0 }, { name := "value", type := .int, accessFlags := 18, slot := 0, constantValue := 0 }, { name := "SIZE", type := .int, accessFlags := 25, slot := 6, constantValue := 0 }, { name := "BYTES", type := .int, accessFlags := 25, slot := 7, constantValue := 0 }, { name := "serialVersionUID", type := .long, accessFlags := 26, slot := 8, constantValue := 0 }]
  methods := #[k13m0]
  instanceTypes := #[.int]
  staticTypes := #[.int, .int, (.object "java/lang/Class"), (.array .char), (.array .byte), (.array .byte), .int, .int, .long]
  resolved := Array.replicate 453 none
  statics := none }

def pool14 : Array CpInfo := pool [(1, u "java/lang/Cloneable"), (0, .class_ 1), (0, u "java/lang/Object"), (0, .class_ 3)] 3

/-- java/lang/Cloneable -/
def k14 : Class := { plain "java/lang/Cloneable" (some 0) with
  accessFlags := 1537
  interfaces := #[]
  cf := some (fileOf pool14 2 #[] #[] 1537 4 #[] #[])
  fields := #[]
  methods := #[]
  instanceTypes := #[]
  staticTypes := #[]
  resolved := Array.replicate 8 none
  statics := none }

/-- the primitive byte -/
def k15 : Class := { plain "byte" none with kind := .primitive 'B', accessFlags := 0x411 }
/-- [B -/
def k16 : Class := { plain "[B" (some 0) with kind := .array 15 .byte, interfaces := #[14, 2], accessFlags := 1041 }

/-- the primitive int -/
def k17 : Class := { plain "int" none with kind := .primitive 'I', accessFlags := 0x411 }
/-- [I -/
def k18 : Class := { plain "[I" (some 0) with kind := .array 17 .int, interfaces := #[14, 2], accessFlags := 1041 }

/-- [Lcom/example/ajenda/ajenda/core/Job; -/
def k19 : Class := { plain "[Lcom/example/ajenda/ajenda/core/Job;" (some 0) with kind := .array 10 (.object "com/example/ajenda/ajenda/core/Job"), interfaces := #[14, 2], accessFlags := 1041 }

def heap : Heap := #[{ cls := 9, slots := #[.ref 3, .ref 4, .ref 5, .null], vm := .statics 9 },
  { cls := 10, slots := #[.null, .null, .ref 2], vm := .statics 10 },
  { cls := 16, slots := #[], vm := .none },
  { cls := 9, slots := #[.null, .int 0, .int 0], vm := .none },
  { cls := 9, slots := #[.null, .int 0, .int 0], vm := .none },
  { cls := 9, slots := #[.null, .int 0, .int 0], vm := .none }]
def classes : Array Class := #[k0, k1, k2, k3, k4, k5, k6, k7, k8, k9, k10, k11, k12, k13, k14, k15, k16, k17, k18, k19]
def interned : List (Array UInt16 × Addr) := []
def slotsUsed : Nat := 16
def theMethod : MethodId := ⟨1, 1⟩
def args0 : Array Value := #[.long 5, .long 6, .long 7, .long 5, .int 3]
def aboutOver (below : List Frame) : State where
  vm := { classes := classes, interned := interned.toArray }
  heap := heap
  slotsUsed := slotsUsed
  threads := #[{ frames := .invoking theMethod args0 :: below }]
def below0 : List Frame := [.native { method := ⟨0, 0⟩, args := #[] }]
def about1 : State := aboutOver below0
def p0 : Program := .bare "" "" ""
def e0 : Env := launch0.env 0 0 0
theorem w_frames : about1.frames = Frame.invoking theMethod args0 :: below0 := rfl
set_option maxRecDepth 65536 in
theorem w_args : argsFit about1.vm theMethod args0 = true := by decide +kernel
set_option maxRecDepth 65536 in
theorem w_heap : heapFits about1 = true := by decide +kernel
set_option maxRecDepth 65536 in
theorem w_runnable : about1.curStatus? = some .runnable := by decide +kernel
set_option maxRecDepth 65536 in
theorem w_alone : about1.alone = true := by decide +kernel
set_option maxRecDepth 65536 in
theorem w_named : about1.methodNamed? x = some theMethod := by decide +kernel
set_option maxRecDepth 65536 in
theorem w_hears : about1.hears theMethod below0 = true := by decide +kernel
set_option maxRecDepth 65536 in
theorem w_ripe : about1.ripe theMethod args0 below0 = true := by decide +kernel
theorem w_running : about1.status = .running := rfl
set_option maxRecDepth 65536 in
theorem w_room : about1.hasRoom e0.platform room_1 = true :=
  launch0.hasRoom_least _ room_1 (by decide +kernel) (by decide +kernel) (by decide +kernel) (by decide +kernel) (by decide +kernel) (by decide +kernel)
theorem allAtoms_all (ts : List Jvm.Cond) (a : Array Jvm.Value) (st : Jvm.State) : (allAtoms ts).before a st = ts.all (fun c => c.before a st) := by
  induction ts with
  | nil => rfl
  | cons c t ih =>
    show (Jvm.Cond.and c (allAtoms t)).before a st = _
    rw [Jvm.Cond.before_and, ih, List.all_cons]
def words1 : List Jvm.Cond := Jvm.Cond.code x code maxLocals ret :: tables_1
/-- a 'code' word, met by the world's own term for the bytes: nothing is compared byte by byte -/
theorem code_word {y : MethodName} {bytes : ByteArray} {mx : Nat} {rt : Option FieldType} {a : Array Value} {s : State} {m : MethodId} {meth : Method} {c : Code} (h1 : s.methodNamed? y = some m) (h2 : s.vm.method? m = some meth) (h3 : meth.code = some c) (h4 : c.code = bytes)
    (h5 : (c.maxLocals == mx && c.exceptionTable.isEmpty && decide (c.maxStack ≤ mostOperands) && decide (meth.sig.returnType = rt) && !meth.locks && decide (parseMethodDescriptor y.desc = some meth.sig)) = true) : (Jvm.Cond.code y bytes mx rt).before a s = true := by
  simp only [Bool.and_eq_true, beq_iff_eq, Bool.not_eq_true', decide_eq_true_eq] at h5
  obtain ⟨⟨⟨⟨⟨g1, g2⟩, g3⟩, g4⟩, g5⟩, g6⟩ := h5
  simp [Cond.before, Cond.holds, Cond.value, h1, h2, h3, h4, g1, g2, g3, g4, g5, g6]
def isCode : Jvm.Cond → Bool
  | .code _ _ _ _ => true
  | _ => false
theorem all_split {L : List Jvm.Cond} {P : Jvm.Cond → Bool} (h1 : L.all (fun c => isCode c || P c) = true) (h2 : ∀ c ∈ L.filter isCode, P c = true) : L.all P = true := by
  refine List.all_eq_true.mpr fun c hc => ?_
  have h := List.all_eq_true.mp h1 c hc
  rcases Bool.eq_false_or_eq_true (isCode c) with hi | hi
  · exact h2 c (List.mem_filter.mpr ⟨hc, hi⟩)
  · simpa [hi] using h
set_option maxRecDepth 65536 in
theorem w_c0 : (Jvm.Cond.code x code maxLocals ret).before args0 about1 = true := code_word (m := ⟨1, 1⟩) (meth := k1m1) (c := k1c1) (by decide +kernel) rfl rfl rfl (by decide +kernel)
set_option maxRecDepth 65536 in
theorem w_c1 : (Jvm.Cond.code ({ cls := "com/example/ajenda/ajenda/core/Job", name := "made", desc := "(JLjava/lang/String;Lcom/example/ajenda/ajenda/core/FunctionQueue;Lcom/example/ajenda/ajenda/core/Priority;[B[B)Lcom/example/ajenda/ajenda/core/Job;" } : Jvm.MethodName) prog_3_method_2_code (7 : Nat) (Option.some (Jvm.ClassFile.FieldType.object "com/example/ajenda/ajenda/core/Job"))).before args0 about1 = true := code_word (m := ⟨10, 1⟩) (meth := k10m1) (c := k10c1) (by decide +kernel) rfl rfl rfl (by decide +kernel)
set_option maxRecDepth 65536 in
theorem w_c2 : (Jvm.Cond.code ({ cls := "com/example/ajenda/ajenda/core/Job", name := "<init>", desc := "(JZLjava/lang/String;Lcom/example/ajenda/ajenda/core/FunctionQueue;Lcom/example/ajenda/ajenda/core/Priority;[B[B)V" } : Jvm.MethodName) prog_3_method_1_code (9 : Nat) (Option.none : Option Jvm.ClassFile.FieldType)).before args0 about1 = true := code_word (m := ⟨10, 0⟩) (meth := k10m0) (c := k10c0) (by decide +kernel) rfl rfl rfl (by decide +kernel)
set_option maxRecDepth 65536 in
theorem w_c3 : (Jvm.Cond.code ({ cls := "java/lang/Object", name := "<init>", desc := "()V" } : Jvm.MethodName) object_method_1_code (1 : Nat) (Option.none : Option Jvm.ClassFile.FieldType)).before args0 about1 = true := code_word (m := ⟨0, 0⟩) (meth := k0m0) (c := k0c0) (by decide +kernel) rfl rfl rfl (by decide +kernel)
set_option maxRecDepth 65536 in
theorem w_c4 : (Jvm.Cond.code ({ cls := "com/example/ajenda/ajenda/core/JobsByNumber", name := "<init>", desc := "()V" } : Jvm.MethodName) prog_11_method_1_code (1 : Nat) (Option.none : Option Jvm.ClassFile.FieldType)).before args0 about1 = true := code_word (m := ⟨11, 0⟩) (meth := k11m0) (c := k11c0) (by decide +kernel) rfl rfl rfl (by decide +kernel)
set_option maxRecDepth 65536 in
theorem w_c5 : (Jvm.Cond.code ({ cls := "com/example/ajenda/ajenda/core/JobsByNumber", name := "add", desc := "(Lcom/example/ajenda/ajenda/core/Job;)V" } : Jvm.MethodName) prog_11_method_2_code (2 : Nat) (Option.none : Option Jvm.ClassFile.FieldType)).before args0 about1 = true := code_word (m := ⟨11, 1⟩) (meth := k11m1) (c := k11c1) (by decide +kernel) rfl rfl rfl (by decide +kernel)
set_option maxRecDepth 65536 in
theorem w_c6 : (Jvm.Cond.code ({ cls := "com/example/ajenda/ajenda/core/JobsByNumber", name := "place", desc := "([Lcom/example/ajenda/ajenda/core/Job;Lcom/example/ajenda/ajenda/core/Job;)V" } : Jvm.MethodName) prog_11_method_8_code (3 : Nat) (Option.none : Option Jvm.ClassFile.FieldType)).before args0 about1 = true := code_word (m := ⟨11, 3⟩) (meth := k11m3) (c := k11c3) (by decide +kernel) rfl rfl rfl (by decide +kernel)
set_option maxRecDepth 65536 in
theorem w_c7 : (Jvm.Cond.code ({ cls := "com/example/ajenda/ajenda/core/JobsByNumber", name := "home", desc := "(JI)I" } : Jvm.MethodName) prog_11_method_9_code (3 : Nat) (Option.some Jvm.ClassFile.FieldType.int)).before args0 about1 = true := code_word (m := ⟨11, 4⟩) (meth := k11m4) (c := k11c4) (by decide +kernel) rfl rfl rfl (by decide +kernel)
set_option maxRecDepth 65536 in
theorem w_c8 : (Jvm.Cond.code ({ cls := "java/lang/Integer", name := "numberOfTrailingZeros", desc := "(I)I" } : Jvm.MethodName) jdk_33_method_48_code (2 : Nat) (Option.some Jvm.ClassFile.FieldType.int)).before args0 about1 = true := code_word (m := ⟨13, 0⟩) (meth := k13m0) (c := k13c0) (by decide +kernel) rfl rfl rfl (by decide +kernel)
set_option maxRecDepth 65536 in
theorem w_c9 : (Jvm.Cond.code ({ cls := "com/example/ajenda/ajenda/core/JobsByNumber", name := "get", desc := "(J)Lcom/example/ajenda/ajenda/core/Job;" } : Jvm.MethodName) prog_11_method_3_code (5 : Nat) (Option.some (Jvm.ClassFile.FieldType.object "com/example/ajenda/ajenda/core/Job"))).before args0 about1 = true := code_word (m := ⟨11, 2⟩) (meth := k11m2) (c := k11c2) (by decide +kernel) rfl rfl rfl (by decide +kernel)
def codes1 : List Jvm.Cond := [Jvm.Cond.code x code maxLocals ret, Jvm.Cond.code ({ cls := "com/example/ajenda/ajenda/core/Job", name := "made", desc := "(JLjava/lang/String;Lcom/example/ajenda/ajenda/core/FunctionQueue;Lcom/example/ajenda/ajenda/core/Priority;[B[B)Lcom/example/ajenda/ajenda/core/Job;" } : Jvm.MethodName) prog_3_method_2_code (7 : Nat) (Option.some (Jvm.ClassFile.FieldType.object "com/example/ajenda/ajenda/core/Job")), Jvm.Cond.code ({ cls := "com/example/ajenda/ajenda/core/Job", name := "<init>", desc := "(JZLjava/lang/String;Lcom/example/ajenda/ajenda/core/FunctionQueue;Lcom/example/ajenda/ajenda/core/Priority;[B[B)V" } : Jvm.MethodName) prog_3_method_1_code (9 : Nat) (Option.none : Option Jvm.ClassFile.FieldType), Jvm.Cond.code ({ cls := "java/lang/Object", name := "<init>", desc := "()V" } : Jvm.MethodName) object_method_1_code (1 : Nat) (Option.none : Option Jvm.ClassFile.FieldType), Jvm.Cond.code ({ cls := "com/example/ajenda/ajenda/core/JobsByNumber", name := "<init>", desc := "()V" } : Jvm.MethodName) prog_11_method_1_code (1 : Nat) (Option.none : Option Jvm.ClassFile.FieldType), Jvm.Cond.code ({ cls := "com/example/ajenda/ajenda/core/JobsByNumber", name := "add", desc := "(Lcom/example/ajenda/ajenda/core/Job;)V" } : Jvm.MethodName) prog_11_method_2_code (2 : Nat) (Option.none : Option Jvm.ClassFile.FieldType), Jvm.Cond.code ({ cls := "com/example/ajenda/ajenda/core/JobsByNumber", name := "place", desc := "([Lcom/example/ajenda/ajenda/core/Job;Lcom/example/ajenda/ajenda/core/Job;)V" } : Jvm.MethodName) prog_11_method_8_code (3 : Nat) (Option.none : Option Jvm.ClassFile.FieldType), Jvm.Cond.code ({ cls := "com/example/ajenda/ajenda/core/JobsByNumber", name := "home", desc := "(JI)I" } : Jvm.MethodName) prog_11_method_9_code (3 : Nat) (Option.some Jvm.ClassFile.FieldType.int), Jvm.Cond.code ({ cls := "java/lang/Integer", name := "numberOfTrailingZeros", desc := "(I)I" } : Jvm.MethodName) jdk_33_method_48_code (2 : Nat) (Option.some Jvm.ClassFile.FieldType.int), Jvm.Cond.code ({ cls := "com/example/ajenda/ajenda/core/JobsByNumber", name := "get", desc := "(J)Lcom/example/ajenda/ajenda/core/Job;" } : Jvm.MethodName) prog_11_method_3_code (5 : Nat) (Option.some (Jvm.ClassFile.FieldType.object "com/example/ajenda/ajenda/core/Job"))]
set_option maxRecDepth 65536 in
theorem codes_eq : words1.filter isCode = codes1 := rfl
theorem w_codes : ∀ c ∈ words1.filter isCode, c.before args0 about1 = true := by
  rw [codes_eq]
  intro c hc
  simp only [codes1, List.mem_cons, List.not_mem_nil, or_false] at hc
  rcases hc with rfl | rfl | rfl | rfl | rfl | rfl | rfl | rfl | rfl | rfl
  · exact w_c0
  · exact w_c1
  · exact w_c2
  · exact w_c3
  · exact w_c4
  · exact w_c5
  · exact w_c6
  · exact w_c7
  · exact w_c8
  · exact w_c9
set_option maxRecDepth 65536 in
theorem w_t1 : (words1.take 24).all (fun c => isCode c || c.before args0 about1) = true := by decide +kernel
set_option maxRecDepth 65536 in
theorem w_t2 : ((words1.drop 24).take 24).all (fun c => isCode c || c.before args0 about1) = true := by decide +kernel
set_option maxRecDepth 65536 in
theorem w_t3 : (((words1.drop 24).drop 24).take 24).all (fun c => isCode c || c.before args0 about1) = true := by decide +kernel
set_option maxRecDepth 65536 in
theorem w_t4 : (((words1.drop 24).drop 24).drop 24).all (fun c => isCode c || c.before args0 about1) = true := by decide +kernel
theorem w_tables : (allAtoms (Jvm.Cond.code x code maxLocals ret :: tables_1)).before args0 about1 = true := by
  rw [allAtoms_all]
  show words1.all (fun c => c.before args0 about1) = true
  refine all_split ?_ w_codes
  rw [← List.take_append_drop 24 words1, List.all_append, w_t1, ← List.take_append_drop 24 (words1.drop 24), List.all_append, w_t2, ← List.take_append_drop 24 ((words1.drop 24).drop 24), List.all_append, w_t3, w_t4]
  rfl
set_option maxRecDepth 65536 in
theorem w_case : (Jvm.Cond.and given_1 narrow_1).before args0 about1 = true := by decide +kernel
theorem w_applies : (headSpec (Jvm.Cond.code x code maxLocals ret :: tables_1) room_1).applies x e0.platform about1 = true :=
  (Spec.applies_iff w_frames).mpr ⟨w_running, w_runnable, w_alone, w_named, w_hears, w_ripe, w_room, w_tables⟩
theorem atStart : AtStart classFile x code maxLocals ret World_1 tables_1 room_1 Calls_1 rest_1 Pre_1 launch0 p0 e0 about1 theMethod args0 below0 :=
  ⟨lists_1, trivial, launch0.admits_env _ _ _, launch0.least_env, fairChoices_fair.cas, fairChoices_fair.clock, w_frames, w_args, w_heap, w_applies, trivial, trivial, w_case⟩
end start1
theorem witness_1 : WitnessClaimed_1 := ⟨start1.p0, start1.e0, start1.about1, start1.theMethod, start1.args0, start1.below0, start1.atStart⟩
end Jvm.Pilot.@@N@@
