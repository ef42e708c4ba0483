import JvmDerived
import JvmDerived.Pilot.@@N@@Statement
import JvmDerived.Pilot.@@N@@Code
set_option linter.unusedVariables false
set_option linter.unusedSimpArgs false
namespace Jvm.Pilot.@@N@@
open Jvm Jvm.ClassFile Sem Op Lib Jvm.Free Jvm.Stand Jvm.LawKit Jvm.RoadKit Bundle Jvm.Pilot.@@N@@.Jvm.D
/-- from S the run goes on to an end that answers Q -/
def own_Go (p : Program) (e : Env) (below : List Frame) (s : State) (Q : Option Value → Heap → List Loc → Prop) (rm : Room) (S : State) : Prop :=
  ∃ t o, Steps p.tables e below S t ∧ t.status = .running ∧ Ended t below o ∧ ∃ v L, o = .returned v ∧ Q v t.heap L ∧ FrameEnd s o t L rm.cells rm.slots
section OwnKit
variable {p : Program} {l : Launch} {e : Env} {R rm : Room} {s S S' : State} {m : MethodId} {args : Array Value} {below : List Frame} {meth : Method} {c : Code} {T : State} {locs : List Loc} {cells slots : Nat} {Q : Option Value → Heap → List Loc → Prop}
theorem own_by (st : ∀ t, Steps p.tables e below S' t → Steps p.tables e below S t) (k : own_Go p e below s Q rm S') : own_Go p e below s Q rm S := by
  obtain ⟨t, o, h, r⟩ := k
  exact ⟨t, o, st _ h, r⟩
theorem own_via (st : Steps p.tables e below S S') (k : own_Go p e below s Q rm S') : own_Go p e below s Q rm S := own_by (fun _ h => st.trans h) k
theorem own_out {v : Option Value} {pc : Nat} {Ls : Array Slot} {st : List Value} (X : Stand p l e rm s m args below meth c T locs cells slots) (hlk : meth.locks = false) (hv : meth.sig.returnType = none → v = none) (hc : cells ≤ rm.cells) (hs : slots ≤ rm.slots)
    (step : ∀ fs, (∀ (f : JFrame) (acts : List Action), f.method = m → f.locked = none → f.entered = [] → (doReturn e (T.setTop f) acts v).1 = T.setFrames fs) → Steps p.tables e below (T.setTop (mkF m pc Ls st)) (T.setFrames fs)) (hQ : Q v T.heap locs) : own_Go p e below s Q rm (T.setTop (mkF m pc Ls st)) := by
  obtain ⟨fs, hr, hrun, hended, hW, hsame⟩ := X.leave (v := v) hv hlk
  exact ⟨_, _, step fs hr, hrun, hended, v, locs, rfl, hQ, ⟨_, rfl⟩, hW, hsame.mono hc hs⟩
theorem own_retV (X : Stand p l e rm s m args below meth c T locs cells slots) (hx : p.tables.exec = Jvm.exec) (hlk : meth.locks = false) {pc : Nat} {Ls : Array Slot} (hret : meth.sig.returnType = none) (hd : decode c.code pc = .ok (.return_, 1)) (hQ : Q none T.heap locs) (hc : cells ≤ rm.cells) (hs : slots ≤ rm.slots) :
    own_Go p e below s Q rm (T.setTop (mkF m pc Ls [])) := own_out X hlk (fun _ => rfl) hc hs (fun fs hr => X.returnOut hx hret hd hr) hQ
theorem own_retI (X : Stand p l e rm s m args below meth c T locs cells slots) (hx : p.tables.exec = Jvm.exec) (hlk : meth.locks = false) {pc : Nat} {Ls : Array Slot} {z : Int32} {t : FieldType} {rest : List Value} (hret : meth.sig.returnType = some t) (ht : t = .int ∨ t = .boolean ∨ t = .byte ∨ t = .char ∨ t = .short) (hn : narrow t (.int z) = .int z) (hd : decode c.code pc = .ok (.ireturn, 1)) (hQ : Q (some (.int z)) T.heap locs) (hc : cells ≤ rm.cells) (hs : slots ≤ rm.slots) :
    own_Go p e below s Q rm (T.setTop (mkF m pc Ls (.int z :: rest))) := own_out X hlk (fun h => by rw [hret] at h; cases h) hc hs (fun fs hr => retOut X hx hret hn (Or.inl ⟨rfl, ht, z, rfl⟩) hd hr) hQ
theorem own_retL (X : Stand p l e rm s m args below meth c T locs cells slots) (hx : p.tables.exec = Jvm.exec) (hlk : meth.locks = false) {pc : Nat} {Ls : Array Slot} {z : Int64} {rest : List Value} (hret : meth.sig.returnType = some .long) (hd : decode c.code pc = .ok (.lreturn, 1)) (hQ : Q (some (.long z)) T.heap locs) (hc : cells ≤ rm.cells) (hs : slots ≤ rm.slots) :
    own_Go p e below s Q rm (T.setTop (mkF m pc Ls (.long z :: rest))) := own_out X hlk (fun h => by rw [hret] at h; cases h) hc hs (fun fs hr => retOut X hx hret rfl (Or.inr (Or.inl ⟨rfl, rfl, z, rfl⟩)) hd hr) hQ
theorem own_retA (X : Stand p l e rm s m args below meth c T locs cells slots) (hx : p.tables.exec = Jvm.exec) (hlk : meth.locks = false) {pc : Nat} {Ls : Array Slot} {w : Value} {t : FieldType} {rest : List Value} (hret : meth.sig.returnType = some t) (ht : t.isReference = true) (hw : w.isRef = true) (hd : decode c.code pc = .ok (.areturn, 1)) (hQ : Q (some w) T.heap locs) (hc : cells ≤ rm.cells) (hs : slots ≤ rm.slots) :
    own_Go p e below s Q rm (T.setTop (mkF m pc Ls (w :: rest))) := by
  have hn : narrow t w = w := by cases w <;> first | (simp [Value.isRef] at hw; done) | (cases t <;> first | (simp [FieldType.isReference] at ht; done) | rfl)
  exact own_out X hlk (fun h => by rw [hret] at h; cases h) hc hs (fun fs hr => retOut X hx hret hn (Or.inr (Or.inr (Or.inr (Or.inr ⟨rfl, ht, hw⟩)))) hd hr) hQ
theorem own_enter {Z : State} {h0 : Heap} {y : MethodName} {bytes : ByteArray} {maxL : Nat} {ret : Option FieldType} {ws : List Jvm.Cond} {as : Array Value} (hp : plainFor y = true)
    (body : ∀ p e s m below meth c s₁, Stand p l e rm s m as below meth c s₁ [] 0 0 → p.tables.exec = Jvm.exec → Z.Warmed39 s.vm → c.code = bytes → c.maxLocals = maxL → s.vm.findClass y.cls = some m.cls → meth.name = y.name → meth.sig.returnType = ret → meth.locks = false → s₁.heap = h0 →
      own_Go p e below s Q rm (s₁.setTop (entryFrame m as maxL))) :
    MetFree l y (head1 (Jvm.Cond.code y bytes maxL ret :: ws) rm) (fun a U => a = as ∧ Z.Warmed39 U.vm ∧ U.heap = h0) (fun _ _ _ _ _ => True) (fun _ U o U' => ∃ v L, o = .returned v ∧ Q v U'.heap L ∧ FrameEnd U o U' L rm.cells rm.slots) := by
  refine MetFree.of_bodySF hp hisR ?_
  intro p e s m args below meth c s₁ Bd hml0 hP hK
  obtain ⟨rfl, hZ, hh⟩ := hP
  have X0 : Stand p l e rm s m args below meth c s₁ [] 0 0 := Stand.of_body Bd
  exact body p e s m below meth c s₁ X0 Bd.exec hZ Bd.bytes hml0 (findClass_of_methodNamed Bd.named) (name_of_methodNamed Bd.named Bd.method).1 Bd.returns (BodyLoose.notSynchronized Bd) (by rw [← hh, Bd.state]; rfl)
end OwnKit
theorem own_len31 {Z : State} {args : Array Value} {t : Term} {v : Value} {a : Addr} {cl : Cell} (h : (Term.length t).eval args Z none [] Z = some v) (ht : t.eval args Z none [] Z = some (.ref a)) (hc : Z.heap[a]? = some cl) : cl.slots.size < 2 ^ 31 := by
  simp only [Term.eval, ht, Option.bind_eq_bind, Option.bind_some] at h
  cases ha : Z.arrayAt? a with
  | none => simp [ha] at h
  | some c2 =>
    cases (State.arrayAt?_spec ha).1.symm.trans hc
    by_cases q : cl.slots.size < 2 ^ 31
    · exact q
    · simp [ha, q] at h
theorem own_eqr {Z : State} {args : Array Value} {X F : Term} {y : Value} (hy : y.isRef = true) (hF : F.eval args Z none [] Z = some y) (h : (Jvm.Cond.eq X F).value args Z none Z [] = some true) : X.eval args Z none [] Z = some y := by
  obtain ⟨x, y', e1, e2, k1, k2⟩ := cmp_v (Or.inl h)
  cases hF.symm.trans e2
  have hx : x.isRef = true := by
    rcases ref_cases hy with rfl | ⟨a, rfl⟩
    · exact k2.2
    · exact k2.2
  exact e1.trans (congrArg some (gotT (eq_R e1 hF hx hy) h))
theorem pl_0 : plainFor x = true := plainFor_of_name (by first | (simp [plainName, overriddenIn]; done) | decide +kernel)
theorem d1_0 : decode method_2_code 0 = .ok (.iload_n 0, 1) := by decide +kernel
theorem d1_1 : decode method_2_code 1 = .ok (.ifCond .ne 7, 3) := by decide +kernel
theorem d1_4 : decode method_2_code 4 = .ok (.getstatic 7, 3) := by decide +kernel
theorem d1_7 : decode method_2_code 7 = .ok (.areturn, 1) := by decide +kernel
theorem d1_8 : decode method_2_code 8 = .ok (.iload_n 0, 1) := by decide +kernel
theorem d1_9 : decode method_2_code 9 = .ok (.iconst 1, 1) := by decide +kernel
theorem d1_10 : decode method_2_code 10 = .ok (.if_icmp .ne 7, 3) := by decide +kernel
theorem d1_13 : decode method_2_code 13 = .ok (.getstatic 13, 3) := by decide +kernel
theorem d1_16 : decode method_2_code 16 = .ok (.areturn, 1) := by decide +kernel
theorem d1_17 : decode method_2_code 17 = .ok (.iload_n 0, 1) := by decide +kernel
theorem d1_18 : decode method_2_code 18 = .ok (.iconst 2, 1) := by decide +kernel
theorem d1_19 : decode method_2_code 19 = .ok (.if_icmp .ne 7, 3) := by decide +kernel
theorem d1_22 : decode method_2_code 22 = .ok (.getstatic 16, 3) := by decide +kernel
theorem d1_25 : decode method_2_code 25 = .ok (.areturn, 1) := by decide +kernel
theorem d1_26 : decode method_2_code 26 = .ok (.iload_n 0, 1) := by decide +kernel
theorem d1_27 : decode method_2_code 27 = .ok (.iconst 3, 1) := by decide +kernel
theorem d1_28 : decode method_2_code 28 = .ok (.if_icmp .ne 7, 3) := by decide +kernel
theorem d1_31 : decode method_2_code 31 = .ok (.getstatic 19, 3) := by decide +kernel
theorem d1_34 : decode method_2_code 34 = .ok (.areturn, 1) := by decide +kernel
theorem d1_35 : decode method_2_code 35 = .ok (.iload_n 0, 1) := by decide +kernel
theorem d1_36 : decode method_2_code 36 = .ok (.iconst 4, 1) := by decide +kernel
theorem d1_37 : decode method_2_code 37 = .ok (.if_icmp .ne 7, 3) := by decide +kernel
theorem d1_40 : decode method_2_code 40 = .ok (.getstatic 22, 3) := by decide +kernel
theorem d1_43 : decode method_2_code 43 = .ok (.areturn, 1) := by decide +kernel
theorem d1_44 : decode method_2_code 44 = .ok (.iload_n 0, 1) := by decide +kernel
theorem d1_45 : decode method_2_code 45 = .ok (.iconst 5, 1) := by decide +kernel
theorem d1_46 : decode method_2_code 46 = .ok (.if_icmp .ne 7, 3) := by decide +kernel
theorem d1_49 : decode method_2_code 49 = .ok (.getstatic 25, 3) := by decide +kernel
theorem d1_52 : decode method_2_code 52 = .ok (.areturn, 1) := by decide +kernel
theorem d1_53 : decode method_2_code 53 = .ok (.iload_n 0, 1) := by decide +kernel
theorem d1_54 : decode method_2_code 54 = .ok (.bipush 6, 2) := by decide +kernel
theorem d1_56 : decode method_2_code 56 = .ok (.if_icmp .ne 7, 3) := by decide +kernel
theorem d1_59 : decode method_2_code 59 = .ok (.getstatic 28, 3) := by decide +kernel
theorem d1_62 : decode method_2_code 62 = .ok (.areturn, 1) := by decide +kernel
theorem d1_63 : decode method_2_code 63 = .ok (.iload_n 0, 1) := by decide +kernel
theorem d1_64 : decode method_2_code 64 = .ok (.bipush 7, 2) := by decide +kernel
theorem d1_66 : decode method_2_code 66 = .ok (.if_icmp .ne 7, 3) := by decide +kernel
theorem d1_69 : decode method_2_code 69 = .ok (.getstatic 31, 3) := by decide +kernel
theorem d1_72 : decode method_2_code 72 = .ok (.areturn, 1) := by decide +kernel
theorem d1_73 : decode method_2_code 73 = .ok (.iload_n 0, 1) := by decide +kernel
theorem d1_74 : decode method_2_code 74 = .ok (.bipush 8, 2) := by decide +kernel
theorem d1_76 : decode method_2_code 76 = .ok (.if_icmp .ne 7, 3) := by decide +kernel
theorem d1_79 : decode method_2_code 79 = .ok (.getstatic 34, 3) := by decide +kernel
theorem d1_82 : decode method_2_code 82 = .ok (.areturn, 1) := by decide +kernel
theorem d1_83 : decode method_2_code 83 = .ok (.iload_n 0, 1) := by decide +kernel
theorem d1_84 : decode method_2_code 84 = .ok (.bipush 9, 2) := by decide +kernel
theorem d1_86 : decode method_2_code 86 = .ok (.if_icmp .ne 7, 3) := by decide +kernel
theorem d1_89 : decode method_2_code 89 = .ok (.getstatic 37, 3) := by decide +kernel
theorem d1_92 : decode method_2_code 92 = .ok (.areturn, 1) := by decide +kernel
theorem d1_93 : decode method_2_code 93 = .ok (.iload_n 0, 1) := by decide +kernel
theorem d1_94 : decode method_2_code 94 = .ok (.bipush 10, 2) := by decide +kernel
theorem d1_96 : decode method_2_code 96 = .ok (.if_icmp .ne 7, 3) := by decide +kernel
theorem d1_99 : decode method_2_code 99 = .ok (.getstatic 40, 3) := by decide +kernel
theorem d1_102 : decode method_2_code 102 = .ok (.areturn, 1) := by decide +kernel
theorem d1_103 : decode method_2_code 103 = .ok (.iload_n 0, 1) := by decide +kernel
theorem d1_104 : decode method_2_code 104 = .ok (.bipush 11, 2) := by decide +kernel
theorem d1_106 : decode method_2_code 106 = .ok (.if_icmp .ne 7, 3) := by decide +kernel
theorem d1_109 : decode method_2_code 109 = .ok (.getstatic 43, 3) := by decide +kernel
theorem d1_112 : decode method_2_code 112 = .ok (.areturn, 1) := by decide +kernel
theorem d1_113 : decode method_2_code 113 = .ok (.iload_n 0, 1) := by decide +kernel
theorem d1_114 : decode method_2_code 114 = .ok (.bipush 12, 2) := by decide +kernel
theorem d1_116 : decode method_2_code 116 = .ok (.if_icmp .ne 7, 3) := by decide +kernel
theorem d1_119 : decode method_2_code 119 = .ok (.getstatic 46, 3) := by decide +kernel
theorem d1_122 : decode method_2_code 122 = .ok (.areturn, 1) := by decide +kernel
theorem d1_123 : decode method_2_code 123 = .ok (.iload_n 0, 1) := by decide +kernel
theorem d1_124 : decode method_2_code 124 = .ok (.bipush 13, 2) := by decide +kernel
theorem d1_126 : decode method_2_code 126 = .ok (.if_icmp .ne 7, 3) := by decide +kernel
theorem d1_129 : decode method_2_code 129 = .ok (.getstatic 49, 3) := by decide +kernel
theorem d1_132 : decode method_2_code 132 = .ok (.areturn, 1) := by decide +kernel
theorem d1_133 : decode method_2_code 133 = .ok (.iload_n 0, 1) := by decide +kernel
theorem d1_134 : decode method_2_code 134 = .ok (.bipush 14, 2) := by decide +kernel
theorem d1_136 : decode method_2_code 136 = .ok (.if_icmp .ne 7, 3) := by decide +kernel
theorem d1_139 : decode method_2_code 139 = .ok (.getstatic 52, 3) := by decide +kernel
theorem d1_142 : decode method_2_code 142 = .ok (.areturn, 1) := by decide +kernel
theorem d1_143 : decode method_2_code 143 = .ok (.iload_n 0, 1) := by decide +kernel
theorem d1_144 : decode method_2_code 144 = .ok (.bipush 15, 2) := by decide +kernel
theorem d1_146 : decode method_2_code 146 = .ok (.if_icmp .ne 7, 3) := by decide +kernel
theorem d1_149 : decode method_2_code 149 = .ok (.getstatic 55, 3) := by decide +kernel
theorem d1_152 : decode method_2_code 152 = .ok (.areturn, 1) := by decide +kernel
theorem d1_153 : decode method_2_code 153 = .ok (.getstatic 58, 3) := by decide +kernel
theorem d1_156 : decode method_2_code 156 = .ok (.areturn, 1) := by decide +kernel
theorem pl_1 : plainFor (⟨"com/example/rentefot/rentefot/TermIsOptionalPinLaw", "pick", "(I)Lcom/example/rentefot/rentefot/Term;"⟩ : MethodName) = true := plainFor_of_name (by first | (simp [plainName, overriddenIn]; done) | decide +kernel)
theorem d2_0 : decode prog_35_method_5_code 0 = .ok (.aload_n 0, 1) := by decide +kernel
theorem d2_1 : decode prog_35_method_5_code 1 = .ok (.getstatic 46, 3) := by decide +kernel
theorem d2_4 : decode prog_35_method_5_code 4 = .ok (.if_acmp .eq 17, 3) := by decide +kernel
theorem d2_7 : decode prog_35_method_5_code 7 = .ok (.aload_n 0, 1) := by decide +kernel
theorem d2_8 : decode prog_35_method_5_code 8 = .ok (.getstatic 49, 3) := by decide +kernel
theorem d2_11 : decode prog_35_method_5_code 11 = .ok (.if_acmp .eq 10, 3) := by decide +kernel
theorem d2_14 : decode prog_35_method_5_code 14 = .ok (.aload_n 0, 1) := by decide +kernel
theorem d2_15 : decode prog_35_method_5_code 15 = .ok (.getstatic 52, 3) := by decide +kernel
theorem d2_18 : decode prog_35_method_5_code 18 = .ok (.if_acmp .ne 7, 3) := by decide +kernel
theorem d2_21 : decode prog_35_method_5_code 21 = .ok (.iconst 1, 1) := by decide +kernel
theorem d2_22 : decode prog_35_method_5_code 22 = .ok (.goto 4, 3) := by decide +kernel
theorem d2_25 : decode prog_35_method_5_code 25 = .ok (.iconst 0, 1) := by decide +kernel
theorem d2_26 : decode prog_35_method_5_code 26 = .ok (.ireturn, 1) := by decide +kernel
theorem pl_2 : plainFor (⟨"com/example/rentefot/rentefot/Term", "isOptional", "()Z"⟩ : MethodName) = true := plainFor_of_name (by first | (simp [plainName, overriddenIn]; done) | decide +kernel)
theorem pd_0 : parseMethodDescriptor "(I)Lcom/example/rentefot/rentefot/Term;" = some ⟨[.int], some (.object "com/example/rentefot/rentefot/Term")⟩ := by decide +kernel
theorem pd_1 : parseMethodDescriptor "()Z" = some ⟨[], some .boolean⟩ := by decide +kernel
theorem own_mod (x n : Int32) (hn : 0 < n.toInt) : 0 ≤ ((x &&& (2147483647 : Int32)) % n).toInt ∧ ((x &&& (2147483647 : Int32)) % n).toInt < n.toInt := by
  have h := (c_and x 2147483647 (by decide)).1
  have q := (c_iremV (x &&& 2147483647) n).1 h hn
  exact ⟨q.1, q.2.1⟩
theorem own_cases17 (k : Int32) (h : 0 ≤ k.toInt ∧ k.toInt < (17 : Int32).toInt) : k = (0 : Int32) ∨ k = (1 : Int32) ∨ k = (2 : Int32) ∨ k = (3 : Int32) ∨ k = (4 : Int32) ∨ k = (5 : Int32) ∨ k = (6 : Int32) ∨ k = (7 : Int32) ∨ k = (8 : Int32) ∨ k = (9 : Int32) ∨ k = (10 : Int32) ∨ k = (11 : Int32) ∨ k = (12 : Int32) ∨ k = (13 : Int32) ∨ k = (14 : Int32) ∨ k = (15 : Int32) ∨ k = (16 : Int32) := by
  have e : (17 : Int32).toInt = 17 := by decide
  have q : k.toInt = 0 ∨ k.toInt = 1 ∨ k.toInt = 2 ∨ k.toInt = 3 ∨ k.toInt = 4 ∨ k.toInt = 5 ∨ k.toInt = 6 ∨ k.toInt = 7 ∨ k.toInt = 8 ∨ k.toInt = 9 ∨ k.toInt = 10 ∨ k.toInt = 11 ∨ k.toInt = 12 ∨ k.toInt = 13 ∨ k.toInt = 14 ∨ k.toInt = 15 ∨ k.toInt = 16 := by omega
  rcases q with q | q | q | q | q | q | q | q | q | q | q | q | q | q | q | q | q
  · exact Or.inl (Int32.toInt_inj.mp (q.trans (by decide)))
  · exact Or.inr (Or.inl (Int32.toInt_inj.mp (q.trans (by decide))))
  · exact Or.inr (Or.inr (Or.inl (Int32.toInt_inj.mp (q.trans (by decide)))))
  · exact Or.inr (Or.inr (Or.inr (Or.inl (Int32.toInt_inj.mp (q.trans (by decide))))))
  · exact Or.inr (Or.inr (Or.inr (Or.inr (Or.inl (Int32.toInt_inj.mp (q.trans (by decide)))))))
  · exact Or.inr (Or.inr (Or.inr (Or.inr (Or.inr (Or.inl (Int32.toInt_inj.mp (q.trans (by decide))))))))
  · exact Or.inr (Or.inr (Or.inr (Or.inr (Or.inr (Or.inr (Or.inl (Int32.toInt_inj.mp (q.trans (by decide)))))))))
  · exact Or.inr (Or.inr (Or.inr (Or.inr (Or.inr (Or.inr (Or.inr (Or.inl (Int32.toInt_inj.mp (q.trans (by decide))))))))))
  · exact Or.inr (Or.inr (Or.inr (Or.inr (Or.inr (Or.inr (Or.inr (Or.inr (Or.inl (Int32.toInt_inj.mp (q.trans (by decide)))))))))))
  · exact Or.inr (Or.inr (Or.inr (Or.inr (Or.inr (Or.inr (Or.inr (Or.inr (Or.inr (Or.inl (Int32.toInt_inj.mp (q.trans (by decide))))))))))))
  · exact Or.inr (Or.inr (Or.inr (Or.inr (Or.inr (Or.inr (Or.inr (Or.inr (Or.inr (Or.inr (Or.inl (Int32.toInt_inj.mp (q.trans (by decide)))))))))))))
  · exact Or.inr (Or.inr (Or.inr (Or.inr (Or.inr (Or.inr (Or.inr (Or.inr (Or.inr (Or.inr (Or.inr (Or.inl (Int32.toInt_inj.mp (q.trans (by decide))))))))))))))
  · exact Or.inr (Or.inr (Or.inr (Or.inr (Or.inr (Or.inr (Or.inr (Or.inr (Or.inr (Or.inr (Or.inr (Or.inr (Or.inl (Int32.toInt_inj.mp (q.trans (by decide)))))))))))))))
  · exact Or.inr (Or.inr (Or.inr (Or.inr (Or.inr (Or.inr (Or.inr (Or.inr (Or.inr (Or.inr (Or.inr (Or.inr (Or.inr (Or.inl (Int32.toInt_inj.mp (q.trans (by decide))))))))))))))))
  · exact Or.inr (Or.inr (Or.inr (Or.inr (Or.inr (Or.inr (Or.inr (Or.inr (Or.inr (Or.inr (Or.inr (Or.inr (Or.inr (Or.inr (Or.inl (Int32.toInt_inj.mp (q.trans (by decide)))))))))))))))))
  · exact Or.inr (Or.inr (Or.inr (Or.inr (Or.inr (Or.inr (Or.inr (Or.inr (Or.inr (Or.inr (Or.inr (Or.inr (Or.inr (Or.inr (Or.inr (Or.inl (Int32.toInt_inj.mp (q.trans (by decide))))))))))))))))))
  · exact Or.inr (Or.inr (Or.inr (Or.inr (Or.inr (Or.inr (Or.inr (Or.inr (Or.inr (Or.inr (Or.inr (Or.inr (Or.inr (Or.inr (Or.inr (Or.inr ((Int32.toInt_inj.mp (q.trans (by decide)))))))))))))))))))
def own_pk (w : Nat → Addr) (k : Int32) : Addr := if k = (0 : Int32) then w 0 else if k = (1 : Int32) then w 1 else if k = (2 : Int32) then w 2 else if k = (3 : Int32) then w 3 else if k = (4 : Int32) then w 4 else if k = (5 : Int32) then w 5 else if k = (6 : Int32) then w 6 else if k = (7 : Int32) then w 7 else if k = (8 : Int32) then w 8 else if k = (9 : Int32) then w 9 else if k = (10 : Int32) then w 10 else if k = (11 : Int32) then w 11 else if k = (12 : Int32) then w 12 else if k = (13 : Int32) then w 13 else if k = (14 : Int32) then w 14 else if k = (15 : Int32) then w 15 else w 16
theorem own_opt (w : Nat → Addr) (hi : ∀ i j, i < 17 → j < 17 → i ≠ j → w i ≠ w j) (k : Int32) (hk : k = (0 : Int32) ∨ k = (1 : Int32) ∨ k = (2 : Int32) ∨ k = (3 : Int32) ∨ k = (4 : Int32) ∨ k = (5 : Int32) ∨ k = (6 : Int32) ∨ k = (7 : Int32) ∨ k = (8 : Int32) ∨ k = (9 : Int32) ∨ k = (10 : Int32) ∨ k = (11 : Int32) ∨ k = (12 : Int32) ∨ k = (13 : Int32) ∨ k = (14 : Int32) ∨ k = (15 : Int32) ∨ k = (16 : Int32)) :
    (if own_pk w k = w 14 ∨ own_pk w k = w 15 ∨ own_pk w k = w 16 then (1 : Int32) else (0 : Int32)) = if k < (14 : Int32) then (0 : Int32) else (1 : Int32) := by
  rcases hk with rfl | rfl | rfl | rfl | rfl | rfl | rfl | rfl | rfl | rfl | rfl | rfl | rfl | rfl | rfl | rfl | rfl
  · rw [if_neg, if_pos (by decide)]; rintro (q | q | q)
    · exact hi 0 14 (by decide) (by decide) (by decide) q
    · exact hi 0 15 (by decide) (by decide) (by decide) q
    · exact hi 0 16 (by decide) (by decide) (by decide) q
  · rw [if_neg, if_pos (by decide)]; rintro (q | q | q)
    · exact hi 1 14 (by decide) (by decide) (by decide) q
    · exact hi 1 15 (by decide) (by decide) (by decide) q
    · exact hi 1 16 (by decide) (by decide) (by decide) q
  · rw [if_neg, if_pos (by decide)]; rintro (q | q | q)
    · exact hi 2 14 (by decide) (by decide) (by decide) q
    · exact hi 2 15 (by decide) (by decide) (by decide) q
    · exact hi 2 16 (by decide) (by decide) (by decide) q
  · rw [if_neg, if_pos (by decide)]; rintro (q | q | q)
    · exact hi 3 14 (by decide) (by decide) (by decide) q
    · exact hi 3 15 (by decide) (by decide) (by decide) q
    · exact hi 3 16 (by decide) (by decide) (by decide) q
  · rw [if_neg, if_pos (by decide)]; rintro (q | q | q)
    · exact hi 4 14 (by decide) (by decide) (by decide) q
    · exact hi 4 15 (by decide) (by decide) (by decide) q
    · exact hi 4 16 (by decide) (by decide) (by decide) q
  · rw [if_neg, if_pos (by decide)]; rintro (q | q | q)
    · exact hi 5 14 (by decide) (by decide) (by decide) q
    · exact hi 5 15 (by decide) (by decide) (by decide) q
    · exact hi 5 16 (by decide) (by decide) (by decide) q
  · rw [if_neg, if_pos (by decide)]; rintro (q | q | q)
    · exact hi 6 14 (by decide) (by decide) (by decide) q
    · exact hi 6 15 (by decide) (by decide) (by decide) q
    · exact hi 6 16 (by decide) (by decide) (by decide) q
  · rw [if_neg, if_pos (by decide)]; rintro (q | q | q)
    · exact hi 7 14 (by decide) (by decide) (by decide) q
    · exact hi 7 15 (by decide) (by decide) (by decide) q
    · exact hi 7 16 (by decide) (by decide) (by decide) q
  · rw [if_neg, if_pos (by decide)]; rintro (q | q | q)
    · exact hi 8 14 (by decide) (by decide) (by decide) q
    · exact hi 8 15 (by decide) (by decide) (by decide) q
    · exact hi 8 16 (by decide) (by decide) (by decide) q
  · rw [if_neg, if_pos (by decide)]; rintro (q | q | q)
    · exact hi 9 14 (by decide) (by decide) (by decide) q
    · exact hi 9 15 (by decide) (by decide) (by decide) q
    · exact hi 9 16 (by decide) (by decide) (by decide) q
  · rw [if_neg, if_pos (by decide)]; rintro (q | q | q)
    · exact hi 10 14 (by decide) (by decide) (by decide) q
    · exact hi 10 15 (by decide) (by decide) (by decide) q
    · exact hi 10 16 (by decide) (by decide) (by decide) q
  · rw [if_neg, if_pos (by decide)]; rintro (q | q | q)
    · exact hi 11 14 (by decide) (by decide) (by decide) q
    · exact hi 11 15 (by decide) (by decide) (by decide) q
    · exact hi 11 16 (by decide) (by decide) (by decide) q
  · rw [if_neg, if_pos (by decide)]; rintro (q | q | q)
    · exact hi 12 14 (by decide) (by decide) (by decide) q
    · exact hi 12 15 (by decide) (by decide) (by decide) q
    · exact hi 12 16 (by decide) (by decide) (by decide) q
  · rw [if_neg, if_pos (by decide)]; rintro (q | q | q)
    · exact hi 13 14 (by decide) (by decide) (by decide) q
    · exact hi 13 15 (by decide) (by decide) (by decide) q
    · exact hi 13 16 (by decide) (by decide) (by decide) q
  · rw [if_pos, if_neg (by decide)]; exact Or.inl rfl
  · rw [if_pos, if_neg (by decide)]; exact Or.inr (Or.inl rfl)
  · rw [if_pos, if_neg (by decide)]; exact Or.inr (Or.inr rfl)
theorem own_pkE (w : Nat → Addr) (k : Int32) : ∃ n, n < 17 ∧ own_pk w k = w n := by
  unfold own_pk
  by_cases h0 : k = (0 : Int32)
  · rw [if_pos h0]; exact ⟨0, by decide, rfl⟩
  rw [if_neg h0]
  by_cases h1 : k = (1 : Int32)
  · rw [if_pos h1]; exact ⟨1, by decide, rfl⟩
  rw [if_neg h1]
  by_cases h2 : k = (2 : Int32)
  · rw [if_pos h2]; exact ⟨2, by decide, rfl⟩
  rw [if_neg h2]
  by_cases h3 : k = (3 : Int32)
  · rw [if_pos h3]; exact ⟨3, by decide, rfl⟩
  rw [if_neg h3]
  by_cases h4 : k = (4 : Int32)
  · rw [if_pos h4]; exact ⟨4, by decide, rfl⟩
  rw [if_neg h4]
  by_cases h5 : k = (5 : Int32)
  · rw [if_pos h5]; exact ⟨5, by decide, rfl⟩
  rw [if_neg h5]
  by_cases h6 : k = (6 : Int32)
  · rw [if_pos h6]; exact ⟨6, by decide, rfl⟩
  rw [if_neg h6]
  by_cases h7 : k = (7 : Int32)
  · rw [if_pos h7]; exact ⟨7, by decide, rfl⟩
  rw [if_neg h7]
  by_cases h8 : k = (8 : Int32)
  · rw [if_pos h8]; exact ⟨8, by decide, rfl⟩
  rw [if_neg h8]
  by_cases h9 : k = (9 : Int32)
  · rw [if_pos h9]; exact ⟨9, by decide, rfl⟩
  rw [if_neg h9]
  by_cases h10 : k = (10 : Int32)
  · rw [if_pos h10]; exact ⟨10, by decide, rfl⟩
  rw [if_neg h10]
  by_cases h11 : k = (11 : Int32)
  · rw [if_pos h11]; exact ⟨11, by decide, rfl⟩
  rw [if_neg h11]
  by_cases h12 : k = (12 : Int32)
  · rw [if_pos h12]; exact ⟨12, by decide, rfl⟩
  rw [if_neg h12]
  by_cases h13 : k = (13 : Int32)
  · rw [if_pos h13]; exact ⟨13, by decide, rfl⟩
  rw [if_neg h13]
  by_cases h14 : k = (14 : Int32)
  · rw [if_pos h14]; exact ⟨14, by decide, rfl⟩
  rw [if_neg h14]
  by_cases h15 : k = (15 : Int32)
  · rw [if_pos h15]; exact ⟨15, by decide, rfl⟩
  rw [if_neg h15]
  exact ⟨16, by decide, rfl⟩
def Q_rm_pick (Z : State) (k : Int32) (w : Nat → Addr) (h0 : Heap) (n0 : Nat) (v : Option Value) (h : Heap) (L : List Loc) : Prop := v = some (.ref (own_pk w k)) ∧ Fr n0 L ∧ h = h0
set_option maxRecDepth 65536 in
set_option maxHeartbeats 40000000 in
theorem rm_pick (l : Launch) (Z : State) (a0 : Array Value) (hw : ∀ d ∈ tables_1, d.before a0 Z = true) (ws : List Jvm.Cond) (k : Int32) (w : Nat → Addr) (h0 : Heap) (n0 : Nat) (S_0 : Sta Z h0 "com/example/rentefot/rentefot/Term" "ISIN" "Lcom/example/rentefot/rentefot/Term;" (.ref (w 0))) (S_1 : Sta Z h0 "com/example/rentefot/rentefot/Term" "ISSUER" "Lcom/example/rentefot/rentefot/Term;" (.ref (w 1))) (S_2 : Sta Z h0 "com/example/rentefot/rentefot/Term" "NAME" "Lcom/example/rentefot/rentefot/Term;" (.ref (w 2))) (S_3 : Sta Z h0 "com/example/rentefot/rentefot/Term" "CURRENCY" "Lcom/example/rentefot/rentefot/Term;" (.ref (w 3))) (S_4 : Sta Z h0 "com/example/rentefot/rentefot/Term" "FACE" "Lcom/example/rentefot/rentefot/Term;" (.ref (w 4))) (S_5 : Sta Z h0 "com/example/rentefot/rentefot/Term" "INITIAL_AMOUNT" "Lcom/example/rentefot/rentefot/Term;" (.ref (w 5))) (S_6 : Sta Z h0 "com/example/rentefot/rentefot/Term" "MAX_AMOUNT" "Lcom/example/rentefot/rentefot/Term;" (.ref (w 6))) (S_7 : Sta Z h0 "com/example/rentefot/rentefot/Term" "ISSUE_DATE" "Lcom/example/rentefot/rentefot/Term;" (.ref (w 7))) (S_8 : Sta Z h0 "com/example/rentefot/rentefot/Term" "MATURITY_DATE" "Lcom/example/rentefot/rentefot/Term;" (.ref (w 8))) (S_9 : Sta Z h0 "com/example/rentefot/rentefot/Term" "REDEMPTION_PRICE" "Lcom/example/rentefot/rentefot/Term;" (.ref (w 9))) (S_10 : Sta Z h0 "com/example/rentefot/rentefot/Term" "RATE" "Lcom/example/rentefot/rentefot/Term;" (.ref (w 10))) (S_11 : Sta Z h0 "com/example/rentefot/rentefot/Term" "PAYMENT_DATES" "Lcom/example/rentefot/rentefot/Term;" (.ref (w 11))) (S_12 : Sta Z h0 "com/example/rentefot/rentefot/Term" "DAY_COUNT" "Lcom/example/rentefot/rentefot/Term;" (.ref (w 12))) (S_13 : Sta Z h0 "com/example/rentefot/rentefot/Term" "BUSINESS_DAY_CONVENTION" "Lcom/example/rentefot/rentefot/Term;" (.ref (w 13))) (S_14 : Sta Z h0 "com/example/rentefot/rentefot/Term" "TRANCHES" "Lcom/example/rentefot/rentefot/Term;" (.ref (w 14))) (S_15 : Sta Z h0 "com/example/rentefot/rentefot/Term" "OUTSTANDING" "Lcom/example/rentefot/rentefot/Term;" (.ref (w 15))) (S_16 : Sta Z h0 "com/example/rentefot/rentefot/Term" "AGREEMENT_TEXT" "Lcom/example/rentefot/rentefot/Term;" (.ref (w 16))) :
    MetFree l (⟨"com/example/rentefot/rentefot/TermIsOptionalPinLaw", "pick", "(I)Lcom/example/rentefot/rentefot/Term;"⟩ : MethodName) (head1 (Jvm.Cond.code (⟨"com/example/rentefot/rentefot/TermIsOptionalPinLaw", "pick", "(I)Lcom/example/rentefot/rentefot/Term;"⟩ : MethodName) method_2_code 1 (some (.object "com/example/rentefot/rentefot/Term")) :: ws) ({ frames := 0, cells := 0, slots := 0, locals := 0 } : Room)) (fun ar U => ar = #[(.int k)] ∧ Z.Warmed39 U.vm ∧ U.heap = h0) (fun _ _ _ _ _ => True) (fun _ U o U' => ∃ v L, o = .returned v ∧ Q_rm_pick Z k w h0 n0 v U'.heap L ∧ FrameEnd U o U' L ({ frames := 0, cells := 0, slots := 0, locals := 0 } : Room).cells ({ frames := 0, cells := 0, slots := 0, locals := 0 } : Room).slots) := by
  refine own_enter (Q := (Q_rm_pick Z k w h0 n0)) pl_1 ?_
  intro p e s m below meth c s₁ X0 hx hZ hby hml hown hnm hret hlk e0
  have N0 := Fr.nil n0
  refine own_by (fun tz kz => castTop (g' := (mkF m 0 #[.val (.int k)] [])) (by first | rfl | (simp [entryFrame, mkF, argsToLocals, Value.category]; done)) kz) ?_
  show own_Go p e below s _ _ (s₁.setTop (mkF m 0 #[.val (.int k)] []))
  refine own_by (fun tz kz => XS.iloadN X0.here hx rfl (hb hby d1_0) rfl  kz) ?_
  show own_Go p e below s _ _ (s₁.setTop (mkF m 1 #[.val (.int k)] [(.int k)]))
  by_cases hc1_1 : k = (0 : Int32)
  · refine own_by (fun tz kz => XS.ifNo X0.here hx rfl (hb hby d1_1) rfl ((if0 _ _).trans (teq hc1_1).2) kz) ?_
    show own_Go p e below s _ _ (s₁.setTop (mkF m 4 #[.val (.int k)] []))
    obtain ⟨T2, X2, e2, st2⟩ := getS2 X0 hx hZ hown (host := "") (Or.inl (hw _ (List.mem_of_getElem? (i := 5) rfl))) Via.refl e0 S_0 (g := (mkF m 4 #[.val (.int k)] [])) rfl (hb hby d1_4)
    refine own_by st2 ?_
    show own_Go p e below s _ _ (T2.setTop (mkF m 7 #[.val (.int k)] [(.ref (w 0))]))
    refine own_retA X2 hx hlk (t := (.object "com/example/rentefot/rentefot/Term")) hret rfl rfl (hb hby d1_7) ?_ (by decide) (by decide)
    exact ⟨by simp [own_pk, hc1_1], N0, e2⟩
  · refine own_by (fun tz kz => XS.ifYes X0.here hx rfl (pc0 := 1) (pc' := 8) rfl (hb hby d1_1) rfl ((if0 _ _).trans (feq hc1_1).2) (by decide) (by decide) kz) ?_
    show own_Go p e below s _ _ (s₁.setTop (mkF m 8 #[.val (.int k)] []))
    refine own_by (fun tz kz => XS.iloadN X0.here hx rfl (hb hby d1_8) rfl  kz) ?_
    show own_Go p e below s _ _ (s₁.setTop (mkF m 9 #[.val (.int k)] [(.int k)]))
    refine own_by (fun tz kz => XS.iconst X0.here hx rfl (hb hby d1_9) kz) ?_
    show own_Go p e below s _ _ (s₁.setTop (mkF m 10 #[.val (.int k)] [(.int (1 : Int32)), (.int k)]))
    by_cases hc10_3 : k = (1 : Int32)
    · refine own_by (fun tz kz => XS.icmpNo X0.here hx rfl (hb hby d1_10) rfl (teq hc10_3).2 kz) ?_
      show own_Go p e below s _ _ (s₁.setTop (mkF m 13 #[.val (.int k)] []))
      obtain ⟨T4, X4, e4, st4⟩ := getS2 X0 hx hZ hown (host := "") (Or.inl (hw _ (List.mem_of_getElem? (i := 33) rfl))) Via.refl e0 S_1 (g := (mkF m 13 #[.val (.int k)] [])) rfl (hb hby d1_13)
      refine own_by st4 ?_
      show own_Go p e below s _ _ (T4.setTop (mkF m 16 #[.val (.int k)] [(.ref (w 1))]))
      refine own_retA X4 hx hlk (t := (.object "com/example/rentefot/rentefot/Term")) hret rfl rfl (hb hby d1_16) ?_ (by decide) (by decide)
      exact ⟨by simp [own_pk, hc1_1, hc10_3], N0, e4⟩
    · refine own_by (fun tz kz => XS.icmpYes X0.here hx rfl (pc0 := 10) (pc' := 17) rfl (hb hby d1_10) rfl (feq hc10_3).2 (by decide) (by decide) kz) ?_
      show own_Go p e below s _ _ (s₁.setTop (mkF m 17 #[.val (.int k)] []))
      refine own_by (fun tz kz => XS.iloadN X0.here hx rfl (hb hby d1_17) rfl  kz) ?_
      show own_Go p e below s _ _ (s₁.setTop (mkF m 18 #[.val (.int k)] [(.int k)]))
      refine own_by (fun tz kz => XS.iconst X0.here hx rfl (hb hby d1_18) kz) ?_
      show own_Go p e below s _ _ (s₁.setTop (mkF m 19 #[.val (.int k)] [(.int (2 : Int32)), (.int k)]))
      by_cases hc19_5 : k = (2 : Int32)
      · refine own_by (fun tz kz => XS.icmpNo X0.here hx rfl (hb hby d1_19) rfl (teq hc19_5).2 kz) ?_
        show own_Go p e below s _ _ (s₁.setTop (mkF m 22 #[.val (.int k)] []))
        obtain ⟨T6, X6, e6, st6⟩ := getS2 X0 hx hZ hown (host := "") (Or.inl (hw _ (List.mem_of_getElem? (i := 29) rfl))) Via.refl e0 S_2 (g := (mkF m 22 #[.val (.int k)] [])) rfl (hb hby d1_22)
        refine own_by st6 ?_
        show own_Go p e below s _ _ (T6.setTop (mkF m 25 #[.val (.int k)] [(.ref (w 2))]))
        refine own_retA X6 hx hlk (t := (.object "com/example/rentefot/rentefot/Term")) hret rfl rfl (hb hby d1_25) ?_ (by decide) (by decide)
        exact ⟨by simp [own_pk, hc1_1, hc10_3, hc19_5], N0, e6⟩
      · refine own_by (fun tz kz => XS.icmpYes X0.here hx rfl (pc0 := 19) (pc' := 26) rfl (hb hby d1_19) rfl (feq hc19_5).2 (by decide) (by decide) kz) ?_
        show own_Go p e below s _ _ (s₁.setTop (mkF m 26 #[.val (.int k)] []))
        refine own_by (fun tz kz => XS.iloadN X0.here hx rfl (hb hby d1_26) rfl  kz) ?_
        show own_Go p e below s _ _ (s₁.setTop (mkF m 27 #[.val (.int k)] [(.int k)]))
        refine own_by (fun tz kz => XS.iconst X0.here hx rfl (hb hby d1_27) kz) ?_
        show own_Go p e below s _ _ (s₁.setTop (mkF m 28 #[.val (.int k)] [(.int (3 : Int32)), (.int k)]))
        by_cases hc28_7 : k = (3 : Int32)
        · refine own_by (fun tz kz => XS.icmpNo X0.here hx rfl (hb hby d1_28) rfl (teq hc28_7).2 kz) ?_
          show own_Go p e below s _ _ (s₁.setTop (mkF m 31 #[.val (.int k)] []))
          obtain ⟨T8, X8, e8, st8⟩ := getS2 X0 hx hZ hown (host := "") (Or.inl (hw _ (List.mem_of_getElem? (i := 19) rfl))) Via.refl e0 S_3 (g := (mkF m 31 #[.val (.int k)] [])) rfl (hb hby d1_31)
          refine own_by st8 ?_
          show own_Go p e below s _ _ (T8.setTop (mkF m 34 #[.val (.int k)] [(.ref (w 3))]))
          refine own_retA X8 hx hlk (t := (.object "com/example/rentefot/rentefot/Term")) hret rfl rfl (hb hby d1_34) ?_ (by decide) (by decide)
          exact ⟨by simp [own_pk, hc1_1, hc10_3, hc19_5, hc28_7], N0, e8⟩
        · refine own_by (fun tz kz => XS.icmpYes X0.here hx rfl (pc0 := 28) (pc' := 35) rfl (hb hby d1_28) rfl (feq hc28_7).2 (by decide) (by decide) kz) ?_
          show own_Go p e below s _ _ (s₁.setTop (mkF m 35 #[.val (.int k)] []))
          refine own_by (fun tz kz => XS.iloadN X0.here hx rfl (hb hby d1_35) rfl  kz) ?_
          show own_Go p e below s _ _ (s₁.setTop (mkF m 36 #[.val (.int k)] [(.int k)]))
          refine own_by (fun tz kz => XS.iconst X0.here hx rfl (hb hby d1_36) kz) ?_
          show own_Go p e below s _ _ (s₁.setTop (mkF m 37 #[.val (.int k)] [(.int (4 : Int32)), (.int k)]))
          by_cases hc37_9 : k = (4 : Int32)
          · refine own_by (fun tz kz => XS.icmpNo X0.here hx rfl (hb hby d1_37) rfl (teq hc37_9).2 kz) ?_
            show own_Go p e below s _ _ (s₁.setTop (mkF m 40 #[.val (.int k)] []))
            obtain ⟨T10, X10, e10, st10⟩ := getS2 X0 hx hZ hown (host := "") (Or.inl (hw _ (List.mem_of_getElem? (i := 37) rfl))) Via.refl e0 S_4 (g := (mkF m 40 #[.val (.int k)] [])) rfl (hb hby d1_40)
            refine own_by st10 ?_
            show own_Go p e below s _ _ (T10.setTop (mkF m 43 #[.val (.int k)] [(.ref (w 4))]))
            refine own_retA X10 hx hlk (t := (.object "com/example/rentefot/rentefot/Term")) hret rfl rfl (hb hby d1_43) ?_ (by decide) (by decide)
            exact ⟨by simp [own_pk, hc1_1, hc10_3, hc19_5, hc28_7, hc37_9], N0, e10⟩
          · refine own_by (fun tz kz => XS.icmpYes X0.here hx rfl (pc0 := 37) (pc' := 44) rfl (hb hby d1_37) rfl (feq hc37_9).2 (by decide) (by decide) kz) ?_
            show own_Go p e below s _ _ (s₁.setTop (mkF m 44 #[.val (.int k)] []))
            refine own_by (fun tz kz => XS.iloadN X0.here hx rfl (hb hby d1_44) rfl  kz) ?_
            show own_Go p e below s _ _ (s₁.setTop (mkF m 45 #[.val (.int k)] [(.int k)]))
            refine own_by (fun tz kz => XS.iconst X0.here hx rfl (hb hby d1_45) kz) ?_
            show own_Go p e below s _ _ (s₁.setTop (mkF m 46 #[.val (.int k)] [(.int (5 : Int32)), (.int k)]))
            by_cases hc46_11 : k = (5 : Int32)
            · refine own_by (fun tz kz => XS.icmpNo X0.here hx rfl (hb hby d1_46) rfl (teq hc46_11).2 kz) ?_
              show own_Go p e below s _ _ (s₁.setTop (mkF m 49 #[.val (.int k)] []))
              obtain ⟨T12, X12, e12, st12⟩ := getS2 X0 hx hZ hown (host := "") (Or.inl (hw _ (List.mem_of_getElem? (i := 43) rfl))) Via.refl e0 S_5 (g := (mkF m 49 #[.val (.int k)] [])) rfl (hb hby d1_49)
              refine own_by st12 ?_
              show own_Go p e below s _ _ (T12.setTop (mkF m 52 #[.val (.int k)] [(.ref (w 5))]))
              refine own_retA X12 hx hlk (t := (.object "com/example/rentefot/rentefot/Term")) hret rfl rfl (hb hby d1_52) ?_ (by decide) (by decide)
              exact ⟨by simp [own_pk, hc1_1, hc10_3, hc19_5, hc28_7, hc37_9, hc46_11], N0, e12⟩
            · refine own_by (fun tz kz => XS.icmpYes X0.here hx rfl (pc0 := 46) (pc' := 53) rfl (hb hby d1_46) rfl (feq hc46_11).2 (by decide) (by decide) kz) ?_
              show own_Go p e below s _ _ (s₁.setTop (mkF m 53 #[.val (.int k)] []))
              refine own_by (fun tz kz => XS.iloadN X0.here hx rfl (hb hby d1_53) rfl  kz) ?_
              show own_Go p e below s _ _ (s₁.setTop (mkF m 54 #[.val (.int k)] [(.int k)]))
              refine own_by (fun tz kz => XS.bipush X0.here hx rfl (hb hby d1_54) kz) ?_
              show own_Go p e below s _ _ (s₁.setTop (mkF m 56 #[.val (.int k)] [(.int (6 : Int32)), (.int k)]))
              by_cases hc56_13 : k = (6 : Int32)
              · refine own_by (fun tz kz => XS.icmpNo X0.here hx rfl (hb hby d1_56) rfl (teq hc56_13).2 kz) ?_
                show own_Go p e below s _ _ (s₁.setTop (mkF m 59 #[.val (.int k)] []))
                obtain ⟨T14, X14, e14, st14⟩ := getS2 X0 hx hZ hown (host := "") (Or.inl (hw _ (List.mem_of_getElem? (i := 25) rfl))) Via.refl e0 S_6 (g := (mkF m 59 #[.val (.int k)] [])) rfl (hb hby d1_59)
                refine own_by st14 ?_
                show own_Go p e below s _ _ (T14.setTop (mkF m 62 #[.val (.int k)] [(.ref (w 6))]))
                refine own_retA X14 hx hlk (t := (.object "com/example/rentefot/rentefot/Term")) hret rfl rfl (hb hby d1_62) ?_ (by decide) (by decide)
                exact ⟨by simp [own_pk, hc1_1, hc10_3, hc19_5, hc28_7, hc37_9, hc46_11, hc56_13], N0, e14⟩
              · refine own_by (fun tz kz => XS.icmpYes X0.here hx rfl (pc0 := 56) (pc' := 63) rfl (hb hby d1_56) rfl (feq hc56_13).2 (by decide) (by decide) kz) ?_
                show own_Go p e below s _ _ (s₁.setTop (mkF m 63 #[.val (.int k)] []))
                refine own_by (fun tz kz => XS.iloadN X0.here hx rfl (hb hby d1_63) rfl  kz) ?_
                show own_Go p e below s _ _ (s₁.setTop (mkF m 64 #[.val (.int k)] [(.int k)]))
                refine own_by (fun tz kz => XS.bipush X0.here hx rfl (hb hby d1_64) kz) ?_
                show own_Go p e below s _ _ (s₁.setTop (mkF m 66 #[.val (.int k)] [(.int (7 : Int32)), (.int k)]))
                by_cases hc66_15 : k = (7 : Int32)
                · refine own_by (fun tz kz => XS.icmpNo X0.here hx rfl (hb hby d1_66) rfl (teq hc66_15).2 kz) ?_
                  show own_Go p e below s _ _ (s₁.setTop (mkF m 69 #[.val (.int k)] []))
                  obtain ⟨T16, X16, e16, st16⟩ := getS2 X0 hx hZ hown (host := "") (Or.inl (hw _ (List.mem_of_getElem? (i := 27) rfl))) Via.refl e0 S_7 (g := (mkF m 69 #[.val (.int k)] [])) rfl (hb hby d1_69)
                  refine own_by st16 ?_
                  show own_Go p e below s _ _ (T16.setTop (mkF m 72 #[.val (.int k)] [(.ref (w 7))]))
                  refine own_retA X16 hx hlk (t := (.object "com/example/rentefot/rentefot/Term")) hret rfl rfl (hb hby d1_72) ?_ (by decide) (by decide)
                  exact ⟨by simp [own_pk, hc1_1, hc10_3, hc19_5, hc28_7, hc37_9, hc46_11, hc56_13, hc66_15], N0, e16⟩
                · refine own_by (fun tz kz => XS.icmpYes X0.here hx rfl (pc0 := 66) (pc' := 73) rfl (hb hby d1_66) rfl (feq hc66_15).2 (by decide) (by decide) kz) ?_
                  show own_Go p e below s _ _ (s₁.setTop (mkF m 73 #[.val (.int k)] []))
                  refine own_by (fun tz kz => XS.iloadN X0.here hx rfl (hb hby d1_73) rfl  kz) ?_
                  show own_Go p e below s _ _ (s₁.setTop (mkF m 74 #[.val (.int k)] [(.int k)]))
                  refine own_by (fun tz kz => XS.bipush X0.here hx rfl (hb hby d1_74) kz) ?_
                  show own_Go p e below s _ _ (s₁.setTop (mkF m 76 #[.val (.int k)] [(.int (8 : Int32)), (.int k)]))
                  by_cases hc76_17 : k = (8 : Int32)
                  · refine own_by (fun tz kz => XS.icmpNo X0.here hx rfl (hb hby d1_76) rfl (teq hc76_17).2 kz) ?_
                    show own_Go p e below s _ _ (s₁.setTop (mkF m 79 #[.val (.int k)] []))
                    obtain ⟨T18, X18, e18, st18⟩ := getS2 X0 hx hZ hown (host := "") (Or.inl (hw _ (List.mem_of_getElem? (i := 21) rfl))) Via.refl e0 S_8 (g := (mkF m 79 #[.val (.int k)] [])) rfl (hb hby d1_79)
                    refine own_by st18 ?_
                    show own_Go p e below s _ _ (T18.setTop (mkF m 82 #[.val (.int k)] [(.ref (w 8))]))
                    refine own_retA X18 hx hlk (t := (.object "com/example/rentefot/rentefot/Term")) hret rfl rfl (hb hby d1_82) ?_ (by decide) (by decide)
                    exact ⟨by simp [own_pk, hc1_1, hc10_3, hc19_5, hc28_7, hc37_9, hc46_11, hc56_13, hc66_15, hc76_17], N0, e18⟩
                  · refine own_by (fun tz kz => XS.icmpYes X0.here hx rfl (pc0 := 76) (pc' := 83) rfl (hb hby d1_76) rfl (feq hc76_17).2 (by decide) (by decide) kz) ?_
                    show own_Go p e below s _ _ (s₁.setTop (mkF m 83 #[.val (.int k)] []))
                    refine own_by (fun tz kz => XS.iloadN X0.here hx rfl (hb hby d1_83) rfl  kz) ?_
                    show own_Go p e below s _ _ (s₁.setTop (mkF m 84 #[.val (.int k)] [(.int k)]))
                    refine own_by (fun tz kz => XS.bipush X0.here hx rfl (hb hby d1_84) kz) ?_
                    show own_Go p e below s _ _ (s₁.setTop (mkF m 86 #[.val (.int k)] [(.int (9 : Int32)), (.int k)]))
                    by_cases hc86_19 : k = (9 : Int32)
                    · refine own_by (fun tz kz => XS.icmpNo X0.here hx rfl (hb hby d1_86) rfl (teq hc86_19).2 kz) ?_
                      show own_Go p e below s _ _ (s₁.setTop (mkF m 89 #[.val (.int k)] []))
                      obtain ⟨T20, X20, e20, st20⟩ := getS2 X0 hx hZ hown (host := "") (Or.inl (hw _ (List.mem_of_getElem? (i := 23) rfl))) Via.refl e0 S_9 (g := (mkF m 89 #[.val (.int k)] [])) rfl (hb hby d1_89)
                      refine own_by st20 ?_
                      show own_Go p e below s _ _ (T20.setTop (mkF m 92 #[.val (.int k)] [(.ref (w 9))]))
                      refine own_retA X20 hx hlk (t := (.object "com/example/rentefot/rentefot/Term")) hret rfl rfl (hb hby d1_92) ?_ (by decide) (by decide)
                      exact ⟨by simp [own_pk, hc1_1, hc10_3, hc19_5, hc28_7, hc37_9, hc46_11, hc56_13, hc66_15, hc76_17, hc86_19], N0, e20⟩
                    · refine own_by (fun tz kz => XS.icmpYes X0.here hx rfl (pc0 := 86) (pc' := 93) rfl (hb hby d1_86) rfl (feq hc86_19).2 (by decide) (by decide) kz) ?_
                      show own_Go p e below s _ _ (s₁.setTop (mkF m 93 #[.val (.int k)] []))
                      refine own_by (fun tz kz => XS.iloadN X0.here hx rfl (hb hby d1_93) rfl  kz) ?_
                      show own_Go p e below s _ _ (s₁.setTop (mkF m 94 #[.val (.int k)] [(.int k)]))
                      refine own_by (fun tz kz => XS.bipush X0.here hx rfl (hb hby d1_94) kz) ?_
                      show own_Go p e below s _ _ (s₁.setTop (mkF m 96 #[.val (.int k)] [(.int (10 : Int32)), (.int k)]))
                      by_cases hc96_21 : k = (10 : Int32)
                      · refine own_by (fun tz kz => XS.icmpNo X0.here hx rfl (hb hby d1_96) rfl (teq hc96_21).2 kz) ?_
                        show own_Go p e below s _ _ (s₁.setTop (mkF m 99 #[.val (.int k)] []))
                        obtain ⟨T22, X22, e22, st22⟩ := getS2 X0 hx hZ hown (host := "") (Or.inl (hw _ (List.mem_of_getElem? (i := 39) rfl))) Via.refl e0 S_10 (g := (mkF m 99 #[.val (.int k)] [])) rfl (hb hby d1_99)
                        refine own_by st22 ?_
                        show own_Go p e below s _ _ (T22.setTop (mkF m 102 #[.val (.int k)] [(.ref (w 10))]))
                        refine own_retA X22 hx hlk (t := (.object "com/example/rentefot/rentefot/Term")) hret rfl rfl (hb hby d1_102) ?_ (by decide) (by decide)
                        exact ⟨by simp [own_pk, hc1_1, hc10_3, hc19_5, hc28_7, hc37_9, hc46_11, hc56_13, hc66_15, hc76_17, hc86_19, hc96_21], N0, e22⟩
                      · refine own_by (fun tz kz => XS.icmpYes X0.here hx rfl (pc0 := 96) (pc' := 103) rfl (hb hby d1_96) rfl (feq hc96_21).2 (by decide) (by decide) kz) ?_
                        show own_Go p e below s _ _ (s₁.setTop (mkF m 103 #[.val (.int k)] []))
                        refine own_by (fun tz kz => XS.iloadN X0.here hx rfl (hb hby d1_103) rfl  kz) ?_
                        show own_Go p e below s _ _ (s₁.setTop (mkF m 104 #[.val (.int k)] [(.int k)]))
                        refine own_by (fun tz kz => XS.bipush X0.here hx rfl (hb hby d1_104) kz) ?_
                        show own_Go p e below s _ _ (s₁.setTop (mkF m 106 #[.val (.int k)] [(.int (11 : Int32)), (.int k)]))
                        by_cases hc106_23 : k = (11 : Int32)
                        · refine own_by (fun tz kz => XS.icmpNo X0.here hx rfl (hb hby d1_106) rfl (teq hc106_23).2 kz) ?_
                          show own_Go p e below s _ _ (s₁.setTop (mkF m 109 #[.val (.int k)] []))
                          obtain ⟨T24, X24, e24, st24⟩ := getS2 X0 hx hZ hown (host := "") (Or.inl (hw _ (List.mem_of_getElem? (i := 31) rfl))) Via.refl e0 S_11 (g := (mkF m 109 #[.val (.int k)] [])) rfl (hb hby d1_109)
                          refine own_by st24 ?_
                          show own_Go p e below s _ _ (T24.setTop (mkF m 112 #[.val (.int k)] [(.ref (w 11))]))
                          refine own_retA X24 hx hlk (t := (.object "com/example/rentefot/rentefot/Term")) hret rfl rfl (hb hby d1_112) ?_ (by decide) (by decide)
                          exact ⟨by simp [own_pk, hc1_1, hc10_3, hc19_5, hc28_7, hc37_9, hc46_11, hc56_13, hc66_15, hc76_17, hc86_19, hc96_21, hc106_23], N0, e24⟩
                        · refine own_by (fun tz kz => XS.icmpYes X0.here hx rfl (pc0 := 106) (pc' := 113) rfl (hb hby d1_106) rfl (feq hc106_23).2 (by decide) (by decide) kz) ?_
                          show own_Go p e below s _ _ (s₁.setTop (mkF m 113 #[.val (.int k)] []))
                          refine own_by (fun tz kz => XS.iloadN X0.here hx rfl (hb hby d1_113) rfl  kz) ?_
                          show own_Go p e below s _ _ (s₁.setTop (mkF m 114 #[.val (.int k)] [(.int k)]))
                          refine own_by (fun tz kz => XS.bipush X0.here hx rfl (hb hby d1_114) kz) ?_
                          show own_Go p e below s _ _ (s₁.setTop (mkF m 116 #[.val (.int k)] [(.int (12 : Int32)), (.int k)]))
                          by_cases hc116_25 : k = (12 : Int32)
                          · refine own_by (fun tz kz => XS.icmpNo X0.here hx rfl (hb hby d1_116) rfl (teq hc116_25).2 kz) ?_
                            show own_Go p e below s _ _ (s₁.setTop (mkF m 119 #[.val (.int k)] []))
                            obtain ⟨T26, X26, e26, st26⟩ := getS2 X0 hx hZ hown (host := "") (Or.inl (hw _ (List.mem_of_getElem? (i := 46) rfl))) Via.refl e0 S_12 (g := (mkF m 119 #[.val (.int k)] [])) rfl (hb hby d1_119)
                            refine own_by st26 ?_
                            show own_Go p e below s _ _ (T26.setTop (mkF m 122 #[.val (.int k)] [(.ref (w 12))]))
                            refine own_retA X26 hx hlk (t := (.object "com/example/rentefot/rentefot/Term")) hret rfl rfl (hb hby d1_122) ?_ (by decide) (by decide)
                            exact ⟨by simp [own_pk, hc1_1, hc10_3, hc19_5, hc28_7, hc37_9, hc46_11, hc56_13, hc66_15, hc76_17, hc86_19, hc96_21, hc106_23, hc116_25], N0, e26⟩
                          · refine own_by (fun tz kz => XS.icmpYes X0.here hx rfl (pc0 := 116) (pc' := 123) rfl (hb hby d1_116) rfl (feq hc116_25).2 (by decide) (by decide) kz) ?_
                            show own_Go p e below s _ _ (s₁.setTop (mkF m 123 #[.val (.int k)] []))
                            refine own_by (fun tz kz => XS.iloadN X0.here hx rfl (hb hby d1_123) rfl  kz) ?_
                            show own_Go p e below s _ _ (s₁.setTop (mkF m 124 #[.val (.int k)] [(.int k)]))
                            refine own_by (fun tz kz => XS.bipush X0.here hx rfl (hb hby d1_124) kz) ?_
                            show own_Go p e below s _ _ (s₁.setTop (mkF m 126 #[.val (.int k)] [(.int (13 : Int32)), (.int k)]))
                            by_cases hc126_27 : k = (13 : Int32)
                            · refine own_by (fun tz kz => XS.icmpNo X0.here hx rfl (hb hby d1_126) rfl (teq hc126_27).2 kz) ?_
                              show own_Go p e below s _ _ (s₁.setTop (mkF m 129 #[.val (.int k)] []))
                              obtain ⟨T28, X28, e28, st28⟩ := getS2 X0 hx hZ hown (host := "") (Or.inl (hw _ (List.mem_of_getElem? (i := 35) rfl))) Via.refl e0 S_13 (g := (mkF m 129 #[.val (.int k)] [])) rfl (hb hby d1_129)
                              refine own_by st28 ?_
                              show own_Go p e below s _ _ (T28.setTop (mkF m 132 #[.val (.int k)] [(.ref (w 13))]))
                              refine own_retA X28 hx hlk (t := (.object "com/example/rentefot/rentefot/Term")) hret rfl rfl (hb hby d1_132) ?_ (by decide) (by decide)
                              exact ⟨by simp [own_pk, hc1_1, hc10_3, hc19_5, hc28_7, hc37_9, hc46_11, hc56_13, hc66_15, hc76_17, hc86_19, hc96_21, hc106_23, hc116_25, hc126_27], N0, e28⟩
                            · refine own_by (fun tz kz => XS.icmpYes X0.here hx rfl (pc0 := 126) (pc' := 133) rfl (hb hby d1_126) rfl (feq hc126_27).2 (by decide) (by decide) kz) ?_
                              show own_Go p e below s _ _ (s₁.setTop (mkF m 133 #[.val (.int k)] []))
                              refine own_by (fun tz kz => XS.iloadN X0.here hx rfl (hb hby d1_133) rfl  kz) ?_
                              show own_Go p e below s _ _ (s₁.setTop (mkF m 134 #[.val (.int k)] [(.int k)]))
                              refine own_by (fun tz kz => XS.bipush X0.here hx rfl (hb hby d1_134) kz) ?_
                              show own_Go p e below s _ _ (s₁.setTop (mkF m 136 #[.val (.int k)] [(.int (14 : Int32)), (.int k)]))
                              by_cases hc136_29 : k = (14 : Int32)
                              · refine own_by (fun tz kz => XS.icmpNo X0.here hx rfl (hb hby d1_136) rfl (teq hc136_29).2 kz) ?_
                                show own_Go p e below s _ _ (s₁.setTop (mkF m 139 #[.val (.int k)] []))
                                obtain ⟨T30, X30, e30, st30⟩ := getS2 X0 hx hZ hown (host := "") (Or.inl (hw _ (List.mem_of_getElem? (i := 45) rfl))) Via.refl e0 S_14 (g := (mkF m 139 #[.val (.int k)] [])) rfl (hb hby d1_139)
                                refine own_by st30 ?_
                                show own_Go p e below s _ _ (T30.setTop (mkF m 142 #[.val (.int k)] [(.ref (w 14))]))
                                refine own_retA X30 hx hlk (t := (.object "com/example/rentefot/rentefot/Term")) hret rfl rfl (hb hby d1_142) ?_ (by decide) (by decide)
                                exact ⟨by simp [own_pk, hc1_1, hc10_3, hc19_5, hc28_7, hc37_9, hc46_11, hc56_13, hc66_15, hc76_17, hc86_19, hc96_21, hc106_23, hc116_25, hc126_27, hc136_29], N0, e30⟩
                              · refine own_by (fun tz kz => XS.icmpYes X0.here hx rfl (pc0 := 136) (pc' := 143) rfl (hb hby d1_136) rfl (feq hc136_29).2 (by decide) (by decide) kz) ?_
                                show own_Go p e below s _ _ (s₁.setTop (mkF m 143 #[.val (.int k)] []))
                                refine own_by (fun tz kz => XS.iloadN X0.here hx rfl (hb hby d1_143) rfl  kz) ?_
                                show own_Go p e below s _ _ (s₁.setTop (mkF m 144 #[.val (.int k)] [(.int k)]))
                                refine own_by (fun tz kz => XS.bipush X0.here hx rfl (hb hby d1_144) kz) ?_
                                show own_Go p e below s _ _ (s₁.setTop (mkF m 146 #[.val (.int k)] [(.int (15 : Int32)), (.int k)]))
                                by_cases hc146_31 : k = (15 : Int32)
                                · refine own_by (fun tz kz => XS.icmpNo X0.here hx rfl (hb hby d1_146) rfl (teq hc146_31).2 kz) ?_
                                  show own_Go p e below s _ _ (s₁.setTop (mkF m 149 #[.val (.int k)] []))
                                  obtain ⟨T32, X32, e32, st32⟩ := getS2 X0 hx hZ hown (host := "") (Or.inl (hw _ (List.mem_of_getElem? (i := 42) rfl))) Via.refl e0 S_15 (g := (mkF m 149 #[.val (.int k)] [])) rfl (hb hby d1_149)
                                  refine own_by st32 ?_
                                  show own_Go p e below s _ _ (T32.setTop (mkF m 152 #[.val (.int k)] [(.ref (w 15))]))
                                  refine own_retA X32 hx hlk (t := (.object "com/example/rentefot/rentefot/Term")) hret rfl rfl (hb hby d1_152) ?_ (by decide) (by decide)
                                  exact ⟨by simp [own_pk, hc1_1, hc10_3, hc19_5, hc28_7, hc37_9, hc46_11, hc56_13, hc66_15, hc76_17, hc86_19, hc96_21, hc106_23, hc116_25, hc126_27, hc136_29, hc146_31], N0, e32⟩
                                · refine own_by (fun tz kz => XS.icmpYes X0.here hx rfl (pc0 := 146) (pc' := 153) rfl (hb hby d1_146) rfl (feq hc146_31).2 (by decide) (by decide) kz) ?_
                                  show own_Go p e below s _ _ (s₁.setTop (mkF m 153 #[.val (.int k)] []))
                                  obtain ⟨T33, X33, e33, st33⟩ := getS2 X0 hx hZ hown (host := "") (Or.inl (hw _ (List.mem_of_getElem? (i := 41) rfl))) Via.refl e0 S_16 (g := (mkF m 153 #[.val (.int k)] [])) rfl (hb hby d1_153)
                                  refine own_by st33 ?_
                                  show own_Go p e below s _ _ (T33.setTop (mkF m 156 #[.val (.int k)] [(.ref (w 16))]))
                                  refine own_retA X33 hx hlk (t := (.object "com/example/rentefot/rentefot/Term")) hret rfl rfl (hb hby d1_156) ?_ (by decide) (by decide)
                                  exact ⟨by simp [own_pk, hc1_1, hc10_3, hc19_5, hc28_7, hc37_9, hc46_11, hc56_13, hc66_15, hc76_17, hc86_19, hc96_21, hc106_23, hc116_25, hc126_27, hc136_29, hc146_31], N0, e33⟩
def Q_rm_opt (Z : State) (a : Addr) (w : Nat → Addr) (r : Int32) (h0 : Heap) (n0 : Nat) (v : Option Value) (h : Heap) (L : List Loc) : Prop := v = some (.int r) ∧ Fr n0 L ∧ h = h0
set_option maxRecDepth 65536 in
set_option maxHeartbeats 40000000 in
theorem rm_opt (l : Launch) (Z : State) (a0 : Array Value) (hw : ∀ d ∈ tables_1, d.before a0 Z = true) (ws : List Jvm.Cond) (a : Addr) (w : Nat → Addr) (r : Int32) (h0 : Heap) (n0 : Nat) (S_14 : Sta Z h0 "com/example/rentefot/rentefot/Term" "TRANCHES" "Lcom/example/rentefot/rentefot/Term;" (.ref (w 14))) (S_15 : Sta Z h0 "com/example/rentefot/rentefot/Term" "OUTSTANDING" "Lcom/example/rentefot/rentefot/Term;" (.ref (w 15))) (S_16 : Sta Z h0 "com/example/rentefot/rentefot/Term" "AGREEMENT_TEXT" "Lcom/example/rentefot/rentefot/Term;" (.ref (w 16))) (hr : r = if a = w 14 ∨ a = w 15 ∨ a = w 16 then (1 : Int32) else (0 : Int32)) :
    MetFree l (⟨"com/example/rentefot/rentefot/Term", "isOptional", "()Z"⟩ : MethodName) (head1 (Jvm.Cond.code (⟨"com/example/rentefot/rentefot/Term", "isOptional", "()Z"⟩ : MethodName) prog_35_method_5_code 1 (some .boolean) :: ws) ({ frames := 0, cells := 0, slots := 0, locals := 0 } : Room)) (fun ar U => ar = #[(.ref a)] ∧ Z.Warmed39 U.vm ∧ U.heap = h0) (fun _ _ _ _ _ => True) (fun _ U o U' => ∃ v L, o = .returned v ∧ Q_rm_opt Z a w r h0 n0 v U'.heap L ∧ FrameEnd U o U' L ({ frames := 0, cells := 0, slots := 0, locals := 0 } : Room).cells ({ frames := 0, cells := 0, slots := 0, locals := 0 } : Room).slots) := by
  refine own_enter (Q := (Q_rm_opt Z a w r h0 n0)) pl_2 ?_
  intro p e s m below meth c s₁ X0 hx hZ hby hml hown hnm hret hlk e0
  have N0 := Fr.nil n0
  refine own_by (fun tz kz => castTop (g' := (mkF m 0 #[.val (.ref a)] [])) (by first | rfl | (simp [entryFrame, mkF, argsToLocals, Value.category]; done)) kz) ?_
  show own_Go p e below s _ _ (s₁.setTop (mkF m 0 #[.val (.ref a)] []))
  refine own_by (fun tz kz => XS.aloadN X0.here hx rfl (hb hby d2_0) rfl rfl kz) ?_
  show own_Go p e below s _ _ (s₁.setTop (mkF m 1 #[.val (.ref a)] [(.ref a)]))
  obtain ⟨T1, X1, e1, st1⟩ := getS2 X0 hx hZ hown (host := "") (Or.inl (hw _ (List.mem_of_getElem? (i := 13) rfl))) Via.refl e0 S_14 (g := (mkF m 1 #[.val (.ref a)] [(.ref a)])) rfl (hb hby d2_1)
  refine own_by st1 ?_
  show own_Go p e below s _ _ (T1.setTop (mkF m 4 #[.val (.ref a)] [(.ref (w 14)), (.ref a)]))
  by_cases hc4_2 : a = (w 14)
  · refine own_by (fun tz kz => Jvm.RoadKit.acmp (g := (mkF m 4 #[.val (.ref a)] [(.ref (w 14)), (.ref a)])) X1 hx rfl rfl rfl (pc0 := 4) (pc' := 21) (same := true) rfl (hb hby d2_4) rfl (decide_eq_true (congrArg Value.ref hc4_2)) (by decide) (by decide) kz) ?_
    show own_Go p e below s _ _ (T1.setTop (mkF m 21 #[.val (.ref a)] []))
    refine own_by (fun tz kz => XS.iconst X1.here hx rfl (hb hby d2_21) kz) ?_
    show own_Go p e below s _ _ (T1.setTop (mkF m 22 #[.val (.ref a)] [(.int (1 : Int32))]))
    refine own_by (fun tz kz => XS.goto X1.here hx rfl (pc0 := 22) (pc' := 26) rfl (hb hby d2_22) (by decide) (by decide) kz) ?_
    show own_Go p e below s _ _ (T1.setTop (mkF m 26 #[.val (.ref a)] [(.int (1 : Int32))]))
    refine own_retI X1 hx hlk (t := .boolean) hret (by simp) rfl (hb hby d2_26) ?_ (by decide) (by decide)
    exact ⟨by simp [hr, hc4_2], N0, e1⟩
  · refine own_by (fun tz kz => Jvm.RoadKit.acmp (g := (mkF m 4 #[.val (.ref a)] [(.ref (w 14)), (.ref a)])) X1 hx rfl rfl rfl (pc0 := 4) (pc' := 7) (same := false) rfl (hb hby d2_4) rfl (decide_eq_false fun q => hc4_2 (Value.ref.inj q)) (by decide) (by decide) kz) ?_
    show own_Go p e below s _ _ (T1.setTop (mkF m 7 #[.val (.ref a)] []))
    refine own_by (fun tz kz => XS.aloadN X1.here hx rfl (hb hby d2_7) rfl rfl kz) ?_
    show own_Go p e below s _ _ (T1.setTop (mkF m 8 #[.val (.ref a)] [(.ref a)]))
    obtain ⟨T3, X3, e3, st3⟩ := getS2 X1 hx hZ hown (host := "") (Or.inl (hw _ (List.mem_of_getElem? (i := 15) rfl))) Via.refl e1 S_15 (g := (mkF m 8 #[.val (.ref a)] [(.ref a)])) rfl (hb hby d2_8)
    refine own_by st3 ?_
    show own_Go p e below s _ _ (T3.setTop (mkF m 11 #[.val (.ref a)] [(.ref (w 15)), (.ref a)]))
    by_cases hc11_4 : a = (w 15)
    · refine own_by (fun tz kz => Jvm.RoadKit.acmp (g := (mkF m 11 #[.val (.ref a)] [(.ref (w 15)), (.ref a)])) X3 hx rfl rfl rfl (pc0 := 11) (pc' := 21) (same := true) rfl (hb hby d2_11) rfl (decide_eq_true (congrArg Value.ref hc11_4)) (by decide) (by decide) kz) ?_
      show own_Go p e below s _ _ (T3.setTop (mkF m 21 #[.val (.ref a)] []))
      refine own_by (fun tz kz => XS.iconst X3.here hx rfl (hb hby d2_21) kz) ?_
      show own_Go p e below s _ _ (T3.setTop (mkF m 22 #[.val (.ref a)] [(.int (1 : Int32))]))
      refine own_by (fun tz kz => XS.goto X3.here hx rfl (pc0 := 22) (pc' := 26) rfl (hb hby d2_22) (by decide) (by decide) kz) ?_
      show own_Go p e below s _ _ (T3.setTop (mkF m 26 #[.val (.ref a)] [(.int (1 : Int32))]))
      refine own_retI X3 hx hlk (t := .boolean) hret (by simp) rfl (hb hby d2_26) ?_ (by decide) (by decide)
      exact ⟨by simp [hr, hc4_2, hc11_4], N0, e3⟩
    · refine own_by (fun tz kz => Jvm.RoadKit.acmp (g := (mkF m 11 #[.val (.ref a)] [(.ref (w 15)), (.ref a)])) X3 hx rfl rfl rfl (pc0 := 11) (pc' := 14) (same := false) rfl (hb hby d2_11) rfl (decide_eq_false fun q => hc11_4 (Value.ref.inj q)) (by decide) (by decide) kz) ?_
      show own_Go p e below s _ _ (T3.setTop (mkF m 14 #[.val (.ref a)] []))
      refine own_by (fun tz kz => XS.aloadN X3.here hx rfl (hb hby d2_14) rfl rfl kz) ?_
      show own_Go p e below s _ _ (T3.setTop (mkF m 15 #[.val (.ref a)] [(.ref a)]))
      obtain ⟨T5, X5, e5, st5⟩ := getS2 X3 hx hZ hown (host := "") (Or.inl (hw _ (List.mem_of_getElem? (i := 17) rfl))) Via.refl e3 S_16 (g := (mkF m 15 #[.val (.ref a)] [(.ref a)])) rfl (hb hby d2_15)
      refine own_by st5 ?_
      show own_Go p e below s _ _ (T5.setTop (mkF m 18 #[.val (.ref a)] [(.ref (w 16)), (.ref a)]))
      by_cases hc18_6 : a = (w 16)
      · refine own_by (fun tz kz => Jvm.RoadKit.acmp (g := (mkF m 18 #[.val (.ref a)] [(.ref (w 16)), (.ref a)])) X5 hx rfl rfl rfl (pc0 := 18) (pc' := 21) (same := true) rfl (hb hby d2_18) rfl (decide_eq_true (congrArg Value.ref hc18_6)) (by decide) (by decide) kz) ?_
        show own_Go p e below s _ _ (T5.setTop (mkF m 21 #[.val (.ref a)] []))
        refine own_by (fun tz kz => XS.iconst X5.here hx rfl (hb hby d2_21) kz) ?_
        show own_Go p e below s _ _ (T5.setTop (mkF m 22 #[.val (.ref a)] [(.int (1 : Int32))]))
        refine own_by (fun tz kz => XS.goto X5.here hx rfl (pc0 := 22) (pc' := 26) rfl (hb hby d2_22) (by decide) (by decide) kz) ?_
        show own_Go p e below s _ _ (T5.setTop (mkF m 26 #[.val (.ref a)] [(.int (1 : Int32))]))
        refine own_retI X5 hx hlk (t := .boolean) hret (by simp) rfl (hb hby d2_26) ?_ (by decide) (by decide)
        exact ⟨by simp [hr, hc4_2, hc11_4, hc18_6], N0, e5⟩
      · refine own_by (fun tz kz => Jvm.RoadKit.acmp (g := (mkF m 18 #[.val (.ref a)] [(.ref (w 16)), (.ref a)])) X5 hx rfl rfl rfl (pc0 := 18) (pc' := 25) (same := false) rfl (hb hby d2_18) rfl (decide_eq_false fun q => hc18_6 (Value.ref.inj q)) (by decide) (by decide) kz) ?_
        show own_Go p e below s _ _ (T5.setTop (mkF m 25 #[.val (.ref a)] []))
        refine own_by (fun tz kz => XS.iconst X5.here hx rfl (hb hby d2_25) kz) ?_
        show own_Go p e below s _ _ (T5.setTop (mkF m 26 #[.val (.ref a)] [(.int (0 : Int32))]))
        refine own_retI X5 hx hlk (t := .boolean) hret (by simp) rfl (hb hby d2_26) ?_ (by decide) (by decide)
        exact ⟨by simp [hr, hc4_2, hc11_4, hc18_6], N0, e5⟩
def Q_rm0 (Z : State) (p0 : Int32) (w : Nat → Addr) (h0 : Heap) (n0 : Nat) (v : Option Value) (h : Heap) (L : List Loc) : Prop := v = some (.int 1) ∧ Fr n0 L
set_option maxRecDepth 65536 in
set_option maxHeartbeats 40000000 in
theorem rm0 (l : Launch) (Z : State) (a0 : Array Value) (hw : ∀ d ∈ tables_1, d.before a0 Z = true) (ws : List Jvm.Cond) (p0 : Int32) (w : Nat → Addr) (h0 : Heap) (n0 : Nat) (S_0 : Sta Z h0 "com/example/rentefot/rentefot/Term" "ISIN" "Lcom/example/rentefot/rentefot/Term;" (.ref (w 0))) (S_1 : Sta Z h0 "com/example/rentefot/rentefot/Term" "ISSUER" "Lcom/example/rentefot/rentefot/Term;" (.ref (w 1))) (S_2 : Sta Z h0 "com/example/rentefot/rentefot/Term" "NAME" "Lcom/example/rentefot/rentefot/Term;" (.ref (w 2))) (S_3 : Sta Z h0 "com/example/rentefot/rentefot/Term" "CURRENCY" "Lcom/example/rentefot/rentefot/Term;" (.ref (w 3))) (S_4 : Sta Z h0 "com/example/rentefot/rentefot/Term" "FACE" "Lcom/example/rentefot/rentefot/Term;" (.ref (w 4))) (S_5 : Sta Z h0 "com/example/rentefot/rentefot/Term" "INITIAL_AMOUNT" "Lcom/example/rentefot/rentefot/Term;" (.ref (w 5))) (S_6 : Sta Z h0 "com/example/rentefot/rentefot/Term" "MAX_AMOUNT" "Lcom/example/rentefot/rentefot/Term;" (.ref (w 6))) (S_7 : Sta Z h0 "com/example/rentefot/rentefot/Term" "ISSUE_DATE" "Lcom/example/rentefot/rentefot/Term;" (.ref (w 7))) (S_8 : Sta Z h0 "com/example/rentefot/rentefot/Term" "MATURITY_DATE" "Lcom/example/rentefot/rentefot/Term;" (.ref (w 8))) (S_9 : Sta Z h0 "com/example/rentefot/rentefot/Term" "REDEMPTION_PRICE" "Lcom/example/rentefot/rentefot/Term;" (.ref (w 9))) (S_10 : Sta Z h0 "com/example/rentefot/rentefot/Term" "RATE" "Lcom/example/rentefot/rentefot/Term;" (.ref (w 10))) (S_11 : Sta Z h0 "com/example/rentefot/rentefot/Term" "PAYMENT_DATES" "Lcom/example/rentefot/rentefot/Term;" (.ref (w 11))) (S_12 : Sta Z h0 "com/example/rentefot/rentefot/Term" "DAY_COUNT" "Lcom/example/rentefot/rentefot/Term;" (.ref (w 12))) (S_13 : Sta Z h0 "com/example/rentefot/rentefot/Term" "BUSINESS_DAY_CONVENTION" "Lcom/example/rentefot/rentefot/Term;" (.ref (w 13))) (S_14 : Sta Z h0 "com/example/rentefot/rentefot/Term" "TRANCHES" "Lcom/example/rentefot/rentefot/Term;" (.ref (w 14))) (S_15 : Sta Z h0 "com/example/rentefot/rentefot/Term" "OUTSTANDING" "Lcom/example/rentefot/rentefot/Term;" (.ref (w 15))) (S_16 : Sta Z h0 "com/example/rentefot/rentefot/Term" "AGREEMENT_TEXT" "Lcom/example/rentefot/rentefot/Term;" (.ref (w 16))) (hE : ∀ k, Exa Z h0 (own_pk w k) "com/example/rentefot/rentefot/Term") (hi : ∀ i j, i < 17 → j < 17 → i ≠ j → w i ≠ w j) (hk : ((p0 &&& (2147483647 : Int32)) % (17 : Int32)) = (0 : Int32) ∨ ((p0 &&& (2147483647 : Int32)) % (17 : Int32)) = (1 : Int32) ∨ ((p0 &&& (2147483647 : Int32)) % (17 : Int32)) = (2 : Int32) ∨ ((p0 &&& (2147483647 : Int32)) % (17 : Int32)) = (3 : Int32) ∨ ((p0 &&& (2147483647 : Int32)) % (17 : Int32)) = (4 : Int32) ∨ ((p0 &&& (2147483647 : Int32)) % (17 : Int32)) = (5 : Int32) ∨ ((p0 &&& (2147483647 : Int32)) % (17 : Int32)) = (6 : Int32) ∨ ((p0 &&& (2147483647 : Int32)) % (17 : Int32)) = (7 : Int32) ∨ ((p0 &&& (2147483647 : Int32)) % (17 : Int32)) = (8 : Int32) ∨ ((p0 &&& (2147483647 : Int32)) % (17 : Int32)) = (9 : Int32) ∨ ((p0 &&& (2147483647 : Int32)) % (17 : Int32)) = (10 : Int32) ∨ ((p0 &&& (2147483647 : Int32)) % (17 : Int32)) = (11 : Int32) ∨ ((p0 &&& (2147483647 : Int32)) % (17 : Int32)) = (12 : Int32) ∨ ((p0 &&& (2147483647 : Int32)) % (17 : Int32)) = (13 : Int32) ∨ ((p0 &&& (2147483647 : Int32)) % (17 : Int32)) = (14 : Int32) ∨ ((p0 &&& (2147483647 : Int32)) % (17 : Int32)) = (15 : Int32) ∨ ((p0 &&& (2147483647 : Int32)) % (17 : Int32)) = (16 : Int32)) :
    MetFree l x (head1 (Jvm.Cond.code x code maxLocals ret :: ws) room_1) (fun ar U => ar = #[(.int p0)] ∧ Z.Warmed39 U.vm ∧ U.heap = h0) (fun _ _ _ _ _ => True) (fun _ U o U' => ∃ v L, o = .returned v ∧ Q_rm0 Z p0 w h0 n0 v U'.heap L ∧ FrameEnd U o U' L room_1.cells room_1.slots) := by
  refine own_enter (Q := (Q_rm0 Z p0 w h0 n0)) pl_0 ?_
  intro p e s m below meth c s₁ X0 hx hZ hby hml hown hnm hret hlk e0
  have N0 := Fr.nil n0
  refine own_by (fun tz kz => castTop (g' := (mkF m 0 #[.val (.int p0), .unset, .unset, .unset] [])) (by first | rfl | (simp [entryFrame, mkF, argsToLocals, Value.category, maxLocals]; done)) kz) ?_
  show own_Go p e below s _ _ (s₁.setTop (mkF m 0 #[.val (.int p0), .unset, .unset, .unset] []))
  refine own_by (fun tz kz => XS.iloadN X0.here hx rfl (hb hby at_0) rfl  kz) ?_
  show own_Go p e below s _ _ (s₁.setTop (mkF m 1 #[.val (.int p0), .unset, .unset, .unset] [(.int p0)]))
  refine own_by (fun tz kz => X0.ldcInt hx hown (mvT hZ (hw _ (List.mem_of_getElem? (i := 0) rfl))) (g := (mkF m 1 #[.val (.int p0), .unset, .unset, .unset] [(.int p0)])) rfl (hb hby at_1) _ kz) ?_
  show own_Go p e below s _ _ (s₁.setTop (mkF m 3 #[.val (.int p0), .unset, .unset, .unset] [(.int (2147483647 : Int32)), (.int p0)]))
  refine own_by (fun tz kz => XS.iand X0.here hx rfl (hb hby at_3) rfl kz) ?_
  show own_Go p e below s _ _ (s₁.setTop (mkF m 4 #[.val (.int p0), .unset, .unset, .unset] [(.int (p0 &&& (2147483647 : Int32)))]))
  refine own_by (fun tz kz => XS.bipush X0.here hx rfl (hb hby at_4) kz) ?_
  show own_Go p e below s _ _ (s₁.setTop (mkF m 6 #[.val (.int p0), .unset, .unset, .unset] [(.int (17 : Int32)), (.int (p0 &&& (2147483647 : Int32)))]))
  refine own_by (fun tz kz => iremM X0 hx rfl (hb hby at_6) rfl (by decide) kz) ?_
  show own_Go p e below s _ _ (s₁.setTop (mkF m 7 #[.val (.int p0), .unset, .unset, .unset] [(.int ((p0 &&& (2147483647 : Int32)) % (17 : Int32)))]))
  refine own_by (fun tz kz => XS.istoreN X0.here hx rfl (hb hby at_7) rfl (l' := #[.val (.int p0), .val (.int ((p0 &&& (2147483647 : Int32)) % (17 : Int32))), .unset, .unset]) rfl kz) ?_
  show own_Go p e below s _ _ (s₁.setTop (mkF m 8 #[.val (.int p0), .val (.int ((p0 &&& (2147483647 : Int32)) % (17 : Int32))), .unset, .unset] []))
  refine own_by (fun tz kz => XS.iloadN X0.here hx rfl (hb hby at_8) rfl  kz) ?_
  show own_Go p e below s _ _ (s₁.setTop (mkF m 9 #[.val (.int p0), .val (.int ((p0 &&& (2147483647 : Int32)) % (17 : Int32))), .unset, .unset] [(.int ((p0 &&& (2147483647 : Int32)) % (17 : Int32)))]))
  obtain ⟨_, _, ⟨T1, L1, k1, n1⟩, -, X1, ⟨Lc1, hQ1, l1, y1, z1⟩, st1⟩ := Jvm.LawKit.callS X0 hx (y := (⟨"com/example/rentefot/rentefot/TermIsOptionalPinLaw", "pick", "(I)Lcom/example/rentefot/rentefot/Term;"⟩ : MethodName)) hown (mvT hZ (hw _ (List.mem_of_getElem? (i := 1) rfl))) (mvT hZ (hw _ (List.mem_of_getElem? (i := 2) rfl))) (mvT hZ (hw _ (List.mem_of_getElem? (i := 3) rfl))) (mvT hZ (hw _ (List.mem_of_getElem? (i := 4) rfl))) (by decide) (backOf (W := 0) (rm_pick l Z a0 hw [] ((p0 &&& (2147483647 : Int32)) % (17 : Int32)) w h0 n0 S_0 S_1 S_2 S_3 S_4 S_5 S_6 S_7 S_8 S_9 S_10 S_11 S_12 S_13 S_14 S_15 S_16) hZ (hw _ (List.mem_of_getElem? (i := 4) rfl)) (hw _ (List.mem_of_getElem? (i := 3) rfl)) (by decide) (by decide)) (g := (mkF m 9 #[.val (.int p0), .val (.int ((p0 &&& (2147483647 : Int32)) % (17 : Int32))), .unset, .unset] [(.int ((p0 &&& (2147483647 : Int32)) % (17 : Int32)))])) rfl (by rw [hml]; rfl) (argsL := [(.int ((p0 &&& (2147483647 : Int32)) % (17 : Int32)))]) (rest := []) (lenOf pd_0 rfl) rfl (by show 2 * 0 + _ ≤ _; exact Nat.le_of_eq rfl) (hb hby at_9) (fun _ _ => ⟨rfl, e0, (by decide : 0 + 0 ≤ _), (by decide : 0 + 0 ≤ _)⟩)
  dsimp only [Pt.U, Pt.locs, Pt.cells, Pt.slots] at X1 l1 y1 z1 st1 hQ1
  subst l1 y1 z1
  obtain ⟨rfl, Nq1, e1⟩ := hQ1
  have N1 := Fr.app N0 Nq1
  refine own_by st1 ?_
  show own_Go p e below s _ _ (T1.setTop (mkF m 12 #[.val (.int p0), .val (.int ((p0 &&& (2147483647 : Int32)) % (17 : Int32))), .unset, .unset] [(.ref (own_pk w ((p0 &&& (2147483647 : Int32)) % (17 : Int32))))]))
  refine own_by (fun tz kz => XS.astoreN X1.here hx rfl (hb hby at_12) rfl rfl (l' := #[.val (.int p0), .val (.int ((p0 &&& (2147483647 : Int32)) % (17 : Int32))), .val (.ref (own_pk w ((p0 &&& (2147483647 : Int32)) % (17 : Int32)))), .unset]) rfl kz) ?_
  show own_Go p e below s _ _ (T1.setTop (mkF m 13 #[.val (.int p0), .val (.int ((p0 &&& (2147483647 : Int32)) % (17 : Int32))), .val (.ref (own_pk w ((p0 &&& (2147483647 : Int32)) % (17 : Int32)))), .unset] []))
  refine own_by (fun tz kz => XS.iloadN X1.here hx rfl (hb hby at_13) rfl  kz) ?_
  show own_Go p e below s _ _ (T1.setTop (mkF m 14 #[.val (.int p0), .val (.int ((p0 &&& (2147483647 : Int32)) % (17 : Int32))), .val (.ref (own_pk w ((p0 &&& (2147483647 : Int32)) % (17 : Int32)))), .unset] [(.int ((p0 &&& (2147483647 : Int32)) % (17 : Int32)))]))
  refine own_by (fun tz kz => XS.bipush X1.here hx rfl (hb hby at_14) kz) ?_
  show own_Go p e below s _ _ (T1.setTop (mkF m 16 #[.val (.int p0), .val (.int ((p0 &&& (2147483647 : Int32)) % (17 : Int32))), .val (.ref (own_pk w ((p0 &&& (2147483647 : Int32)) % (17 : Int32)))), .unset] [(.int (14 : Int32)), (.int ((p0 &&& (2147483647 : Int32)) % (17 : Int32)))]))
  by_cases hc16_2 : ((p0 &&& (2147483647 : Int32)) % (17 : Int32)) < (14 : Int32)
  · refine own_by (fun tz kz => XS.icmpYes X1.here hx rfl (pc0 := 16) (pc' := 23) rfl (hb hby at_16) rfl (tlt hc16_2).1 (by decide) (by decide) kz) ?_
    show own_Go p e below s _ _ (T1.setTop (mkF m 23 #[.val (.int p0), .val (.int ((p0 &&& (2147483647 : Int32)) % (17 : Int32))), .val (.ref (own_pk w ((p0 &&& (2147483647 : Int32)) % (17 : Int32)))), .unset] []))
    refine own_by (fun tz kz => XS.iconst X1.here hx rfl (hb hby at_23) kz) ?_
    show own_Go p e below s _ _ (T1.setTop (mkF m 24 #[.val (.int p0), .val (.int ((p0 &&& (2147483647 : Int32)) % (17 : Int32))), .val (.ref (own_pk w ((p0 &&& (2147483647 : Int32)) % (17 : Int32)))), .unset] [(.int (0 : Int32))]))
    refine own_by (fun tz kz => XS.istoreN X1.here hx rfl (hb hby at_24) rfl (l' := #[.val (.int p0), .val (.int ((p0 &&& (2147483647 : Int32)) % (17 : Int32))), .val (.ref (own_pk w ((p0 &&& (2147483647 : Int32)) % (17 : Int32)))), .val (.int (0 : Int32))]) rfl kz) ?_
    show own_Go p e below s _ _ (T1.setTop (mkF m 25 #[.val (.int p0), .val (.int ((p0 &&& (2147483647 : Int32)) % (17 : Int32))), .val (.ref (own_pk w ((p0 &&& (2147483647 : Int32)) % (17 : Int32)))), .val (.int (0 : Int32))] []))
    refine own_by (fun tz kz => XS.aloadN X1.here hx rfl (hb hby at_25) rfl rfl kz) ?_
    show own_Go p e below s _ _ (T1.setTop (mkF m 26 #[.val (.int p0), .val (.int ((p0 &&& (2147483647 : Int32)) % (17 : Int32))), .val (.ref (own_pk w ((p0 &&& (2147483647 : Int32)) % (17 : Int32)))), .val (.int (0 : Int32))] [(.ref (own_pk w ((p0 &&& (2147483647 : Int32)) % (17 : Int32))))]))
    obtain ⟨cq3, kq3, q3a, q3b, q3c⟩ := isOf hZ e1 (hE ((p0 &&& (2147483647 : Int32)) % (17 : Int32)))
    obtain ⟨_, _, ⟨T3, L3, k3, n3⟩, -, X3, ⟨Lc3, hQ3, l3, y3, z3⟩, st3⟩ := X1.virtualBack hx (y := (⟨"com/example/rentefot/rentefot/Term", "isOptional", "()Z"⟩ : MethodName)) (z := (⟨"com/example/rentefot/rentefot/Term", "isOptional", "()Z"⟩ : MethodName)) hown (mvT hZ (hw _ (List.mem_of_getElem? (i := 8) rfl))) (mvT hZ (hw _ (List.mem_of_getElem? (i := 9) rfl))) (notFace_of_selects (args := #[]) (mvT hZ (hw _ (List.mem_of_getElem? (i := 11) rfl)))) (mvT hZ (hw _ (List.mem_of_getElem? (i := 11) rfl))) (mvT hZ (hw _ (List.mem_of_getElem? (i := 10) rfl))) (by decide) (backOf (W := 0) (rm_opt l Z a0 hw [] (own_pk w ((p0 &&& (2147483647 : Int32)) % (17 : Int32))) w (0 : Int32) h0 n0 S_14 S_15 S_16 (by rw [own_opt w hi _ hk]; rw [if_pos hc16_2])) hZ (hw _ (List.mem_of_getElem? (i := 12) rfl)) (hw _ (List.mem_of_getElem? (i := 6) rfl)) (by decide) (by decide)) q3a q3c (g := (mkF m 26 #[.val (.int p0), .val (.int ((p0 &&& (2147483647 : Int32)) % (17 : Int32))), .val (.ref (own_pk w ((p0 &&& (2147483647 : Int32)) % (17 : Int32)))), .val (.int (0 : Int32))] [(.ref (own_pk w ((p0 &&& (2147483647 : Int32)) % (17 : Int32))))])) rfl (by rw [hml]; rfl) (Steps.refl _) (argsL := []) (rest := []) (lenOf pd_1 rfl) rfl (by show 2 * 0 + _ ≤ _; exact Nat.le_of_eq rfl) (hb hby at_26) (fun _ _ => ⟨rfl, e1, (by decide : 0 + 0 ≤ _), (by decide : 0 + 0 ≤ _)⟩)
    dsimp only [Pt.U, Pt.locs, Pt.cells, Pt.slots] at X3 l3 y3 z3 st3 hQ3
    subst l3 y3 z3
    obtain ⟨rfl, Nq3, e3⟩ := hQ3
    have N3 := Fr.app N1 Nq3
    refine own_via st3 ?_
    show own_Go p e below s _ _ (T3.setTop (mkF m 29 #[.val (.int p0), .val (.int ((p0 &&& (2147483647 : Int32)) % (17 : Int32))), .val (.ref (own_pk w ((p0 &&& (2147483647 : Int32)) % (17 : Int32)))), .val (.int (0 : Int32))] [(.int (0 : Int32))]))
    refine own_by (fun tz kz => XS.iloadN X3.here hx rfl (hb hby at_29) rfl  kz) ?_
    show own_Go p e below s _ _ (T3.setTop (mkF m 30 #[.val (.int p0), .val (.int ((p0 &&& (2147483647 : Int32)) % (17 : Int32))), .val (.ref (own_pk w ((p0 &&& (2147483647 : Int32)) % (17 : Int32)))), .val (.int (0 : Int32))] [(.int (0 : Int32)), (.int (0 : Int32))]))
    refine own_by (fun tz kz => XS.icmpNo X3.here hx rfl (hb hby at_30) rfl (teq (by decide : (0 : Int32) = (0 : Int32))).2 kz) ?_
    show own_Go p e below s _ _ (T3.setTop (mkF m 33 #[.val (.int p0), .val (.int ((p0 &&& (2147483647 : Int32)) % (17 : Int32))), .val (.ref (own_pk w ((p0 &&& (2147483647 : Int32)) % (17 : Int32)))), .val (.int (0 : Int32))] []))
    refine own_by (fun tz kz => XS.iconst X3.here hx rfl (hb hby at_33) kz) ?_
    show own_Go p e below s _ _ (T3.setTop (mkF m 34 #[.val (.int p0), .val (.int ((p0 &&& (2147483647 : Int32)) % (17 : Int32))), .val (.ref (own_pk w ((p0 &&& (2147483647 : Int32)) % (17 : Int32)))), .val (.int (0 : Int32))] [(.int (1 : Int32))]))
    refine own_by (fun tz kz => XS.goto X3.here hx rfl (pc0 := 34) (pc' := 38) rfl (hb hby at_34) (by decide) (by decide) kz) ?_
    show own_Go p e below s _ _ (T3.setTop (mkF m 38 #[.val (.int p0), .val (.int ((p0 &&& (2147483647 : Int32)) % (17 : Int32))), .val (.ref (own_pk w ((p0 &&& (2147483647 : Int32)) % (17 : Int32)))), .val (.int (0 : Int32))] [(.int (1 : Int32))]))
    refine own_retI X3 hx hlk (t := .boolean) hret (by simp) rfl (hb hby at_38) ?_ (by decide) (by decide)
    exact ⟨rfl, N3⟩
  · refine own_by (fun tz kz => XS.icmpNo X1.here hx rfl (hb hby at_16) rfl (flt hc16_2).1 kz) ?_
    show own_Go p e below s _ _ (T1.setTop (mkF m 19 #[.val (.int p0), .val (.int ((p0 &&& (2147483647 : Int32)) % (17 : Int32))), .val (.ref (own_pk w ((p0 &&& (2147483647 : Int32)) % (17 : Int32)))), .unset] []))
    refine own_by (fun tz kz => XS.iconst X1.here hx rfl (hb hby at_19) kz) ?_
    show own_Go p e below s _ _ (T1.setTop (mkF m 20 #[.val (.int p0), .val (.int ((p0 &&& (2147483647 : Int32)) % (17 : Int32))), .val (.ref (own_pk w ((p0 &&& (2147483647 : Int32)) % (17 : Int32)))), .unset] [(.int (1 : Int32))]))
    refine own_by (fun tz kz => XS.goto X1.here hx rfl (pc0 := 20) (pc' := 24) rfl (hb hby at_20) (by decide) (by decide) kz) ?_
    show own_Go p e below s _ _ (T1.setTop (mkF m 24 #[.val (.int p0), .val (.int ((p0 &&& (2147483647 : Int32)) % (17 : Int32))), .val (.ref (own_pk w ((p0 &&& (2147483647 : Int32)) % (17 : Int32)))), .unset] [(.int (1 : Int32))]))
    refine own_by (fun tz kz => XS.istoreN X1.here hx rfl (hb hby at_24) rfl (l' := #[.val (.int p0), .val (.int ((p0 &&& (2147483647 : Int32)) % (17 : Int32))), .val (.ref (own_pk w ((p0 &&& (2147483647 : Int32)) % (17 : Int32)))), .val (.int (1 : Int32))]) rfl kz) ?_
    show own_Go p e below s _ _ (T1.setTop (mkF m 25 #[.val (.int p0), .val (.int ((p0 &&& (2147483647 : Int32)) % (17 : Int32))), .val (.ref (own_pk w ((p0 &&& (2147483647 : Int32)) % (17 : Int32)))), .val (.int (1 : Int32))] []))
    refine own_by (fun tz kz => XS.aloadN X1.here hx rfl (hb hby at_25) rfl rfl kz) ?_
    show own_Go p e below s _ _ (T1.setTop (mkF m 26 #[.val (.int p0), .val (.int ((p0 &&& (2147483647 : Int32)) % (17 : Int32))), .val (.ref (own_pk w ((p0 &&& (2147483647 : Int32)) % (17 : Int32)))), .val (.int (1 : Int32))] [(.ref (own_pk w ((p0 &&& (2147483647 : Int32)) % (17 : Int32))))]))
    obtain ⟨cq4, kq4, q4a, q4b, q4c⟩ := isOf hZ e1 (hE ((p0 &&& (2147483647 : Int32)) % (17 : Int32)))
    obtain ⟨_, _, ⟨T4, L4, k4, n4⟩, -, X4, ⟨Lc4, hQ4, l4, y4, z4⟩, st4⟩ := X1.virtualBack hx (y := (⟨"com/example/rentefot/rentefot/Term", "isOptional", "()Z"⟩ : MethodName)) (z := (⟨"com/example/rentefot/rentefot/Term", "isOptional", "()Z"⟩ : MethodName)) hown (mvT hZ (hw _ (List.mem_of_getElem? (i := 8) rfl))) (mvT hZ (hw _ (List.mem_of_getElem? (i := 9) rfl))) (notFace_of_selects (args := #[]) (mvT hZ (hw _ (List.mem_of_getElem? (i := 11) rfl)))) (mvT hZ (hw _ (List.mem_of_getElem? (i := 11) rfl))) (mvT hZ (hw _ (List.mem_of_getElem? (i := 10) rfl))) (by decide) (backOf (W := 0) (rm_opt l Z a0 hw [] (own_pk w ((p0 &&& (2147483647 : Int32)) % (17 : Int32))) w (1 : Int32) h0 n0 S_14 S_15 S_16 (by rw [own_opt w hi _ hk]; rw [if_neg hc16_2])) hZ (hw _ (List.mem_of_getElem? (i := 12) rfl)) (hw _ (List.mem_of_getElem? (i := 6) rfl)) (by decide) (by decide)) q4a q4c (g := (mkF m 26 #[.val (.int p0), .val (.int ((p0 &&& (2147483647 : Int32)) % (17 : Int32))), .val (.ref (own_pk w ((p0 &&& (2147483647 : Int32)) % (17 : Int32)))), .val (.int (1 : Int32))] [(.ref (own_pk w ((p0 &&& (2147483647 : Int32)) % (17 : Int32))))])) rfl (by rw [hml]; rfl) (Steps.refl _) (argsL := []) (rest := []) (lenOf pd_1 rfl) rfl (by show 2 * 0 + _ ≤ _; exact Nat.le_of_eq rfl) (hb hby at_26) (fun _ _ => ⟨rfl, e1, (by decide : 0 + 0 ≤ _), (by decide : 0 + 0 ≤ _)⟩)
    dsimp only [Pt.U, Pt.locs, Pt.cells, Pt.slots] at X4 l4 y4 z4 st4 hQ4
    subst l4 y4 z4
    obtain ⟨rfl, Nq4, e4⟩ := hQ4
    have N4 := Fr.app N1 Nq4
    refine own_via st4 ?_
    show own_Go p e below s _ _ (T4.setTop (mkF m 29 #[.val (.int p0), .val (.int ((p0 &&& (2147483647 : Int32)) % (17 : Int32))), .val (.ref (own_pk w ((p0 &&& (2147483647 : Int32)) % (17 : Int32)))), .val (.int (1 : Int32))] [(.int (1 : Int32))]))
    refine own_by (fun tz kz => XS.iloadN X4.here hx rfl (hb hby at_29) rfl  kz) ?_
    show own_Go p e below s _ _ (T4.setTop (mkF m 30 #[.val (.int p0), .val (.int ((p0 &&& (2147483647 : Int32)) % (17 : Int32))), .val (.ref (own_pk w ((p0 &&& (2147483647 : Int32)) % (17 : Int32)))), .val (.int (1 : Int32))] [(.int (1 : Int32)), (.int (1 : Int32))]))
    refine own_by (fun tz kz => XS.icmpNo X4.here hx rfl (hb hby at_30) rfl (teq (by decide : (1 : Int32) = (1 : Int32))).2 kz) ?_
    show own_Go p e below s _ _ (T4.setTop (mkF m 33 #[.val (.int p0), .val (.int ((p0 &&& (2147483647 : Int32)) % (17 : Int32))), .val (.ref (own_pk w ((p0 &&& (2147483647 : Int32)) % (17 : Int32)))), .val (.int (1 : Int32))] []))
    refine own_by (fun tz kz => XS.iconst X4.here hx rfl (hb hby at_33) kz) ?_
    show own_Go p e below s _ _ (T4.setTop (mkF m 34 #[.val (.int p0), .val (.int ((p0 &&& (2147483647 : Int32)) % (17 : Int32))), .val (.ref (own_pk w ((p0 &&& (2147483647 : Int32)) % (17 : Int32)))), .val (.int (1 : Int32))] [(.int (1 : Int32))]))
    refine own_by (fun tz kz => XS.goto X4.here hx rfl (pc0 := 34) (pc' := 38) rfl (hb hby at_34) (by decide) (by decide) kz) ?_
    show own_Go p e below s _ _ (T4.setTop (mkF m 38 #[.val (.int p0), .val (.int ((p0 &&& (2147483647 : Int32)) % (17 : Int32))), .val (.ref (own_pk w ((p0 &&& (2147483647 : Int32)) % (17 : Int32)))), .val (.int (1 : Int32))] [(.int (1 : Int32))]))
    refine own_retI X4 hx hlk (t := .boolean) hret (by simp) rfl (hb hby at_38) ?_ (by decide) (by decide)
    exact ⟨rfl, N4⟩
set_option maxRecDepth 65536 in
set_option maxHeartbeats 40000000 in
theorem comes_1 {Post : Tables → Env → Array Value → State → Outcome → State → Prop} (hpost : ∀ tb e args s v u, (limb_1_1.after args s (.returned v) u = true ∧ limb_1_2.after args s (.returned v) u = true ∧ True) → FrameEnd s (.returned v) u (Jvm.fieldLocs frame_1_writes args s ++ Jvm.arrayLocs frame_1_arrays args s ++ Jvm.staticLocs frame_1_statics s) 0 0 → Post tb e args s (.returned v) u) :
    ArmFor flags0 classFile x code maxLocals ret World_1 tables_1 room_1 Calls_1 rest_1 Pre_1 Post := by
  intro l hfl _ _ p e ha hc hk s m args below hf hA hF happ hP
  obtain ⟨hcalls, hrest, hpre⟩ := hP
  obtain ⟨-, -, -, hnamed, -, -, -, hat⟩ := (Spec.applies_iff hf).mp happ
  obtain ⟨hg, hn⟩ := and_e (Cond.before_iff.mp (show (Jvm.Cond.and given_1 narrow_1).before args s = true from hpre))
  obtain ⟨g1a, g1b⟩ := and_e hg
  obtain ⟨w0, rfl⟩ : ∃ w0 : Value, args = #[w0] := by
    have hs : args.size = 1 := by simpa [Cond.value, given_1] using g1a
    obtain ⟨L⟩ := args
    match L, hs with
    | [w0], _ => exact ⟨w0, rfl⟩
  have hw := fun d (hd : d ∈ tables_1) => atoms_spec (ws := Jvm.Cond.code x code maxLocals ret :: tables_1) hat d (List.mem_cons_of_mem _ hd)
  have hfit : Fit s := fun {y c} hc i hi => by
    obtain ⟨ha, rfl⟩ := Array.getElem?_eq_some_iff.mp hc
    have q := List.all_eq_true.mp ((Array.all_eq_true_iff_forall_mem.mp hF) _ (Array.getElem_mem ha)) i (List.mem_range.mpr hi)
    simpa [Array.getElem?_eq_getElem hi] using q
  obtain ⟨i0, ei0⟩ := is_v g1b
  obtain rfl : w0 = (.int i0) := Option.some.inj ei0
  obtain ⟨m2a, m2b⟩ := and_e hn
  obtain ⟨m3a, m3b⟩ := and_e m2b
  obtain ⟨m4a, m4b⟩ := and_e m3b
  obtain ⟨m5a, m5b⟩ := and_e m4b
  obtain ⟨m6a, m6b⟩ := and_e m5b
  obtain ⟨m7a, m7b⟩ := and_e m6b
  obtain ⟨m8a, m8b⟩ := and_e m7b
  obtain ⟨m9a, m9b⟩ := and_e m8b
  obtain ⟨m10a, m10b⟩ := and_e m9b
  obtain ⟨m11a, m11b⟩ := and_e m10b
  obtain ⟨m12a, m12b⟩ := and_e m11b
  obtain ⟨m13a, m13b⟩ := and_e m12b
  obtain ⟨m14a, m14b⟩ := and_e m13b
  obtain ⟨m15a, m15b⟩ := and_e m14b
  obtain ⟨m16a, m16b⟩ := and_e m15b
  obtain ⟨m17a, m17b⟩ := and_e m16b
  obtain ⟨m18a, m18b⟩ := and_e m17b
  obtain ⟨m19a, m19b⟩ := and_e m18b
  obtain ⟨m20a, m20b⟩ := and_e m19b
  obtain ⟨m21a, m21b⟩ := and_e m20b
  obtain ⟨m22a, m22b⟩ := and_e m21b
  obtain ⟨m23a, m23b⟩ := and_e m22b
  obtain ⟨m24a, m24b⟩ := and_e m23b
  obtain ⟨m25a, m25b⟩ := and_e m24b
  obtain ⟨m26a, m26b⟩ := and_e m25b
  obtain ⟨m27a, m27b⟩ := and_e m26b
  obtain ⟨m28a, m28b⟩ := and_e m27b
  obtain ⟨m29a, m29b⟩ := and_e m28b
  obtain ⟨m30a, m30b⟩ := and_e m29b
  obtain ⟨m31a, m31b⟩ := and_e m30b
  obtain ⟨m32a, m32b⟩ := and_e m31b
  obtain ⟨m33a, m33b⟩ := and_e m32b
  obtain ⟨m34a, m34b⟩ := and_e m33b
  obtain ⟨Term_ISIN, ev_Term_ISIN⟩ := exa_v m2a
  have E_Term_ISIN : Exa s s.heap Term_ISIN "com/example/rentefot/rentefot/Term" := Exa.start ev_Term_ISIN m2a
  have S_Term_ISIN : Sta s s.heap "com/example/rentefot/rentefot/Term" "ISIN" "Lcom/example/rentefot/rentefot/Term;" (.ref Term_ISIN) := Sta.start ev_Term_ISIN (Or.inr ⟨(hw _ (List.mem_of_getElem? (i := 6) rfl)), (hw _ (List.mem_of_getElem? (i := 7) rfl))⟩)
  obtain ⟨Term_TRANCHES, ev_Term_TRANCHES⟩ := exa_v m3a
  have E_Term_TRANCHES : Exa s s.heap Term_TRANCHES "com/example/rentefot/rentefot/Term" := Exa.start ev_Term_TRANCHES m3a
  have S_Term_TRANCHES : Sta s s.heap "com/example/rentefot/rentefot/Term" "TRANCHES" "Lcom/example/rentefot/rentefot/Term;" (.ref Term_TRANCHES) := Sta.start ev_Term_TRANCHES (Or.inr ⟨(hw _ (List.mem_of_getElem? (i := 6) rfl)), (hw _ (List.mem_of_getElem? (i := 14) rfl))⟩)
  obtain ⟨Term_OUTSTANDING, ev_Term_OUTSTANDING⟩ := exa_v m6a
  have E_Term_OUTSTANDING : Exa s s.heap Term_OUTSTANDING "com/example/rentefot/rentefot/Term" := Exa.start ev_Term_OUTSTANDING m6a
  have S_Term_OUTSTANDING : Sta s s.heap "com/example/rentefot/rentefot/Term" "OUTSTANDING" "Lcom/example/rentefot/rentefot/Term;" (.ref Term_OUTSTANDING) := Sta.start ev_Term_OUTSTANDING (Or.inr ⟨(hw _ (List.mem_of_getElem? (i := 6) rfl)), (hw _ (List.mem_of_getElem? (i := 16) rfl))⟩)
  obtain ⟨Term_AGREEMENT_TEXT, ev_Term_AGREEMENT_TEXT⟩ := exa_v m8a
  have E_Term_AGREEMENT_TEXT : Exa s s.heap Term_AGREEMENT_TEXT "com/example/rentefot/rentefot/Term" := Exa.start ev_Term_AGREEMENT_TEXT m8a
  have S_Term_AGREEMENT_TEXT : Sta s s.heap "com/example/rentefot/rentefot/Term" "AGREEMENT_TEXT" "Lcom/example/rentefot/rentefot/Term;" (.ref Term_AGREEMENT_TEXT) := Sta.start ev_Term_AGREEMENT_TEXT (Or.inr ⟨(hw _ (List.mem_of_getElem? (i := 6) rfl)), (hw _ (List.mem_of_getElem? (i := 18) rfl))⟩)
  obtain ⟨Term_CURRENCY, ev_Term_CURRENCY⟩ := exa_v m10a
  have E_Term_CURRENCY : Exa s s.heap Term_CURRENCY "com/example/rentefot/rentefot/Term" := Exa.start ev_Term_CURRENCY m10a
  have S_Term_CURRENCY : Sta s s.heap "com/example/rentefot/rentefot/Term" "CURRENCY" "Lcom/example/rentefot/rentefot/Term;" (.ref Term_CURRENCY) := Sta.start ev_Term_CURRENCY (Or.inr ⟨(hw _ (List.mem_of_getElem? (i := 6) rfl)), (hw _ (List.mem_of_getElem? (i := 20) rfl))⟩)
  obtain ⟨Term_MATURITY_DATE, ev_Term_MATURITY_DATE⟩ := exa_v m12a
  have E_Term_MATURITY_DATE : Exa s s.heap Term_MATURITY_DATE "com/example/rentefot/rentefot/Term" := Exa.start ev_Term_MATURITY_DATE m12a
  have S_Term_MATURITY_DATE : Sta s s.heap "com/example/rentefot/rentefot/Term" "MATURITY_DATE" "Lcom/example/rentefot/rentefot/Term;" (.ref Term_MATURITY_DATE) := Sta.start ev_Term_MATURITY_DATE (Or.inr ⟨(hw _ (List.mem_of_getElem? (i := 6) rfl)), (hw _ (List.mem_of_getElem? (i := 22) rfl))⟩)
  obtain ⟨Term_REDEMPTION_PRICE, ev_Term_REDEMPTION_PRICE⟩ := exa_v m14a
  have E_Term_REDEMPTION_PRICE : Exa s s.heap Term_REDEMPTION_PRICE "com/example/rentefot/rentefot/Term" := Exa.start ev_Term_REDEMPTION_PRICE m14a
  have S_Term_REDEMPTION_PRICE : Sta s s.heap "com/example/rentefot/rentefot/Term" "REDEMPTION_PRICE" "Lcom/example/rentefot/rentefot/Term;" (.ref Term_REDEMPTION_PRICE) := Sta.start ev_Term_REDEMPTION_PRICE (Or.inr ⟨(hw _ (List.mem_of_getElem? (i := 6) rfl)), (hw _ (List.mem_of_getElem? (i := 24) rfl))⟩)
  obtain ⟨Term_MAX_AMOUNT, ev_Term_MAX_AMOUNT⟩ := exa_v m16a
  have E_Term_MAX_AMOUNT : Exa s s.heap Term_MAX_AMOUNT "com/example/rentefot/rentefot/Term" := Exa.start ev_Term_MAX_AMOUNT m16a
  have S_Term_MAX_AMOUNT : Sta s s.heap "com/example/rentefot/rentefot/Term" "MAX_AMOUNT" "Lcom/example/rentefot/rentefot/Term;" (.ref Term_MAX_AMOUNT) := Sta.start ev_Term_MAX_AMOUNT (Or.inr ⟨(hw _ (List.mem_of_getElem? (i := 6) rfl)), (hw _ (List.mem_of_getElem? (i := 26) rfl))⟩)
  obtain ⟨Term_ISSUE_DATE, ev_Term_ISSUE_DATE⟩ := exa_v m18a
  have E_Term_ISSUE_DATE : Exa s s.heap Term_ISSUE_DATE "com/example/rentefot/rentefot/Term" := Exa.start ev_Term_ISSUE_DATE m18a
  have S_Term_ISSUE_DATE : Sta s s.heap "com/example/rentefot/rentefot/Term" "ISSUE_DATE" "Lcom/example/rentefot/rentefot/Term;" (.ref Term_ISSUE_DATE) := Sta.start ev_Term_ISSUE_DATE (Or.inr ⟨(hw _ (List.mem_of_getElem? (i := 6) rfl)), (hw _ (List.mem_of_getElem? (i := 28) rfl))⟩)
  obtain ⟨Term_NAME, ev_Term_NAME⟩ := exa_v m20a
  have E_Term_NAME : Exa s s.heap Term_NAME "com/example/rentefot/rentefot/Term" := Exa.start ev_Term_NAME m20a
  have S_Term_NAME : Sta s s.heap "com/example/rentefot/rentefot/Term" "NAME" "Lcom/example/rentefot/rentefot/Term;" (.ref Term_NAME) := Sta.start ev_Term_NAME (Or.inr ⟨(hw _ (List.mem_of_getElem? (i := 6) rfl)), (hw _ (List.mem_of_getElem? (i := 30) rfl))⟩)
  obtain ⟨Term_PAYMENT_DATES, ev_Term_PAYMENT_DATES⟩ := exa_v m22a
  have E_Term_PAYMENT_DATES : Exa s s.heap Term_PAYMENT_DATES "com/example/rentefot/rentefot/Term" := Exa.start ev_Term_PAYMENT_DATES m22a
  have S_Term_PAYMENT_DATES : Sta s s.heap "com/example/rentefot/rentefot/Term" "PAYMENT_DATES" "Lcom/example/rentefot/rentefot/Term;" (.ref Term_PAYMENT_DATES) := Sta.start ev_Term_PAYMENT_DATES (Or.inr ⟨(hw _ (List.mem_of_getElem? (i := 6) rfl)), (hw _ (List.mem_of_getElem? (i := 32) rfl))⟩)
  obtain ⟨Term_ISSUER, ev_Term_ISSUER⟩ := exa_v m24a
  have E_Term_ISSUER : Exa s s.heap Term_ISSUER "com/example/rentefot/rentefot/Term" := Exa.start ev_Term_ISSUER m24a
  have S_Term_ISSUER : Sta s s.heap "com/example/rentefot/rentefot/Term" "ISSUER" "Lcom/example/rentefot/rentefot/Term;" (.ref Term_ISSUER) := Sta.start ev_Term_ISSUER (Or.inr ⟨(hw _ (List.mem_of_getElem? (i := 6) rfl)), (hw _ (List.mem_of_getElem? (i := 34) rfl))⟩)
  obtain ⟨Term_BUSINESS_DAY_CONVENTION, ev_Term_BUSINESS_DAY_CONVENTION⟩ := exa_v m26a
  have E_Term_BUSINESS_DAY_CONVENTION : Exa s s.heap Term_BUSINESS_DAY_CONVENTION "com/example/rentefot/rentefot/Term" := Exa.start ev_Term_BUSINESS_DAY_CONVENTION m26a
  have S_Term_BUSINESS_DAY_CONVENTION : Sta s s.heap "com/example/rentefot/rentefot/Term" "BUSINESS_DAY_CONVENTION" "Lcom/example/rentefot/rentefot/Term;" (.ref Term_BUSINESS_DAY_CONVENTION) := Sta.start ev_Term_BUSINESS_DAY_CONVENTION (Or.inr ⟨(hw _ (List.mem_of_getElem? (i := 6) rfl)), (hw _ (List.mem_of_getElem? (i := 36) rfl))⟩)
  obtain ⟨Term_FACE, ev_Term_FACE⟩ := exa_v m28a
  have E_Term_FACE : Exa s s.heap Term_FACE "com/example/rentefot/rentefot/Term" := Exa.start ev_Term_FACE m28a
  have S_Term_FACE : Sta s s.heap "com/example/rentefot/rentefot/Term" "FACE" "Lcom/example/rentefot/rentefot/Term;" (.ref Term_FACE) := Sta.start ev_Term_FACE (Or.inr ⟨(hw _ (List.mem_of_getElem? (i := 6) rfl)), (hw _ (List.mem_of_getElem? (i := 38) rfl))⟩)
  obtain ⟨Term_RATE, ev_Term_RATE⟩ := exa_v m30a
  have E_Term_RATE : Exa s s.heap Term_RATE "com/example/rentefot/rentefot/Term" := Exa.start ev_Term_RATE m30a
  have S_Term_RATE : Sta s s.heap "com/example/rentefot/rentefot/Term" "RATE" "Lcom/example/rentefot/rentefot/Term;" (.ref Term_RATE) := Sta.start ev_Term_RATE (Or.inr ⟨(hw _ (List.mem_of_getElem? (i := 6) rfl)), (hw _ (List.mem_of_getElem? (i := 40) rfl))⟩)
  obtain ⟨Term_INITIAL_AMOUNT, ev_Term_INITIAL_AMOUNT⟩ := exa_v m32a
  have E_Term_INITIAL_AMOUNT : Exa s s.heap Term_INITIAL_AMOUNT "com/example/rentefot/rentefot/Term" := Exa.start ev_Term_INITIAL_AMOUNT m32a
  have S_Term_INITIAL_AMOUNT : Sta s s.heap "com/example/rentefot/rentefot/Term" "INITIAL_AMOUNT" "Lcom/example/rentefot/rentefot/Term;" (.ref Term_INITIAL_AMOUNT) := Sta.start ev_Term_INITIAL_AMOUNT (Or.inr ⟨(hw _ (List.mem_of_getElem? (i := 6) rfl)), (hw _ (List.mem_of_getElem? (i := 44) rfl))⟩)
  obtain ⟨Term_DAY_COUNT, ev_Term_DAY_COUNT⟩ := exa_v m34a
  have E_Term_DAY_COUNT : Exa s s.heap Term_DAY_COUNT "com/example/rentefot/rentefot/Term" := Exa.start ev_Term_DAY_COUNT m34a
  have S_Term_DAY_COUNT : Sta s s.heap "com/example/rentefot/rentefot/Term" "DAY_COUNT" "Lcom/example/rentefot/rentefot/Term;" (.ref Term_DAY_COUNT) := Sta.start ev_Term_DAY_COUNT (Or.inr ⟨(hw _ (List.mem_of_getElem? (i := 6) rfl)), (hw _ (List.mem_of_getElem? (i := 47) rfl))⟩)
  have F_Term_ISIN_ordinal : Fld s s.heap Term_ISIN "java/lang/Enum" "ordinal" "I" (.int (0 : Int32)) := Fld.start ((fld_at ev_Term_ISIN).symm.trans (eqv_i (Term.int_eval (0)) m4a))
  have F_Term_TRANCHES_ordinal : Fld s s.heap Term_TRANCHES "java/lang/Enum" "ordinal" "I" (.int (14 : Int32)) := Fld.start ((fld_at ev_Term_TRANCHES).symm.trans (eqv_i (Term.int_eval (14)) m5a))
  have F_Term_OUTSTANDING_ordinal : Fld s s.heap Term_OUTSTANDING "java/lang/Enum" "ordinal" "I" (.int (15 : Int32)) := Fld.start ((fld_at ev_Term_OUTSTANDING).symm.trans (eqv_i (Term.int_eval (15)) m7a))
  have F_Term_AGREEMENT_TEXT_ordinal : Fld s s.heap Term_AGREEMENT_TEXT "java/lang/Enum" "ordinal" "I" (.int (16 : Int32)) := Fld.start ((fld_at ev_Term_AGREEMENT_TEXT).symm.trans (eqv_i (Term.int_eval (16)) m9a))
  have F_Term_CURRENCY_ordinal : Fld s s.heap Term_CURRENCY "java/lang/Enum" "ordinal" "I" (.int (3 : Int32)) := Fld.start ((fld_at ev_Term_CURRENCY).symm.trans (eqv_i (Term.int_eval (3)) m11a))
  have F_Term_MATURITY_DATE_ordinal : Fld s s.heap Term_MATURITY_DATE "java/lang/Enum" "ordinal" "I" (.int (8 : Int32)) := Fld.start ((fld_at ev_Term_MATURITY_DATE).symm.trans (eqv_i (Term.int_eval (8)) m13a))
  have F_Term_REDEMPTION_PRICE_ordinal : Fld s s.heap Term_REDEMPTION_PRICE "java/lang/Enum" "ordinal" "I" (.int (9 : Int32)) := Fld.start ((fld_at ev_Term_REDEMPTION_PRICE).symm.trans (eqv_i (Term.int_eval (9)) m15a))
  have F_Term_MAX_AMOUNT_ordinal : Fld s s.heap Term_MAX_AMOUNT "java/lang/Enum" "ordinal" "I" (.int (6 : Int32)) := Fld.start ((fld_at ev_Term_MAX_AMOUNT).symm.trans (eqv_i (Term.int_eval (6)) m17a))
  have F_Term_ISSUE_DATE_ordinal : Fld s s.heap Term_ISSUE_DATE "java/lang/Enum" "ordinal" "I" (.int (7 : Int32)) := Fld.start ((fld_at ev_Term_ISSUE_DATE).symm.trans (eqv_i (Term.int_eval (7)) m19a))
  have F_Term_NAME_ordinal : Fld s s.heap Term_NAME "java/lang/Enum" "ordinal" "I" (.int (2 : Int32)) := Fld.start ((fld_at ev_Term_NAME).symm.trans (eqv_i (Term.int_eval (2)) m21a))
  have F_Term_PAYMENT_DATES_ordinal : Fld s s.heap Term_PAYMENT_DATES "java/lang/Enum" "ordinal" "I" (.int (11 : Int32)) := Fld.start ((fld_at ev_Term_PAYMENT_DATES).symm.trans (eqv_i (Term.int_eval (11)) m23a))
  have F_Term_ISSUER_ordinal : Fld s s.heap Term_ISSUER "java/lang/Enum" "ordinal" "I" (.int (1 : Int32)) := Fld.start ((fld_at ev_Term_ISSUER).symm.trans (eqv_i (Term.int_eval (1)) m25a))
  have F_Term_BUSINESS_DAY_CONVENTION_ordinal : Fld s s.heap Term_BUSINESS_DAY_CONVENTION "java/lang/Enum" "ordinal" "I" (.int (13 : Int32)) := Fld.start ((fld_at ev_Term_BUSINESS_DAY_CONVENTION).symm.trans (eqv_i (Term.int_eval (13)) m27a))
  have F_Term_FACE_ordinal : Fld s s.heap Term_FACE "java/lang/Enum" "ordinal" "I" (.int (4 : Int32)) := Fld.start ((fld_at ev_Term_FACE).symm.trans (eqv_i (Term.int_eval (4)) m29a))
  have F_Term_RATE_ordinal : Fld s s.heap Term_RATE "java/lang/Enum" "ordinal" "I" (.int (10 : Int32)) := Fld.start ((fld_at ev_Term_RATE).symm.trans (eqv_i (Term.int_eval (10)) m31a))
  have F_Term_INITIAL_AMOUNT_ordinal : Fld s s.heap Term_INITIAL_AMOUNT "java/lang/Enum" "ordinal" "I" (.int (5 : Int32)) := Fld.start ((fld_at ev_Term_INITIAL_AMOUNT).symm.trans (eqv_i (Term.int_eval (5)) m33a))
  have F_Term_DAY_COUNT_ordinal : Fld s s.heap Term_DAY_COUNT "java/lang/Enum" "ordinal" "I" (.int (12 : Int32)) := Fld.start ((fld_at ev_Term_DAY_COUNT).symm.trans (eqv_i (Term.int_eval (12)) m34b))
  have hO : ∀ n, n < 17 → Fld s s.heap (([Term_ISIN, Term_ISSUER, Term_NAME, Term_CURRENCY, Term_FACE, Term_INITIAL_AMOUNT, Term_MAX_AMOUNT, Term_ISSUE_DATE, Term_MATURITY_DATE, Term_REDEMPTION_PRICE, Term_RATE, Term_PAYMENT_DATES, Term_DAY_COUNT, Term_BUSINESS_DAY_CONVENTION, Term_TRANCHES, Term_OUTSTANDING, Term_AGREEMENT_TEXT] : List Addr).getD n 0) "java/lang/Enum" "ordinal" "I" (.int (Int32.ofNat n)) := by
    intro n h
    match n, h with
    | 0, _ => exact F_Term_ISIN_ordinal
    | 1, _ => exact F_Term_ISSUER_ordinal
    | 2, _ => exact F_Term_NAME_ordinal
    | 3, _ => exact F_Term_CURRENCY_ordinal
    | 4, _ => exact F_Term_FACE_ordinal
    | 5, _ => exact F_Term_INITIAL_AMOUNT_ordinal
    | 6, _ => exact F_Term_MAX_AMOUNT_ordinal
    | 7, _ => exact F_Term_ISSUE_DATE_ordinal
    | 8, _ => exact F_Term_MATURITY_DATE_ordinal
    | 9, _ => exact F_Term_REDEMPTION_PRICE_ordinal
    | 10, _ => exact F_Term_RATE_ordinal
    | 11, _ => exact F_Term_PAYMENT_DATES_ordinal
    | 12, _ => exact F_Term_DAY_COUNT_ordinal
    | 13, _ => exact F_Term_BUSINESS_DAY_CONVENTION_ordinal
    | 14, _ => exact F_Term_TRANCHES_ordinal
    | 15, _ => exact F_Term_OUTSTANDING_ordinal
    | 16, _ => exact F_Term_AGREEMENT_TEXT_ordinal
    | n + 17, h => exact absurd h (by omega)
  have hi : ∀ i j, i < 17 → j < 17 → i ≠ j → ([Term_ISIN, Term_ISSUER, Term_NAME, Term_CURRENCY, Term_FACE, Term_INITIAL_AMOUNT, Term_MAX_AMOUNT, Term_ISSUE_DATE, Term_MATURITY_DATE, Term_REDEMPTION_PRICE, Term_RATE, Term_PAYMENT_DATES, Term_DAY_COUNT, Term_BUSINESS_DAY_CONVENTION, Term_TRANCHES, Term_OUTSTANDING, Term_AGREEMENT_TEXT] : List Addr).getD i 0 ≠ ([Term_ISIN, Term_ISSUER, Term_NAME, Term_CURRENCY, Term_FACE, Term_INITIAL_AMOUNT, Term_MAX_AMOUNT, Term_ISSUE_DATE, Term_MATURITY_DATE, Term_REDEMPTION_PRICE, Term_RATE, Term_PAYMENT_DATES, Term_DAY_COUNT, Term_BUSINESS_DAY_CONVENTION, Term_TRANCHES, Term_OUTSTANDING, Term_AGREEMENT_TEXT] : List Addr).getD j 0 := fun i j h1 h2 h3 => Fld.ne (hO i h1) (hO j h2) (fun q => (by decide : ∀ a b : Fin 17, a ≠ b → Int32.ofNat a.1 ≠ Int32.ofNat b.1) ⟨i, h1⟩ ⟨j, h2⟩ (fun z => h3 (congrArg Fin.val z)) (Value.int.inj q))
  have hE0 : ∀ n, n < 17 → Exa s s.heap (([Term_ISIN, Term_ISSUER, Term_NAME, Term_CURRENCY, Term_FACE, Term_INITIAL_AMOUNT, Term_MAX_AMOUNT, Term_ISSUE_DATE, Term_MATURITY_DATE, Term_REDEMPTION_PRICE, Term_RATE, Term_PAYMENT_DATES, Term_DAY_COUNT, Term_BUSINESS_DAY_CONVENTION, Term_TRANCHES, Term_OUTSTANDING, Term_AGREEMENT_TEXT] : List Addr).getD n 0) "com/example/rentefot/rentefot/Term" := by
    intro n h
    match n, h with
    | 0, _ => exact E_Term_ISIN
    | 1, _ => exact E_Term_ISSUER
    | 2, _ => exact E_Term_NAME
    | 3, _ => exact E_Term_CURRENCY
    | 4, _ => exact E_Term_FACE
    | 5, _ => exact E_Term_INITIAL_AMOUNT
    | 6, _ => exact E_Term_MAX_AMOUNT
    | 7, _ => exact E_Term_ISSUE_DATE
    | 8, _ => exact E_Term_MATURITY_DATE
    | 9, _ => exact E_Term_REDEMPTION_PRICE
    | 10, _ => exact E_Term_RATE
    | 11, _ => exact E_Term_PAYMENT_DATES
    | 12, _ => exact E_Term_DAY_COUNT
    | 13, _ => exact E_Term_BUSINESS_DAY_CONVENTION
    | 14, _ => exact E_Term_TRANCHES
    | 15, _ => exact E_Term_OUTSTANDING
    | 16, _ => exact E_Term_AGREEMENT_TEXT
    | n + 17, h => exact absurd h (by omega)
  have hE : ∀ k, Exa s s.heap (own_pk (fun i => ([Term_ISIN, Term_ISSUER, Term_NAME, Term_CURRENCY, Term_FACE, Term_INITIAL_AMOUNT, Term_MAX_AMOUNT, Term_ISSUE_DATE, Term_MATURITY_DATE, Term_REDEMPTION_PRICE, Term_RATE, Term_PAYMENT_DATES, Term_DAY_COUNT, Term_BUSINESS_DAY_CONVENTION, Term_TRANCHES, Term_OUTSTANDING, Term_AGREEMENT_TEXT] : List Addr).getD i 0) k) "com/example/rentefot/rentefot/Term" := fun k => by
    obtain ⟨n, h1, h2⟩ := own_pkE (fun i => ([Term_ISIN, Term_ISSUER, Term_NAME, Term_CURRENCY, Term_FACE, Term_INITIAL_AMOUNT, Term_MAX_AMOUNT, Term_ISSUE_DATE, Term_MATURITY_DATE, Term_REDEMPTION_PRICE, Term_RATE, Term_PAYMENT_DATES, Term_DAY_COUNT, Term_BUSINESS_DAY_CONVENTION, Term_TRANCHES, Term_OUTSTANDING, Term_AGREEMENT_TEXT] : List Addr).getD i 0) k
    rw [h2]; exact hE0 n h1
  obtain ⟨n, o, h1, h2, h3, _, L, rfl, ⟨rfl, N⟩, hq⟩ := rm0 l s _ hw tables_1 i0 (fun i => ([Term_ISIN, Term_ISSUER, Term_NAME, Term_CURRENCY, Term_FACE, Term_INITIAL_AMOUNT, Term_MAX_AMOUNT, Term_ISSUE_DATE, Term_MATURITY_DATE, Term_REDEMPTION_PRICE, Term_RATE, Term_PAYMENT_DATES, Term_DAY_COUNT, Term_BUSINESS_DAY_CONVENTION, Term_TRANCHES, Term_OUTSTANDING, Term_AGREEMENT_TEXT] : List Addr).getD i 0) s.heap s.heap.size S_Term_ISIN S_Term_ISSUER S_Term_NAME S_Term_CURRENCY S_Term_FACE S_Term_INITIAL_AMOUNT S_Term_MAX_AMOUNT S_Term_ISSUE_DATE S_Term_MATURITY_DATE S_Term_REDEMPTION_PRICE S_Term_RATE S_Term_PAYMENT_DATES S_Term_DAY_COUNT S_Term_BUSINESS_DAY_CONVENTION S_Term_TRANCHES S_Term_OUTSTANDING S_Term_AGREEMENT_TEXT hE hi (own_cases17 _ (own_mod i0 17 (by decide))) p e ha hc hk s m _ below hf ((Spec.applies_iff_loose hf).mp happ).1 ⟨rfl, State.Warmed39.refl s, rfl⟩ trivial
  refine ⟨n, _, h1, h2, h3, hpost _ _ _ _ _ _ ⟨Cond.after_iff.mpr rfl, Cond.after_iff.mpr (eq_i res_at (Term.int_eval (1)) rfl), trivial⟩ ⟨hq.1, hq.2.1, (hq.2.2.sift fun y hy => Or.inr (N y hy)).mono (by decide) (by decide)⟩⟩
theorem main_1_1 : Claimed_1_1 := comes_1 fun _ _ _ _ _ _ h hF => ⟨h.1, hF⟩
theorem main_1_2 : Claimed_1_2 := comes_1 fun _ _ _ _ _ _ h hF => ⟨h.2.1, hF⟩
end Jvm.Pilot.@@N@@
namespace Jvm.Pilot.@@N@@
open Jvm Jvm.ClassFile Sem Op Lib Jvm.Free Jvm.Stand Jvm.Pilot.@@N@@.Jvm.D
/-! MADE BY PROGRAM (witnessworld.py) out of the Statement's table words and the real class files: 12 classes; the members and pool entries that the words name. The judged class is class 1, her method 2. -/
namespace start1
open Jvm.ClassFile
def u (s : String) : CpInfo := .utf8 (stringToUtf16 s)
/-- a pool by its gaps: so many unusable entries, then the entry; so many at the end -/
def gap : Nat → List CpInfo → List CpInfo
  | 0, r => r
  | n + 1, r => .unusable :: gap n r
def poolList (es : List (Nat × CpInfo)) (last : Nat) : List CpInfo := es.foldr (fun e r => gap e.1 (e.2 :: r)) (gap last [])
def pool (es : List (Nat × CpInfo)) (last : Nat) : Array CpInfo := ⟨poolList es last⟩
def fileOf (pool : Array CpInfo) (this : Nat) (attrs : Array Attribute := #[]) (ms : Array MethodInfo := #[]) (fl : Nat := 33) (sup : Nat := 0) (ifs : Array Nat := #[]) (fds : Array FieldInfo := #[]) : ClassFile where
  minorVersion := 0
  majorVersion := 65
  constantPool := pool
  accessFlags := fl
  thisClass := this
  superClass := sup
  interfaces := ifs
  fields := fds
  methods := ms
  attributes := attrs
def plain (name : String) (sup : Option ClassId) : Class where
  name := name
  kind := .ordinary
  loader := none
  accessFlags := 33
  super := sup
  interfaces := #[]
  cf := none
  fields := #[]
  methods := #[]
  instanceTypes := #[]
  staticTypes := #[]
  resolved := #[]
  callSites := []
  init := .initialized
  statics := none
  mirror := none

def pool0 : Array CpInfo := pool [(5, u "<init>"), (0, u "()V"), (1, .class_ 10), (1, u "java/lang/Object")] 113

def k0m0 : Method := { name := "<init>", desc := "()V", sig := { parameters := [], returnType := none }, accessFlags := 1, code := none }
/-- java/lang/Object -/
def k0 : Class := { plain "java/lang/Object" none with
  accessFlags := 33
  interfaces := #[]
  cf := some (fileOf pool0 8 #[] #[{ accessFlags := 1, nameIndex := 5, descriptorIndex := 6, attributes := #[] }] 33 0 #[] #[])
  fields := #[]
  methods := #[k0m0]
  instanceTypes := #[]
  staticTypes := #[]
  resolved := Array.replicate 124 none
  statics := none }

def pool1 : Array CpInfo := pool [(2, .class_ 4), (1, u "java/lang/Object"), (0, u "<init>"), (0, u "()V"), (0, .fieldref 8 9), (0, .class_ 10), (0, .nameAndType 11 12), (0, u "com/example/rentefot/rentefot/Term"), (0, u "ISIN"), (0, u "Lcom/example/rentefot/rentefot/Term;"), (0, .fieldref 8 14), (0, .nameAndType 15 12), (0, u "ISSUER"), (0, .fieldref 8 17), (0, .nameAndType 18 12), (0, u "NAME"), (0, .fieldref 8 20), (0, .nameAndType 21 12), (0, u "CURRENCY"), (0, .fieldref 8 23), (0, .nameAndType 24 12), (0, u "FACE"), (0, .fieldref 8 26), (0, .nameAndType 27 12), (0, u "INITIAL_AMOUNT"), (0, .fieldref 8 29), (0, .nameAndType 30 12), (0, u "MAX_AMOUNT"), (0, .fieldref 8 32), (0, .nameAndType 33 12), (0, u "ISSUE_DATE"), (0, .fieldref 8 35), (0, .nameAndType 36 12), (0, u "MATURITY_DATE"), (0, .fieldref 8 38), (0, .nameAndType 39 12), (0, u "REDEMPTION_PRICE"), (0, .fieldref 8 41), (0, .nameAndType 42 12), (0, u "RATE"), (0, .fieldref 8 44), (0, .nameAndType 45 12), (0, u "PAYMENT_DATES"), (0, .fieldref 8 47), (0, .nameAndType 48 12), (0, u "DAY_COUNT"), (0, .fieldref 8 50), (0, .nameAndType 51 12), (0, u "BUSINESS_DAY_CONVENTION"), (0, .fieldref 8 53), (0, .nameAndType 54 12), (0, u "TRANCHES"), (0, .fieldref 8 56), (0, .nameAndType 57 12), (0, u "OUTSTANDING"), (0, .fieldref 8 59), (0, .nameAndType 60 12), (0, u "AGREEMENT_TEXT"), (0, .integer 2147483647), (0, .methodref 63 64), (0, .class_ 65), (0, .nameAndType 66 67), (0, u "com/example/rentefot/rentefot/TermIsOptionalPinLaw"), (0, u "pick"), (0, u "(I)Lcom/example/rentefot/rentefot/Term;"), (0, .methodref 8 69), (0, .nameAndType 70 71), (0, u "isOptional"), (0, u "()Z"), (3, u "law"), (0, u "(I)Z")] 2

def k1m0 : Method := { name := "<init>", desc := "()V", sig := { parameters := [], returnType := none }, accessFlags := 2, code := none }
def k1c1 : Code := { maxStack := 2, maxLocals := 1, code := method_2_code, exceptionTable := #[], attributes := #[] }
def k1m1 : Method := { name := "pick", desc := "(I)Lcom/example/rentefot/rentefot/Term;", sig := { parameters := [.int], returnType := some (.object "com/example/rentefot/rentefot/Term") }, accessFlags := 10, code := some k1c1 }
def k1c2 : Code := { maxStack := 2, maxLocals := 4, code := code, exceptionTable := #[], attributes := #[] }
def k1m2 : Method := { name := "law", desc := "(I)Z", sig := { parameters := [.int], returnType := some .boolean }, accessFlags := 9, code := some k1c2 }
/-- com/example/rentefot/rentefot/TermIsOptionalPinLaw -/
def k1 : Class := { plain "com/example/rentefot/rentefot/TermIsOptionalPinLaw" (some 0) with
  accessFlags := 49
  interfaces := #[]
  cf := some (fileOf pool1 63 #[] #[{ accessFlags := 2, nameIndex := 5, descriptorIndex := 6, attributes := #[] }, { accessFlags := 10, nameIndex := 66, descriptorIndex := 67, attributes := #[] }, { accessFlags := 9, nameIndex := 75, descriptorIndex := 76, attributes := #[] }] 49 2 #[] #[])
  fields := #[]
  methods := #[k1m0, k1m1, k1m2]
  instanceTypes := #[]
  staticTypes := #[]
  resolved := Array.replicate 79 none
  statics := none }

def pool2 : Array CpInfo := pool [(1, .class_ 2), (0, u "java/lang/constant/Constable"), (0, .class_ 4), (0, u "java/lang/Object")] 6

/-- java/lang/constant/Constable -/
def k2 : Class := { plain "java/lang/constant/Constable" (some 0) with
  accessFlags := 1537
  interfaces := #[]
  cf := some (fileOf pool2 1 #[] #[] 1537 3 #[] #[])
  fields := #[]
  methods := #[]
  instanceTypes := #[]
  staticTypes := #[]
  resolved := Array.replicate 11 none
  statics := none }

def pool3 : Array CpInfo := pool [(1, .class_ 2), (0, u "java/lang/Comparable"), (0, .class_ 4), (0, u "java/lang/Object")] 7

/-- java/lang/Comparable -/
def k3 : Class := { plain "java/lang/Comparable" (some 0) with
  accessFlags := 1537
  interfaces := #[]
  cf := some (fileOf pool3 1 #[] #[] 1537 3 #[] #[])
  fields := #[]
  methods := #[]
  instanceTypes := #[]
  staticTypes := #[]
  resolved := Array.replicate 12 none
  statics := none }

def pool4 : Array CpInfo := pool [(1, .class_ 2), (0, u "java/io/Serializable"), (0, .class_ 4), (0, u "java/lang/Object")] 2

/-- java/io/Serializable -/
def k4 : Class := { plain "java/io/Serializable" (some 0) with
  accessFlags := 1537
  interfaces := #[]
  cf := some (fileOf pool4 1 #[] #[] 1537 3 #[] #[])
  fields := #[]
  methods := #[]
  instanceTypes := #[]
  staticTypes := #[]
  resolved := Array.replicate 7 none
  statics := none }

def pool5 : Array CpInfo := pool [(2, .class_ 4), (1, u "java/lang/Enum"), (0, u "name"), (0, u "Ljava/lang/String;"), (2, u "ordinal"), (0, u "I"), (1, .class_ 14), (1, u "java/lang/Object"), (4, u "hash"), (86, .class_ 108), (1, u "java/lang/Enum$EnumDesc"), (2, .class_ 112), (0, u "java/lang/constant/Constable"), (0, .class_ 114), (0, u "java/lang/Comparable"), (0, .class_ 116), (0, u "java/io/Serializable")] 87

/-- java/lang/Enum -/
def k5 : Class := { plain "java/lang/Enum" (some 0) with
  accessFlags := 1057
  interfaces := #[2, 3, 4]
  cf := some (fileOf pool5 2 #[.nestMembers #[106]] #[] 1057 12 #[111, 113, 115] #[{ accessFlags := 18, nameIndex := 5, descriptorIndex := 6, attributes := #[] }, { accessFlags := 18, nameIndex := 9, descriptorIndex := 10, attributes := #[] }, { accessFlags := 2, nameIndex := 19, descriptorIndex := 10, attributes := #[] }])
  fields := #[{ name := "name", type := (.object "java/lang/String"), accessFlags := 18, slot := 0, constantValue := 0 }, { name := "ordinal", type := .int, accessFlags := 18, slot := 1, constantValue := 0 }, { name := "hash", type := .int, accessFlags := 2, slot := 2, constantValue := 0 }]
  methods := #[]
  instanceTypes := #[(.object "java/lang/String"), .int, .int]
  staticTypes := #[]
  resolved := Array.replicate 204 none
  statics := none }

def pool6 : Array CpInfo := pool [(1, .class_ 2), (0, u "com/example/rentefot/rentefot/Term"), (2, u "ISIN"), (0, u "Lcom/example/rentefot/rentefot/Term;"), (2, u "ISSUER"), (2, u "NAME"), (2, u "CURRENCY"), (2, u "FACE"), (2, u "INITIAL_AMOUNT"), (2, u "MAX_AMOUNT"), (2, u "ISSUE_DATE"), (2, u "MATURITY_DATE"), (2, u "REDEMPTION_PRICE"), (2, u "RATE"), (2, u "PAYMENT_DATES"), (2, u "DAY_COUNT"), (2, u "BUSINESS_DAY_CONVENTION"), (0, .fieldref 1 47), (0, .nameAndType 48 6), (0, u "TRANCHES"), (0, .fieldref 1 50), (0, .nameAndType 51 6), (0, u "OUTSTANDING"), (0, .fieldref 1 53), (0, .nameAndType 54 6), (0, u "AGREEMENT_TEXT"), (2, u "$VALUES"), (0, u "[Lcom/example/rentefot/rentefot/Term;"), (6, .class_ 67), (1, u "java/lang/Enum"), (164, u "isOptional"), (0, u "()Z")] 7

def k6c0 : Code := { maxStack := 2, maxLocals := 1, code := prog_35_method_5_code, exceptionTable := #[], attributes := #[] }
def k6m0 : Method := { name := "isOptional", desc := "()Z", sig := { parameters := [], returnType := some .boolean }, accessFlags := 1, code := some k6c0 }
/-- com/example/rentefot/rentefot/Term -/
def k6 : Class := { plain "com/example/rentefot/rentefot/Term" (some 5) with
  accessFlags := 16433
  interfaces := #[]
  cf := some (fileOf pool6 1 #[] #[{ accessFlags := 1, nameIndex := 232, descriptorIndex := 233, attributes := #[] }] 16433 65 #[] #[{ accessFlags := 16409, nameIndex := 5, descriptorIndex := 6, attributes := #[] }, { accessFlags := 16409, nameIndex := 9, descriptorIndex := 6, attributes := #[] }, { accessFlags := 16409, nameIndex := 12, descriptorIndex := 6, attributes := #[] }, { accessFlags := 16409, nameIndex := 15, descriptorIndex := 6, attributes := #[] }, { accessFlags := 16409, nameIndex := 18, descriptorIndex := 6, attributes := #[] }, { accessFlags := 16409, nameIndex := 21, descriptorIndex := 6, attributes := #[] }, { accessFlags := 16409, nameIndex := 24, descriptorIndex := 6, attributes := #[] }, { accessFlags := 16409, nameIndex := 27, descriptorIndex := 6, attributes := #[] }, { accessFlags := 16409, nameIndex := 30, descriptorIndex := 6, attributes := #[] }, { accessFlags := 16409, nameIndex := 33, descriptorIndex := 6, attributes := #[] }, { accessFlags := 16409, nameIndex := 36, descriptorIndex := 6, attributes := #[] }, { accessFlags := 16409, nameIndex := 39, descriptorIndex := 6, attributes := #[] }, { accessFlags := 16409, nameIndex := 42, descriptorIndex := 6, attributes := #[] }, { accessFlags := 16409, nameIndex := 45, descriptorIndex := 6, attributes := #[] }, { accessFlags := 16409, nameIndex := 48, descriptorIndex := 6, attributes := #[] }, { accessFlags := 16409, nameIndex := 51, descriptorIndex := 6, attributes := #[] }, { accessFlags := 16409, nameIndex := 54, descriptorIndex := 6, attributes := #[] }, { accessFlags := 4122, nameIndex := 57, descriptorIndex := 58, attributes := #[] }])
  fields := #[{ name := "ISIN", type := (.object "com/example/rentefot/rentefot/Term"), accessFlags := 16409, slot := 0, constantValue := 0 }, { name := "ISSUER", type := (.object "com/example/rentefot/rentefot/Term"), accessFlags := 16409, slot := 1, constantValue := 0 }, { name := "NAME", type := (.object "com/example/rentefot/rentefot/Term"), accessFlags := 16409, slot := 2, constantValue := 0 }, { name := "CURRENCY", type := (.object "com/example/rentefot/rentefot/Term"), accessFlags := 16409, slot := 3, constantValue := 0 }, { name := "FACE", type := (.object "com/example/rentefot/rentefot/Term"), accessFlags := 16409, slot := 4, constantValue := 0 }, { name := "INITIAL_AMOUNT", type := (.object "com/example/rentefot/rentefot/Term"), accessFlags := 16409, slot := 5, constantValue := 0 }, { name := "MAX_AMOUNT", type := (.object "com/example/rentefot/rentefot/Term"), accessFlags := 16409, slot := 6, constantValue := 0 }, { name := "ISSUE_DATE", type := (.object "com/example/rentefot/rentefot/Term"), accessFlags := 16409, slot := 7, constantValue := 0 }, { name := "MATURITY_DATE", type := (.object "com/example/rentefot/rentefot/Term"), accessFlags := 16409, slot := 8, constantValue := 0 }, { name := "REDEMPTION_PRICE", type := (.object "com/example/rentefot/rentefot/Term"), accessFlags := 16409, slot := 9, constantValue := 0 }, { name := "RATE", type := (.object "com/example/rentefot/rentefot/Term"), accessFlags := 16409, slot := 10, constantValue := 0 }, { name := "PAYMENT_DATES", type := (.object "com/example/rentefot/rentefot/Term"), accessFlags := 16409, slot := 11, constantValue := 0 }, { name := "DAY_COUNT", type := (.object "com/example/rentefot/rentefot/Term"), accessFlags := 16409, slot := 12, constantValue := 0 }, { name := "BUSINESS_DAY_CONVENTION", type := (.object "com/example/rentefot/rentefot/Term"), accessFlags := 16409, slot := 13, constantValue := 0 }, { name := "TRANCHES", type := (.object "com/example/rentefot/rentefot/Term"), accessFlags := 16409, slot := 14, constantValue := 0 }, { name := "OUTSTANDING", type := (.object "com/example/rentefot/rentefot/Term"), accessFlags := 16409, slot := 15, constantValue := 0 }, { name := "AGREEMENT_TEXT", type := (.object "com/example/rentefot/rentefot/Term"), accessFlags := 16409, slot := 16, constantValue := 0 }, { name := "$VALUES", type := (.array (.object "com/example/rentefot/rentefot/Term")), accessFlags := 4122, slot := 17, constantValue := 0 }]
  methods := #[k6m0]
  instanceTypes := #[(.object "java/lang/String"), .int, .int]
  staticTypes := #[(.object "com/example/rentefot/rentefot/Term"), (.object "com/example/rentefot/rentefot/Term"), (.object "com/example/rentefot/rentefot/Term"), (.object "com/example/rentefot/rentefot/Term"), (.object "com/example/rentefot/rentefot/Term"), (.object "com/example/rentefot/rentefot/Term"), (.object "com/example/rentefot/rentefot/Term"), (.object "com/example/rentefot/rentefot/Term"), (.object "com/example/rentefot/rentefot/Term"), (.object "com/example/rentefot/rentefot/Term"), (.object "com/example/rentefot/rentefot/Term"), (.object "com/example/rentefot/rentefot/Term"), (.object "com/example/rentefot/rentefot/Term"), (.object "com/example/rentefot/rentefot/Term"), (.object "com/example/rentefot/rentefot/Term"), (.object "com/example/rentefot/rentefot/Term"), (.object "com/example/rentefot/rentefot/Term"), (.array (.object "com/example/rentefot/rentefot/Term"))]
  resolved := Array.replicate 241 none
  statics := some 0 }

def pool7 : Array CpInfo := pool [(1, u "java/lang/Cloneable"), (0, .class_ 1), (0, u "java/lang/Object"), (0, .class_ 3)] 3

/-- java/lang/Cloneable -/
def k7 : Class := { plain "java/lang/Cloneable" (some 0) with
  accessFlags := 1537
  interfaces := #[]
  cf := some (fileOf pool7 2 #[] #[] 1537 4 #[] #[])
  fields := #[]
  methods := #[]
  instanceTypes := #[]
  staticTypes := #[]
  resolved := Array.replicate 8 none
  statics := none }

/-- the primitive byte -/
def k8 : Class := { plain "byte" none with kind := .primitive 'B', accessFlags := 0x411 }
/-- [B -/
def k9 : Class := { plain "[B" (some 0) with kind := .array 8 .byte, interfaces := #[7, 4], accessFlags := 1041 }

/-- the primitive int -/
def k10 : Class := { plain "int" none with kind := .primitive 'I', accessFlags := 0x411 }
/-- [I -/
def k11 : Class := { plain "[I" (some 0) with kind := .array 10 .int, interfaces := #[7, 4], accessFlags := 1041 }

def heap : Heap := #[{ cls := 6, slots := #[.ref 1, .ref 12, .ref 10, .ref 5, .ref 14, .ref 16, .ref 8, .ref 9, .ref 6, .ref 7, .ref 15, .ref 11, .ref 17, .ref 13, .ref 2, .ref 3, .ref 4, .null], vm := .statics 6 },
  { cls := 6, slots := #[.null, .int 0, .int 0], vm := .none },
  { cls := 6, slots := #[.null, .int 14, .int 0], vm := .none },
  { cls := 6, slots := #[.null, .int 15, .int 0], vm := .none },
  { cls := 6, slots := #[.null, .int 16, .int 0], vm := .none },
  { cls := 6, slots := #[.null, .int 3, .int 0], vm := .none },
  { cls := 6, slots := #[.null, .int 8, .int 0], vm := .none },
  { cls := 6, slots := #[.null, .int 9, .int 0], vm := .none },
  { cls := 6, slots := #[.null, .int 6, .int 0], vm := .none },
  { cls := 6, slots := #[.null, .int 7, .int 0], vm := .none },
  { cls := 6, slots := #[.null, .int 2, .int 0], vm := .none },
  { cls := 6, slots := #[.null, .int 11, .int 0], vm := .none },
  { cls := 6, slots := #[.null, .int 1, .int 0], vm := .none },
  { cls := 6, slots := #[.null, .int 13, .int 0], vm := .none },
  { cls := 6, slots := #[.null, .int 4, .int 0], vm := .none },
  { cls := 6, slots := #[.null, .int 10, .int 0], vm := .none },
  { cls := 6, slots := #[.null, .int 5, .int 0], vm := .none },
  { cls := 6, slots := #[.null, .int 12, .int 0], vm := .none }]
def classes : Array Class := #[k0, k1, k2, k3, k4, k5, k6, k7, k8, k9, k10, k11]
def interned : List (Array UInt16 × Addr) := []
def slotsUsed : Nat := 69
def theMethod : MethodId := ⟨1, 2⟩
def args0 : Array Value := #[.int 5]
def aboutOver (below : List Frame) : State where
  vm := { classes := classes, interned := interned.toArray }
  heap := heap
  slotsUsed := slotsUsed
  threads := #[{ frames := .invoking theMethod args0 :: below }]
def below0 : List Frame := [.native { method := ⟨0, 0⟩, args := #[] }]
def about1 : State := aboutOver below0
def p0 : Program := .bare "" "" ""
def e0 : Env := launch0.env 0 0 0
theorem w_frames : about1.frames = Frame.invoking theMethod args0 :: below0 := rfl
set_option maxRecDepth 65536 in
theorem w_args : argsFit about1.vm theMethod args0 = true := by decide +kernel
set_option maxRecDepth 65536 in
theorem w_heap : heapFits about1 = true := by decide +kernel
set_option maxRecDepth 65536 in
theorem w_runnable : about1.curStatus? = some .runnable := by decide +kernel
set_option maxRecDepth 65536 in
theorem w_alone : about1.alone = true := by decide +kernel
set_option maxRecDepth 65536 in
theorem w_named : about1.methodNamed? x = some theMethod := by decide +kernel
set_option maxRecDepth 65536 in
theorem w_hears : about1.hears theMethod below0 = true := by decide +kernel
set_option maxRecDepth 65536 in
theorem w_ripe : about1.ripe theMethod args0 below0 = true := by decide +kernel
theorem w_running : about1.status = .running := rfl
set_option maxRecDepth 65536 in
theorem w_room : about1.hasRoom e0.platform room_1 = true :=
  launch0.hasRoom_least _ room_1 (by decide +kernel) (by decide +kernel) (by decide +kernel) (by decide +kernel) (by decide +kernel) (by decide +kernel)
theorem allAtoms_all (ts : List Jvm.Cond) (a : Array Jvm.Value) (st : Jvm.State) : (allAtoms ts).before a st = ts.all (fun c => c.before a st) := by
  induction ts with
  | nil => rfl
  | cons c t ih =>
    show (Jvm.Cond.and c (allAtoms t)).before a st = _
    rw [Jvm.Cond.before_and, ih, List.all_cons]
def words1 : List Jvm.Cond := Jvm.Cond.code x code maxLocals ret :: tables_1
/-- a 'code' word, met by the world's own term for the bytes: nothing is compared byte by byte -/
theorem code_word {y : MethodName} {bytes : ByteArray} {mx : Nat} {rt : Option FieldType} {a : Array Value} {s : State} {m : MethodId} {meth : Method} {c : Code} (h1 : s.methodNamed? y = some m) (h2 : s.vm.method? m = some meth) (h3 : meth.code = some c) (h4 : c.code = bytes)
    (h5 : (c.maxLocals == mx && c.exceptionTable.isEmpty && decide (c.maxStack ≤ mostOperands) && decide (meth.sig.returnType = rt) && !meth.locks && decide (parseMethodDescriptor y.desc = some meth.sig)) = true) : (Jvm.Cond.code y bytes mx rt).before a s = true := by
  simp only [Bool.and_eq_true, beq_iff_eq, Bool.not_eq_true', decide_eq_true_eq] at h5
  obtain ⟨⟨⟨⟨⟨g1, g2⟩, g3⟩, g4⟩, g5⟩, g6⟩ := h5
  simp [Cond.before, Cond.holds, Cond.value, h1, h2, h3, h4, g1, g2, g3, g4, g5, g6]
def isCode : Jvm.Cond → Bool
  | .code _ _ _ _ => true
  | _ => false
theorem all_split {L : List Jvm.Cond} {P : Jvm.Cond → Bool} (h1 : L.all (fun c => isCode c || P c) = true) (h2 : ∀ c ∈ L.filter isCode, P c = true) : L.all P = true := by
  refine List.all_eq_true.mpr fun c hc => ?_
  have h := List.all_eq_true.mp h1 c hc
  rcases Bool.eq_false_or_eq_true (isCode c) with hi | hi
  · exact h2 c (List.mem_filter.mpr ⟨hc, hi⟩)
  · simpa [hi] using h
set_option maxRecDepth 65536 in
theorem w_c0 : (Jvm.Cond.code x code maxLocals ret).before args0 about1 = true := code_word (m := ⟨1, 2⟩) (meth := k1m2) (c := k1c2) (by decide +kernel) rfl rfl rfl (by decide +kernel)
set_option maxRecDepth 65536 in
theorem w_c1 : (Jvm.Cond.code ({ cls := "com/example/rentefot/rentefot/TermIsOptionalPinLaw", name := "pick", desc := "(I)Lcom/example/rentefot/rentefot/Term;" } : Jvm.MethodName) method_2_code (1 : Nat) (Option.some (Jvm.ClassFile.FieldType.object "com/example/rentefot/rentefot/Term"))).before args0 about1 = true := code_word (m := ⟨1, 1⟩) (meth := k1m1) (c := k1c1) (by decide +kernel) rfl rfl rfl (by decide +kernel)
set_option maxRecDepth 65536 in
theorem w_c2 : (Jvm.Cond.code ({ cls := "com/example/rentefot/rentefot/Term", name := "isOptional", desc := "()Z" } : Jvm.MethodName) prog_35_method_5_code (1 : Nat) (Option.some Jvm.ClassFile.FieldType.boolean)).before args0 about1 = true := code_word (m := ⟨6, 0⟩) (meth := k6m0) (c := k6c0) (by decide +kernel) rfl rfl rfl (by decide +kernel)
def codes1 : List Jvm.Cond := [Jvm.Cond.code x code maxLocals ret, Jvm.Cond.code ({ cls := "com/example/rentefot/rentefot/TermIsOptionalPinLaw", name := "pick", desc := "(I)Lcom/example/rentefot/rentefot/Term;" } : Jvm.MethodName) method_2_code (1 : Nat) (Option.some (Jvm.ClassFile.FieldType.object "com/example/rentefot/rentefot/Term")), Jvm.Cond.code ({ cls := "com/example/rentefot/rentefot/Term", name := "isOptional", desc := "()Z" } : Jvm.MethodName) prog_35_method_5_code (1 : Nat) (Option.some Jvm.ClassFile.FieldType.boolean)]
set_option maxRecDepth 65536 in
theorem codes_eq : words1.filter isCode = codes1 := rfl
theorem w_codes : ∀ c ∈ words1.filter isCode, c.before args0 about1 = true := by
  rw [codes_eq]
  intro c hc
  simp only [codes1, List.mem_cons, List.not_mem_nil, or_false] at hc
  rcases hc with rfl | rfl | rfl
  · exact w_c0
  · exact w_c1
  · exact w_c2
set_option maxRecDepth 65536 in
theorem w_t1 : (words1.take 24).all (fun c => isCode c || c.before args0 about1) = true := by decide +kernel
set_option maxRecDepth 65536 in
theorem w_t2 : ((words1.drop 24).take 24).all (fun c => isCode c || c.before args0 about1) = true := by decide +kernel
set_option maxRecDepth 65536 in
theorem w_t3 : ((words1.drop 24).drop 24).all (fun c => isCode c || c.before args0 about1) = true := by decide +kernel
theorem w_tables : (allAtoms (Jvm.Cond.code x code maxLocals ret :: tables_1)).before args0 about1 = true := by
  rw [allAtoms_all]
  show words1.all (fun c => c.before args0 about1) = true
  refine all_split ?_ w_codes
  rw [← List.take_append_drop 24 words1, List.all_append, w_t1, ← List.take_append_drop 24 (words1.drop 24), List.all_append, w_t2, w_t3]
  rfl
set_option maxRecDepth 65536 in
theorem w_case : (Jvm.Cond.and given_1 narrow_1).before args0 about1 = true := by decide +kernel
theorem w_applies : (headSpec (Jvm.Cond.code x code maxLocals ret :: tables_1) room_1).applies x e0.platform about1 = true :=
  (Spec.applies_iff w_frames).mpr ⟨w_running, w_runnable, w_alone, w_named, w_hears, w_ripe, w_room, w_tables⟩
theorem atStart : AtStart classFile x code maxLocals ret World_1 tables_1 room_1 Calls_1 rest_1 Pre_1 launch0 p0 e0 about1 theMethod args0 below0 :=
  ⟨lists_1, trivial, launch0.admits_env _ _ _, launch0.least_env, fairChoices_fair.cas, fairChoices_fair.clock, w_frames, w_args, w_heap, w_applies, trivial, trivial, w_case⟩
end start1
theorem witness_1 : WitnessClaimed_1 := ⟨start1.p0, start1.e0, start1.about1, start1.theMethod, start1.args0, start1.below0, start1.atStart⟩
end Jvm.Pilot.@@N@@
