import JvmDerived
import JvmDerived.Pilot.@@N@@Statement
import JvmDerived.Pilot.@@N@@Code
set_option linter.unusedVariables false
set_option linter.unusedSimpArgs false
namespace Jvm.Pilot.@@N@@
open Jvm Jvm.ClassFile Sem Op Lib Jvm.Free Jvm.Stand Jvm.LawKit Jvm.RoadKit Bundle Jvm.Pilot.@@N@@.Jvm.D
/-- from S the run goes on to an end that answers Q -/
def own_Go (p : Program) (e : Env) (below : List Frame) (s : State) (Q : Option Value → Heap → List Loc → Prop) (rm : Room) (S : State) : Prop :=
  ∃ t o, Steps p.tables e below S t ∧ t.status = .running ∧ Ended t below o ∧ ∃ v L, o = .returned v ∧ Q v t.heap L ∧ FrameEnd s o t L rm.cells rm.slots
section OwnKit
variable {p : Program} {l : Launch} {e : Env} {R rm : Room} {s S S' : State} {m : MethodId} {args : Array Value} {below : List Frame} {meth : Method} {c : Code} {T : State} {locs : List Loc} {cells slots : Nat} {Q : Option Value → Heap → List Loc → Prop}
theorem own_by (st : ∀ t, Steps p.tables e below S' t → Steps p.tables e below S t) (k : own_Go p e below s Q rm S') : own_Go p e below s Q rm S := by
  obtain ⟨t, o, h, r⟩ := k
  exact ⟨t, o, st _ h, r⟩
theorem own_via (st : Steps p.tables e below S S') (k : own_Go p e below s Q rm S') : own_Go p e below s Q rm S := own_by (fun _ h => st.trans h) k
theorem own_out {v : Option Value} {pc : Nat} {Ls : Array Slot} {st : List Value} (X : Stand p l e rm s m args below meth c T locs cells slots) (hlk : meth.locks = false) (hv : meth.sig.returnType = none → v = none) (hc : cells ≤ rm.cells) (hs : slots ≤ rm.slots)
    (step : ∀ fs, (∀ (f : JFrame) (acts : List Action), f.method = m → f.locked = none → f.entered = [] → (doReturn e (T.setTop f) acts v).1 = T.setFrames fs) → Steps p.tables e below (T.setTop (mkF m pc Ls st)) (T.setFrames fs)) (hQ : Q v T.heap locs) : own_Go p e below s Q rm (T.setTop (mkF m pc Ls st)) := by
  obtain ⟨fs, hr, hrun, hended, hW, hsame⟩ := X.leave (v := v) hv hlk
  exact ⟨_, _, step fs hr, hrun, hended, v, locs, rfl, hQ, ⟨_, rfl⟩, hW, hsame.mono hc hs⟩
theorem own_retV (X : Stand p l e rm s m args below meth c T locs cells slots) (hx : p.tables.exec = Jvm.exec) (hlk : meth.locks = false) {pc : Nat} {Ls : Array Slot} (hret : meth.sig.returnType = none) (hd : decode c.code pc = .ok (.return_, 1)) (hQ : Q none T.heap locs) (hc : cells ≤ rm.cells) (hs : slots ≤ rm.slots) :
    own_Go p e below s Q rm (T.setTop (mkF m pc Ls [])) := own_out X hlk (fun _ => rfl) hc hs (fun fs hr => X.returnOut hx hret hd hr) hQ
theorem own_retI (X : Stand p l e rm s m args below meth c T locs cells slots) (hx : p.tables.exec = Jvm.exec) (hlk : meth.locks = false) {pc : Nat} {Ls : Array Slot} {z : Int32} {t : FieldType} {rest : List Value} (hret : meth.sig.returnType = some t) (ht : t = .int ∨ t = .boolean ∨ t = .byte ∨ t = .char ∨ t = .short) (hn : narrow t (.int z) = .int z) (hd : decode c.code pc = .ok (.ireturn, 1)) (hQ : Q (some (.int z)) T.heap locs) (hc : cells ≤ rm.cells) (hs : slots ≤ rm.slots) :
    own_Go p e below s Q rm (T.setTop (mkF m pc Ls (.int z :: rest))) := own_out X hlk (fun h => by rw [hret] at h; cases h) hc hs (fun fs hr => retOut X hx hret hn (Or.inl ⟨rfl, ht, z, rfl⟩) hd hr) hQ
theorem own_retL (X : Stand p l e rm s m args below meth c T locs cells slots) (hx : p.tables.exec = Jvm.exec) (hlk : meth.locks = false) {pc : Nat} {Ls : Array Slot} {z : Int64} {rest : List Value} (hret : meth.sig.returnType = some .long) (hd : decode c.code pc = .ok (.lreturn, 1)) (hQ : Q (some (.long z)) T.heap locs) (hc : cells ≤ rm.cells) (hs : slots ≤ rm.slots) :
    own_Go p e below s Q rm (T.setTop (mkF m pc Ls (.long z :: rest))) := own_out X hlk (fun h => by rw [hret] at h; cases h) hc hs (fun fs hr => retOut X hx hret rfl (Or.inr (Or.inl ⟨rfl, rfl, z, rfl⟩)) hd hr) hQ
theorem own_retA (X : Stand p l e rm s m args below meth c T locs cells slots) (hx : p.tables.exec = Jvm.exec) (hlk : meth.locks = false) {pc : Nat} {Ls : Array Slot} {w : Value} {t : FieldType} {rest : List Value} (hret : meth.sig.returnType = some t) (ht : t.isReference = true) (hw : w.isRef = true) (hd : decode c.code pc = .ok (.areturn, 1)) (hQ : Q (some w) T.heap locs) (hc : cells ≤ rm.cells) (hs : slots ≤ rm.slots) :
    own_Go p e below s Q rm (T.setTop (mkF m pc Ls (w :: rest))) := by
  have hn : narrow t w = w := by cases w <;> first | (simp [Value.isRef] at hw; done) | (cases t <;> first | (simp [FieldType.isReference] at ht; done) | rfl)
  exact own_out X hlk (fun h => by rw [hret] at h; cases h) hc hs (fun fs hr => retOut X hx hret hn (Or.inr (Or.inr (Or.inr (Or.inr ⟨rfl, ht, hw⟩)))) hd hr) hQ
theorem own_enter {Z : State} {h0 : Heap} {y : MethodName} {bytes : ByteArray} {maxL : Nat} {ret : Option FieldType} {ws : List Jvm.Cond} {as : Array Value} (hp : plainFor y = true)
    (body : ∀ p e s m below meth c s₁, Stand p l e rm s m as below meth c s₁ [] 0 0 → p.tables.exec = Jvm.exec → Z.Warmed39 s.vm → c.code = bytes → c.maxLocals = maxL → s.vm.findClass y.cls = some m.cls → meth.name = y.name → meth.sig.returnType = ret → meth.locks = false → s₁.heap = h0 →
      own_Go p e below s Q rm (s₁.setTop (entryFrame m as maxL))) :
    MetFree l y (head1 (Jvm.Cond.code y bytes maxL ret :: ws) rm) (fun a U => a = as ∧ Z.Warmed39 U.vm ∧ U.heap = h0) (fun _ _ _ _ _ => True) (fun _ U o U' => ∃ v L, o = .returned v ∧ Q v U'.heap L ∧ FrameEnd U o U' L rm.cells rm.slots) := by
  refine MetFree.of_bodySF hp hisR ?_
  intro p e s m args below meth c s₁ Bd hml0 hP hK
  obtain ⟨rfl, hZ, hh⟩ := hP
  have X0 : Stand p l e rm s m args below meth c s₁ [] 0 0 := Stand.of_body Bd
  exact body p e s m below meth c s₁ X0 Bd.exec hZ Bd.bytes hml0 (findClass_of_methodNamed Bd.named) (name_of_methodNamed Bd.named Bd.method).1 Bd.returns (BodyLoose.notSynchronized Bd) (by rw [← hh, Bd.state]; rfl)
end OwnKit
theorem own_len31 {Z : State} {args : Array Value} {t : Term} {v : Value} {a : Addr} {cl : Cell} (h : (Term.length t).eval args Z none [] Z = some v) (ht : t.eval args Z none [] Z = some (.ref a)) (hc : Z.heap[a]? = some cl) : cl.slots.size < 2 ^ 31 := by
  simp only [Term.eval, ht, Option.bind_eq_bind, Option.bind_some] at h
  cases ha : Z.arrayAt? a with
  | none => simp [ha] at h
  | some c2 =>
    cases (State.arrayAt?_spec ha).1.symm.trans hc
    by_cases q : cl.slots.size < 2 ^ 31
    · exact q
    · simp [ha, q] at h
theorem own_eqr {Z : State} {args : Array Value} {X F : Term} {y : Value} (hy : y.isRef = true) (hF : F.eval args Z none [] Z = some y) (h : (Jvm.Cond.eq X F).value args Z none Z [] = some true) : X.eval args Z none [] Z = some y := by
  obtain ⟨x, y', e1, e2, k1, k2⟩ := cmp_v (Or.inl h)
  cases hF.symm.trans e2
  have hx : x.isRef = true := by
    rcases ref_cases hy with rfl | ⟨a, rfl⟩
    · exact k2.2
    · exact k2.2
  exact e1.trans (congrArg some (gotT (eq_R e1 hF hx hy) h))
theorem pl_0 : plainFor x = true := plainFor_of_name (by first | (simp [plainName, overriddenIn]; done) | decide +kernel)
theorem d1_0 : decode prog_24_method_4_code 0 = .ok (.invokestatic 40, 3) := by decide +kernel
theorem d1_3 : decode prog_24_method_4_code 3 = .ok (.astore_n 2, 1) := by decide +kernel
theorem d1_4 : decode prog_24_method_4_code 4 = .ok (.aload_n 2, 1) := by decide +kernel
theorem d1_5 : decode prog_24_method_4_code 5 = .ok (.arraylength, 1) := by decide +kernel
theorem d1_6 : decode prog_24_method_4_code 6 = .ok (.istore_n 3, 1) := by decide +kernel
theorem d1_7 : decode prog_24_method_4_code 7 = .ok (.iconst 0, 1) := by decide +kernel
theorem d1_8 : decode prog_24_method_4_code 8 = .ok (.istore 4, 2) := by decide +kernel
theorem d1_10 : decode prog_24_method_4_code 10 = .ok (.iload 4, 2) := by decide +kernel
theorem d1_12 : decode prog_24_method_4_code 12 = .ok (.iload_n 3, 1) := by decide +kernel
theorem d1_13 : decode prog_24_method_4_code 13 = .ok (.if_icmp .ge 29, 3) := by decide +kernel
theorem d1_16 : decode prog_24_method_4_code 16 = .ok (.aload_n 2, 1) := by decide +kernel
theorem d1_17 : decode prog_24_method_4_code 17 = .ok (.iload 4, 2) := by decide +kernel
theorem d1_19 : decode prog_24_method_4_code 19 = .ok (.aaload, 1) := by decide +kernel
theorem d1_20 : decode prog_24_method_4_code 20 = .ok (.astore 5, 2) := by decide +kernel
theorem d1_22 : decode prog_24_method_4_code 22 = .ok (.aload 5, 2) := by decide +kernel
theorem d1_24 : decode prog_24_method_4_code 24 = .ok (.getfield 32, 3) := by decide +kernel
theorem d1_27 : decode prog_24_method_4_code 27 = .ok (.i2l, 1) := by decide +kernel
theorem d1_28 : decode prog_24_method_4_code 28 = .ok (.lload_n 0, 1) := by decide +kernel
theorem d1_29 : decode prog_24_method_4_code 29 = .ok (.lcmp, 1) := by decide +kernel
theorem d1_30 : decode prog_24_method_4_code 30 = .ok (.ifCond .ne 6, 3) := by decide +kernel
theorem d1_33 : decode prog_24_method_4_code 33 = .ok (.aload 5, 2) := by decide +kernel
theorem d1_35 : decode prog_24_method_4_code 35 = .ok (.areturn, 1) := by decide +kernel
theorem d1_36 : decode prog_24_method_4_code 36 = .ok (.iinc 4 1, 3) := by decide +kernel
theorem d1_39 : decode prog_24_method_4_code 39 = .ok (.goto (-29), 3) := by decide +kernel
theorem d1_42 : decode prog_24_method_4_code 42 = .ok (.new 44, 3) := by decide +kernel
theorem d1_45 : decode prog_24_method_4_code 45 = .ok (.dup, 1) := by decide +kernel
theorem d1_46 : decode prog_24_method_4_code 46 = .ok (.lload_n 0, 1) := by decide +kernel
theorem d1_47 : decode prog_24_method_4_code 47 = .ok (.invokedynamic 46, 5) := by decide +kernel
theorem d1_52 : decode prog_24_method_4_code 52 = .ok (.invokespecial 50, 3) := by decide +kernel
theorem d1_55 : decode prog_24_method_4_code 55 = .ok (.athrow, 1) := by decide +kernel
theorem pl_1 : plainFor (⟨"com/example/weft/weft/engine/Argon2Type", "fromNumber", "(J)Lcom/example/weft/weft/engine/Argon2Type;"⟩ : MethodName) = true := plainFor_of_name (by first | (simp [plainName, overriddenIn]; done) | decide +kernel)
theorem d2_0 : decode prog_24_method_1_code 0 = .ok (.getstatic 13, 3) := by decide +kernel
theorem d2_3 : decode prog_24_method_1_code 3 = .ok (.invokevirtual 17, 3) := by decide +kernel
theorem d2_6 : decode prog_24_method_1_code 6 = .ok (.checkcast 18, 3) := by decide +kernel
theorem d2_9 : decode prog_24_method_1_code 9 = .ok (.areturn, 1) := by decide +kernel
theorem pl_2 : plainFor (⟨"com/example/weft/weft/engine/Argon2Type", "values", "()[Lcom/example/weft/weft/engine/Argon2Type;"⟩ : MethodName) = true := plainFor_of_name (by first | (simp [plainName, overriddenIn]; done) | decide +kernel)
theorem d3_0 : decode prog_24_method_5_code 0 = .ok (.aload_n 0, 1) := by decide +kernel
theorem d3_1 : decode prog_24_method_5_code 1 = .ok (.getfield 32, 3) := by decide +kernel
theorem d3_4 : decode prog_24_method_5_code 4 = .ok (.ireturn, 1) := by decide +kernel
theorem pl_3 : plainFor (⟨"com/example/weft/weft/engine/Argon2Type", "getNumber", "()I"⟩ : MethodName) = true := plainFor_of_name (by first | (simp [plainName, overriddenIn]; done) | decide +kernel)
theorem pd_0 : parseMethodDescriptor "(J)Lcom/example/weft/weft/engine/Argon2Type;" = some ⟨[.long], some (.object "com/example/weft/weft/engine/Argon2Type")⟩ := by decide +kernel
theorem pd_1 : parseMethodDescriptor "()[Lcom/example/weft/weft/engine/Argon2Type;" = some ⟨[], some (.array (.object "com/example/weft/weft/engine/Argon2Type"))⟩ := by decide +kernel
theorem pd_2 : parseMethodDescriptor "()Ljava/lang/Object;" = some ⟨[], some (.object "java/lang/Object")⟩ := by decide +kernel
theorem pd_3 : parseMethodDescriptor "()I" = some ⟨[], some .int⟩ := by decide +kernel
theorem own_n3 (x : Int64) : (((x - (x / (3 : Int64)) * (3 : Int64)) + (3 : Int64)) - (((x - (x / (3 : Int64)) * (3 : Int64)) + (3 : Int64)) / (3 : Int64)) * (3 : Int64)) = (0 : Int64) ∨ (((x - (x / (3 : Int64)) * (3 : Int64)) + (3 : Int64)) - (((x - (x / (3 : Int64)) * (3 : Int64)) + (3 : Int64)) / (3 : Int64)) * (3 : Int64)) = (1 : Int64) ∨ (((x - (x / (3 : Int64)) * (3 : Int64)) + (3 : Int64)) - (((x - (x / (3 : Int64)) * (3 : Int64)) + (3 : Int64)) / (3 : Int64)) * (3 : Int64)) = (2 : Int64) := by
  rw [lrem_mod, lrem_mod]
  have a := (tr x.toInt 3)
  have e3 : (3 : Int64).toInt = 3 := by decide
  have b : (x % (3 : Int64)).toInt = x.toInt.tmod 3 := by rw [Int64.toInt_mod, e3]
  have r : -3 < x.toInt.tmod 3 ∧ x.toInt.tmod 3 < 3 := by
    by_cases q : 0 ≤ x.toInt
    · rw [a.1 q]; omega
    · rw [a.2 (by omega)]; omega
  have c := c_ladd (x % (3 : Int64)) 3
  have g := rng64 ((x % (3 : Int64)) + 3)
  have s : ((x % (3 : Int64)) + 3).toInt = x.toInt.tmod 3 + 3 := by rw [e3, b] at c; omega
  have u := tr ((x % (3 : Int64)) + 3).toInt 3
  have t : (((x % (3 : Int64)) + 3) % (3 : Int64)).toInt = (x.toInt.tmod 3 + 3) % 3 := by rw [Int64.toInt_mod, e3, u.1 (by omega), s]
  have h : (((x % (3 : Int64)) + 3) % (3 : Int64)).toInt = 0 ∨ (((x % (3 : Int64)) + 3) % (3 : Int64)).toInt = 1 ∨ (((x % (3 : Int64)) + 3) % (3 : Int64)).toInt = 2 := by omega
  rcases h with h | h | h
  · exact Or.inl (Int64.toInt_inj.mp (h.trans (by decide)))
  · exact Or.inr (Or.inl (Int64.toInt_inj.mp (h.trans (by decide))))
  · exact Or.inr (Or.inr (Int64.toInt_inj.mp (h.trans (by decide))))
def Q_rm_values (Z : State) (va : Addr) (kv : ClassId) (w0 w1 w2 : Addr) (h0 : Heap) (n0 : Nat) (v : Option Value) (h : Heap) (L : List Loc) : Prop := ∃ b, v = some (.ref b) ∧ Fr n0 L ∧ n0 ≤ b ∧ Keep h0 h [] ∧ Arv Z h b kv (.object "com/example/weft/weft/engine/Argon2Type") (3 : Int32) [(.ref w0), (.ref w1), (.ref w2)] .null
set_option maxRecDepth 65536 in
set_option maxHeartbeats 40000000 in
theorem rm_values (l : Launch) (Z : State) (a0 : Array Value) (hw : ∀ d ∈ tables_1, d.before a0 Z = true) (ws : List Jvm.Cond) (va : Addr) (kv : ClassId) (w0 w1 w2 : Addr) (h0 : Heap) (n0 : Nat) (O0 : Old Z n0 h0) (S_v : Sta Z Z.heap "com/example/weft/weft/engine/Argon2Type" "$VALUES" "[Lcom/example/weft/weft/engine/Argon2Type;" (.ref va)) (V_v : Arv Z Z.heap va kv (.object "com/example/weft/weft/engine/Argon2Type") (3 : Int32) [(.ref w0), (.ref w1), (.ref w2)] .null) (E_v : Exa Z Z.heap va "[Lcom/example/weft/weft/engine/Argon2Type;") :
    MetFree l (⟨"com/example/weft/weft/engine/Argon2Type", "values", "()[Lcom/example/weft/weft/engine/Argon2Type;"⟩ : MethodName) (head1 (Jvm.Cond.code (⟨"com/example/weft/weft/engine/Argon2Type", "values", "()[Lcom/example/weft/weft/engine/Argon2Type;"⟩ : MethodName) prog_24_method_1_code 0 (some (.array (.object "com/example/weft/weft/engine/Argon2Type"))) :: ws) ({ frames := 1, cells := 1, slots := 3, locals := 14 } : Room)) (fun ar U => ar = #[] ∧ Z.Warmed39 U.vm ∧ U.heap = h0) (fun _ _ _ _ _ => True) (fun _ U o U' => ∃ v L, o = .returned v ∧ Q_rm_values Z va kv w0 w1 w2 h0 n0 v U'.heap L ∧ FrameEnd U o U' L ({ frames := 1, cells := 1, slots := 3, locals := 14 } : Room).cells ({ frames := 1, cells := 1, slots := 3, locals := 14 } : Room).slots) := by
  refine own_enter (Q := (Q_rm_values Z va kv w0 w1 w2 h0 n0)) pl_2 ?_
  intro p e s m below meth c s₁ X0 hx hZ hby hml hown hnm hret hlk e0
  have N0 := Fr.nil n0
  refine own_by (fun tz kz => castTop (g' := (mkF m 0 #[] [])) (by first | rfl | (simp [entryFrame, mkF, argsToLocals, Value.category]; done)) kz) ?_
  have K0 := Keep.refl h0 []
  show own_Go p e below s _ _ (s₁.setTop (mkF m 0 #[] []))
  obtain ⟨T1, X1, e1, st1⟩ := getS2 X0 hx hZ hown (host := "") (Or.inl (hw _ (List.mem_of_getElem? (i := 8) rfl))) Via.refl e0 (S_v.ext O0.2) (g := (mkF m 0 #[] [])) rfl (hb hby d2_0)
  refine own_by st1 ?_
  show own_Go p e below s _ _ (T1.setTop (mkF m 3 #[] [(.ref va)]))
  obtain ⟨T2, h2, X2, e2, E2, V2, A2, st2⟩ := cloneH X1 hx hZ hown (hw _ (List.mem_of_getElem? (i := 10) rfl)) (hw _ (List.mem_of_getElem? (i := 11) rfl)) (hw _ (List.mem_of_getElem? (i := 15) rfl)) (hw _ (List.mem_of_getElem? (i := 13) rfl)) (hw _ (List.mem_of_getElem? (i := 14) rfl)) (hw _ (List.mem_of_getElem? (i := 16) rfl)) e1 (Arv.arh (Arv.ext V_v O0.2)) (E_v.ext O0.2) (g := (mkF m 3 #[] [(.ref va)])) rfl (by rw [hml]; rfl) rfl (hb hby d2_3) (by decide) (W := 0) (cap := 3) (by show 2 * 0 + _ ≤ _; exact Nat.le_of_eq rfl) (by decide) (by decide) (by decide) (by decide)
  obtain ⟨b2, g2⟩ : ∃ z, z = h0.size := ⟨_, rfl⟩
  rw [← g2] at V2 A2 st2
  have g_b2 : n0 ≤ b2 := by rw [g2]; exact O0.1 ▸ O0.2.1
  have sz_b2 : h0.size ≤ b2 := by rw [g2]; exact K0.1
  have O2 := O0.ext E2
  have K2 := K0.ext E2
  refine own_by st2 ?_
  have Vc2 : Arv Z h2 b2 kv (.object "com/example/weft/weft/engine/Argon2Type") (3 : Int32) [(.ref w0), (.ref w1), (.ref w2)] .null := V2
  show own_Go p e below s _ _ (T2.setTop (mkF m 6 #[] [(.ref b2)]))
  obtain ⟨T3, X3, e3, st3⟩ := castY X2 hx hZ hown (hw _ (List.mem_of_getElem? (i := 21) rfl)) e2 (Ins.self A2) (g := (mkF m 6 #[] [(.ref b2)])) rfl rfl (hb hby d2_6)
  refine own_by st3 ?_
  show own_Go p e below s _ _ (T3.setTop (mkF m 9 #[] [(.ref b2)]))
  refine own_retA X3 hx hlk (t := (.array (.object "com/example/weft/weft/engine/Argon2Type"))) hret rfl rfl (hb hby d2_9) ?_ (by decide) (by decide)
  exact ⟨b2, rfl, N0, g_b2, by rw [e3]; exact K2, by rw [e3]; exact Vc2⟩
def Q_rm_of0 (Z : State) (va : Addr) (kv : ClassId) (w0 w1 w2 : Addr) (h0 : Heap) (n0 : Nat) (v : Option Value) (h : Heap) (L : List Loc) : Prop := v = some (.ref w0) ∧ Fr n0 L ∧ Keep h0 h []
set_option maxRecDepth 65536 in
set_option maxHeartbeats 40000000 in
theorem rm_of0 (l : Launch) (Z : State) (a0 : Array Value) (hw : ∀ d ∈ tables_1, d.before a0 Z = true) (ws : List Jvm.Cond) (va : Addr) (kv : ClassId) (w0 w1 w2 : Addr) (h0 : Heap) (n0 : Nat) (O0 : Old Z n0 h0) (S_v : Sta Z Z.heap "com/example/weft/weft/engine/Argon2Type" "$VALUES" "[Lcom/example/weft/weft/engine/Argon2Type;" (.ref va)) (V_v : Arv Z Z.heap va kv (.object "com/example/weft/weft/engine/Argon2Type") (3 : Int32) [(.ref w0), (.ref w1), (.ref w2)] .null) (E_v : Exa Z Z.heap va "[Lcom/example/weft/weft/engine/Argon2Type;") (F_0 : Fld Z Z.heap w0 "com/example/weft/weft/engine/Argon2Type" "number" "I" (.int (0 : Int32))) (F_1 : Fld Z Z.heap w1 "com/example/weft/weft/engine/Argon2Type" "number" "I" (.int (1 : Int32))) (F_2 : Fld Z Z.heap w2 "com/example/weft/weft/engine/Argon2Type" "number" "I" (.int (2 : Int32))) :
    MetFree l (⟨"com/example/weft/weft/engine/Argon2Type", "fromNumber", "(J)Lcom/example/weft/weft/engine/Argon2Type;"⟩ : MethodName) (head1 (Jvm.Cond.code (⟨"com/example/weft/weft/engine/Argon2Type", "fromNumber", "(J)Lcom/example/weft/weft/engine/Argon2Type;"⟩ : MethodName) prog_24_method_4_code 6 (some (.object "com/example/weft/weft/engine/Argon2Type")) :: ws) ({ frames := 2, cells := 1, slots := 3, locals := 25 } : Room)) (fun ar U => ar = #[(.long (0 : Int64))] ∧ Z.Warmed39 U.vm ∧ U.heap = h0) (fun _ _ _ _ _ => True) (fun _ U o U' => ∃ v L, o = .returned v ∧ Q_rm_of0 Z va kv w0 w1 w2 h0 n0 v U'.heap L ∧ FrameEnd U o U' L ({ frames := 2, cells := 1, slots := 3, locals := 25 } : Room).cells ({ frames := 2, cells := 1, slots := 3, locals := 25 } : Room).slots) := by
  refine own_enter (Q := (Q_rm_of0 Z va kv w0 w1 w2 h0 n0)) pl_1 ?_
  intro p e s m below meth c s₁ X0 hx hZ hby hml hown hnm hret hlk e0
  have N0 := Fr.nil n0
  refine own_by (fun tz kz => castTop (g' := (mkF m 0 #[.val (.long (0 : Int64)), .second, .unset, .unset, .unset, .unset] [])) (by first | rfl | (simp [entryFrame, mkF, argsToLocals, Value.category]; done)) kz) ?_
  have K0 := Keep.refl h0 []
  show own_Go p e below s _ _ (s₁.setTop (mkF m 0 #[.val (.long (0 : Int64)), .second, .unset, .unset, .unset, .unset] []))
  obtain ⟨_, _, ⟨T1, L1, k1, n1⟩, -, X1, ⟨Lc1, hQ1, l1, y1, z1⟩, st1⟩ := Jvm.LawKit.callS X0 hx (y := (⟨"com/example/weft/weft/engine/Argon2Type", "values", "()[Lcom/example/weft/weft/engine/Argon2Type;"⟩ : MethodName)) hown (mvT hZ (hw _ (List.mem_of_getElem? (i := 5) rfl))) (mvT hZ (hw _ (List.mem_of_getElem? (i := 6) rfl))) (mvT hZ (hw _ (List.mem_of_getElem? (i := 3) rfl))) (mvT hZ (hw _ (List.mem_of_getElem? (i := 7) rfl))) (by decide) (backOf (W := 0) (rm_values l Z a0 hw [] va kv w0 w1 w2 h0 n0 O0 S_v V_v E_v) hZ (hw _ (List.mem_of_getElem? (i := 7) rfl)) (hw _ (List.mem_of_getElem? (i := 3) rfl)) (by decide) (by decide)) (g := (mkF m 0 #[.val (.long (0 : Int64)), .second, .unset, .unset, .unset, .unset] [])) rfl (by rw [hml]; rfl) (argsL := []) (rest := []) (lenOf pd_1 rfl) rfl (by show 2 * 0 + _ ≤ _; exact Nat.le_of_eq rfl) (hb hby d1_0) (fun _ _ => ⟨rfl, e0, (by decide : 0 + 1 ≤ _), (by decide : 0 + 3 ≤ _)⟩)
  dsimp only [Pt.U, Pt.locs, Pt.cells, Pt.slots] at X1 l1 y1 z1 st1 hQ1
  rw [l1, y1, z1] at X1
  obtain ⟨b1, rfl, Nq1, g_b1, Kq1, Vq1⟩ := hQ1
  have N1 := Fr.app N0 Nq1
  have e1 : T1.heap = T1.heap := rfl
  refine own_by st1 ?_
  have O1 := O0.keep Kq1 all0
  have K1 := K0.trans Kq1 all0
  show own_Go p e below s _ _ (T1.setTop (mkF m 3 #[.val (.long (0 : Int64)), .second, .unset, .unset, .unset, .unset] [(.ref b1)]))
  refine own_by (fun tz kz => XS.astoreN X1.here hx rfl (hb hby d1_3) rfl rfl (l' := #[.val (.long (0 : Int64)), .second, .val (.ref b1), .unset, .unset, .unset]) rfl kz) ?_
  show own_Go p e below s _ _ (T1.setTop (mkF m 4 #[.val (.long (0 : Int64)), .second, .val (.ref b1), .unset, .unset, .unset] []))
  refine own_by (fun tz kz => XS.aloadN X1.here hx rfl (hb hby d1_4) rfl rfl kz) ?_
  show own_Go p e below s _ _ (T1.setTop (mkF m 5 #[.val (.long (0 : Int64)), .second, .val (.ref b1), .unset, .unset, .unset] [(.ref b1)]))
  obtain ⟨c2, Ar2, q2, S2, M2, Hh2, G2⟩ := id Vq1
  refine own_by (fun tz kz => X1.arraylength hx (by rw [e1]; exact Ar2.1) (State.isArrayOf_alike hZ.alike Ar2.2.1) (g := (mkF m 5 #[.val (.long (0 : Int64)), .second, .val (.ref b1), .unset, .unset, .unset] [(.ref b1)])) rfl rfl (hb hby d1_5) _ kz) ?_
  rw [len_of S2 M2]
  show own_Go p e below s _ _ (T1.setTop (mkF m 6 #[.val (.long (0 : Int64)), .second, .val (.ref b1), .unset, .unset, .unset] [(.int (3 : Int32))]))
  refine own_by (fun tz kz => XS.istoreN X1.here hx rfl (hb hby d1_6) rfl (l' := #[.val (.long (0 : Int64)), .second, .val (.ref b1), .val (.int (3 : Int32)), .unset, .unset]) rfl kz) ?_
  show own_Go p e below s _ _ (T1.setTop (mkF m 7 #[.val (.long (0 : Int64)), .second, .val (.ref b1), .val (.int (3 : Int32)), .unset, .unset] []))
  refine own_by (fun tz kz => XS.iconst X1.here hx rfl (hb hby d1_7) kz) ?_
  show own_Go p e below s _ _ (T1.setTop (mkF m 8 #[.val (.long (0 : Int64)), .second, .val (.ref b1), .val (.int (3 : Int32)), .unset, .unset] [(.int (0 : Int32))]))
  refine own_by (fun tz kz => XS.istore X1.here hx rfl (hb hby d1_8) rfl (l' := #[.val (.long (0 : Int64)), .second, .val (.ref b1), .val (.int (3 : Int32)), .val (.int (0 : Int32)), .unset]) rfl kz) ?_
  show own_Go p e below s _ _ (T1.setTop (mkF m 10 #[.val (.long (0 : Int64)), .second, .val (.ref b1), .val (.int (3 : Int32)), .val (.int (0 : Int32)), .unset] []))
  refine own_by (fun tz kz => XS.iload X1.here hx rfl (hb hby d1_10) rfl  kz) ?_
  show own_Go p e below s _ _ (T1.setTop (mkF m 12 #[.val (.long (0 : Int64)), .second, .val (.ref b1), .val (.int (3 : Int32)), .val (.int (0 : Int32)), .unset] [(.int (0 : Int32))]))
  refine own_by (fun tz kz => XS.iloadN X1.here hx rfl (hb hby d1_12) rfl  kz) ?_
  show own_Go p e below s _ _ (T1.setTop (mkF m 13 #[.val (.long (0 : Int64)), .second, .val (.ref b1), .val (.int (3 : Int32)), .val (.int (0 : Int32)), .unset] [(.int (3 : Int32)), (.int (0 : Int32))]))
  refine own_by (fun tz kz => XS.icmpNo X1.here hx rfl (hb hby d1_13) rfl (tlt (by decide : (0 : Int32) < (3 : Int32))).2.1 kz) ?_
  show own_Go p e below s _ _ (T1.setTop (mkF m 16 #[.val (.long (0 : Int64)), .second, .val (.ref b1), .val (.int (3 : Int32)), .val (.int (0 : Int32)), .unset] []))
  refine own_by (fun tz kz => XS.aloadN X1.here hx rfl (hb hby d1_16) rfl rfl kz) ?_
  show own_Go p e below s _ _ (T1.setTop (mkF m 17 #[.val (.long (0 : Int64)), .second, .val (.ref b1), .val (.int (3 : Int32)), .val (.int (0 : Int32)), .unset] [(.ref b1)]))
  refine own_by (fun tz kz => XS.iload X1.here hx rfl (hb hby d1_17) rfl  kz) ?_
  show own_Go p e below s _ _ (T1.setTop (mkF m 19 #[.val (.long (0 : Int64)), .second, .val (.ref b1), .val (.int (3 : Int32)), .val (.int (0 : Int32)), .unset] [(.int (0 : Int32)), (.ref b1)]))
  obtain ⟨c3, Ar3, q3, S3, M3, Hh3, G3⟩ := id Vq1
  have hin3 : ¬ ((0 : Int32) < 0 ∨ c3.slots.size ≤ ((0 : Int32)).toNatClampNeg) := inb_of S3 ⟨by decide, by decide⟩
  have hat3 := Has.at Hh3 hin3 (v := (.ref w0)) rfl
  refine own_by (fun tz kz => X1.aaload hx (j := (0 : Int32)) (v := (.ref w0)) (by rw [e1]; exact Ar3.1) (State.isArrayOf_alike hZ.alike Ar3.2.1) rfl Ar3.2.2 hin3 hat3 (g := (mkF m 19 #[.val (.long (0 : Int64)), .second, .val (.ref b1), .val (.int (3 : Int32)), .val (.int (0 : Int32)), .unset] [(.int (0 : Int32)), (.ref b1)])) rfl rfl (hb hby d1_19) _ kz) ?_
  show own_Go p e below s _ _ (T1.setTop (mkF m 20 #[.val (.long (0 : Int64)), .second, .val (.ref b1), .val (.int (3 : Int32)), .val (.int (0 : Int32)), .unset] [(.ref w0)]))
  refine own_by (fun tz kz => XS.astore X1.here hx rfl (hb hby d1_20) rfl rfl (l' := #[.val (.long (0 : Int64)), .second, .val (.ref b1), .val (.int (3 : Int32)), .val (.int (0 : Int32)), .val (.ref w0)]) rfl kz) ?_
  show own_Go p e below s _ _ (T1.setTop (mkF m 22 #[.val (.long (0 : Int64)), .second, .val (.ref b1), .val (.int (3 : Int32)), .val (.int (0 : Int32)), .val (.ref w0)] []))
  refine own_by (fun tz kz => XS.aload X1.here hx rfl (hb hby d1_22) rfl rfl kz) ?_
  show own_Go p e below s _ _ (T1.setTop (mkF m 24 #[.val (.long (0 : Int64)), .second, .val (.ref b1), .val (.int (3 : Int32)), .val (.int (0 : Int32)), .val (.ref w0)] [(.ref w0)]))
  obtain ⟨T4, X4, e4, st4⟩ := getF X1 hx hZ hown (host := "") (Or.inl (hw _ (List.mem_of_getElem? (i := 23) rfl))) Via.refl e1 (F_0.ext O1.2) (g := (mkF m 24 #[.val (.long (0 : Int64)), .second, .val (.ref b1), .val (.int (3 : Int32)), .val (.int (0 : Int32)), .val (.ref w0)] [(.ref w0)])) rfl rfl (hb hby d1_24)
  refine own_by st4 ?_
  show own_Go p e below s _ _ (T4.setTop (mkF m 27 #[.val (.long (0 : Int64)), .second, .val (.ref b1), .val (.int (3 : Int32)), .val (.int (0 : Int32)), .val (.ref w0)] [(.int (0 : Int32))]))
  refine own_by (fun tz kz => XS.i2l X4.here hx rfl (hb hby d1_27) rfl kz) ?_
  show own_Go p e below s _ _ (T4.setTop (mkF m 28 #[.val (.long (0 : Int64)), .second, .val (.ref b1), .val (.int (3 : Int32)), .val (.int (0 : Int32)), .val (.ref w0)] [(.long ((0 : Int32).toInt64))]))
  refine own_by (fun tz kz => XS.lloadN X4.here hx rfl (hb hby d1_28) rfl kz) ?_
  show own_Go p e below s _ _ (T4.setTop (mkF m 29 #[.val (.long (0 : Int64)), .second, .val (.ref b1), .val (.int (3 : Int32)), .val (.int (0 : Int32)), .val (.ref w0)] [(.long (0 : Int64)), (.long ((0 : Int32).toInt64))]))
  refine own_by (fun tz kz => XS.lcmp X4.here hx rfl (hb hby d1_29) rfl kz) ?_
  show own_Go p e below s _ _ (T4.setTop (mkF m 30 #[.val (.long (0 : Int64)), .second, .val (.ref b1), .val (.int (3 : Int32)), .val (.int (0 : Int32)), .val (.ref w0)] [(.int (lcmpW ((0 : Int32).toInt64) (0 : Int64)))]))
  refine own_by (fun tz kz => XS.ifNo X4.here hx rfl (hb hby d1_30) rfl ((if0 _ _).trans (teq ((lw_eq ((0 : Int32).toInt64) (0 : Int64)).mpr (by decide : ((0 : Int32).toInt64) = (0 : Int64)))).2) kz) ?_
  show own_Go p e below s _ _ (T4.setTop (mkF m 33 #[.val (.long (0 : Int64)), .second, .val (.ref b1), .val (.int (3 : Int32)), .val (.int (0 : Int32)), .val (.ref w0)] []))
  refine own_by (fun tz kz => XS.aload X4.here hx rfl (hb hby d1_33) rfl rfl kz) ?_
  show own_Go p e below s _ _ (T4.setTop (mkF m 35 #[.val (.long (0 : Int64)), .second, .val (.ref b1), .val (.int (3 : Int32)), .val (.int (0 : Int32)), .val (.ref w0)] [(.ref w0)]))
  refine own_retA X4 hx hlk (t := (.object "com/example/weft/weft/engine/Argon2Type")) hret rfl rfl (hb hby d1_35) ?_ (by decide) (by decide)
  exact ⟨rfl, N1, by rw [e4]; exact K1⟩
def Q_rm_of1 (Z : State) (va : Addr) (kv : ClassId) (w0 w1 w2 : Addr) (h0 : Heap) (n0 : Nat) (v : Option Value) (h : Heap) (L : List Loc) : Prop := v = some (.ref w1) ∧ Fr n0 L ∧ Keep h0 h []
set_option maxRecDepth 65536 in
set_option maxHeartbeats 40000000 in
theorem rm_of1 (l : Launch) (Z : State) (a0 : Array Value) (hw : ∀ d ∈ tables_1, d.before a0 Z = true) (ws : List Jvm.Cond) (va : Addr) (kv : ClassId) (w0 w1 w2 : Addr) (h0 : Heap) (n0 : Nat) (O0 : Old Z n0 h0) (S_v : Sta Z Z.heap "com/example/weft/weft/engine/Argon2Type" "$VALUES" "[Lcom/example/weft/weft/engine/Argon2Type;" (.ref va)) (V_v : Arv Z Z.heap va kv (.object "com/example/weft/weft/engine/Argon2Type") (3 : Int32) [(.ref w0), (.ref w1), (.ref w2)] .null) (E_v : Exa Z Z.heap va "[Lcom/example/weft/weft/engine/Argon2Type;") (F_0 : Fld Z Z.heap w0 "com/example/weft/weft/engine/Argon2Type" "number" "I" (.int (0 : Int32))) (F_1 : Fld Z Z.heap w1 "com/example/weft/weft/engine/Argon2Type" "number" "I" (.int (1 : Int32))) (F_2 : Fld Z Z.heap w2 "com/example/weft/weft/engine/Argon2Type" "number" "I" (.int (2 : Int32))) :
    MetFree l (⟨"com/example/weft/weft/engine/Argon2Type", "fromNumber", "(J)Lcom/example/weft/weft/engine/Argon2Type;"⟩ : MethodName) (head1 (Jvm.Cond.code (⟨"com/example/weft/weft/engine/Argon2Type", "fromNumber", "(J)Lcom/example/weft/weft/engine/Argon2Type;"⟩ : MethodName) prog_24_method_4_code 6 (some (.object "com/example/weft/weft/engine/Argon2Type")) :: ws) ({ frames := 2, cells := 1, slots := 3, locals := 25 } : Room)) (fun ar U => ar = #[(.long (1 : Int64))] ∧ Z.Warmed39 U.vm ∧ U.heap = h0) (fun _ _ _ _ _ => True) (fun _ U o U' => ∃ v L, o = .returned v ∧ Q_rm_of1 Z va kv w0 w1 w2 h0 n0 v U'.heap L ∧ FrameEnd U o U' L ({ frames := 2, cells := 1, slots := 3, locals := 25 } : Room).cells ({ frames := 2, cells := 1, slots := 3, locals := 25 } : Room).slots) := by
  refine own_enter (Q := (Q_rm_of1 Z va kv w0 w1 w2 h0 n0)) pl_1 ?_
  intro p e s m below meth c s₁ X0 hx hZ hby hml hown hnm hret hlk e0
  have N0 := Fr.nil n0
  refine own_by (fun tz kz => castTop (g' := (mkF m 0 #[.val (.long (1 : Int64)), .second, .unset, .unset, .unset, .unset] [])) (by first | rfl | (simp [entryFrame, mkF, argsToLocals, Value.category]; done)) kz) ?_
  have K0 := Keep.refl h0 []
  show own_Go p e below s _ _ (s₁.setTop (mkF m 0 #[.val (.long (1 : Int64)), .second, .unset, .unset, .unset, .unset] []))
  obtain ⟨_, _, ⟨T1, L1, k1, n1⟩, -, X1, ⟨Lc1, hQ1, l1, y1, z1⟩, st1⟩ := Jvm.LawKit.callS X0 hx (y := (⟨"com/example/weft/weft/engine/Argon2Type", "values", "()[Lcom/example/weft/weft/engine/Argon2Type;"⟩ : MethodName)) hown (mvT hZ (hw _ (List.mem_of_getElem? (i := 5) rfl))) (mvT hZ (hw _ (List.mem_of_getElem? (i := 6) rfl))) (mvT hZ (hw _ (List.mem_of_getElem? (i := 3) rfl))) (mvT hZ (hw _ (List.mem_of_getElem? (i := 7) rfl))) (by decide) (backOf (W := 0) (rm_values l Z a0 hw [] va kv w0 w1 w2 h0 n0 O0 S_v V_v E_v) hZ (hw _ (List.mem_of_getElem? (i := 7) rfl)) (hw _ (List.mem_of_getElem? (i := 3) rfl)) (by decide) (by decide)) (g := (mkF m 0 #[.val (.long (1 : Int64)), .second, .unset, .unset, .unset, .unset] [])) rfl (by rw [hml]; rfl) (argsL := []) (rest := []) (lenOf pd_1 rfl) rfl (by show 2 * 0 + _ ≤ _; exact Nat.le_of_eq rfl) (hb hby d1_0) (fun _ _ => ⟨rfl, e0, (by decide : 0 + 1 ≤ _), (by decide : 0 + 3 ≤ _)⟩)
  dsimp only [Pt.U, Pt.locs, Pt.cells, Pt.slots] at X1 l1 y1 z1 st1 hQ1
  rw [l1, y1, z1] at X1
  obtain ⟨b1, rfl, Nq1, g_b1, Kq1, Vq1⟩ := hQ1
  have N1 := Fr.app N0 Nq1
  have e1 : T1.heap = T1.heap := rfl
  refine own_by st1 ?_
  have O1 := O0.keep Kq1 all0
  have K1 := K0.trans Kq1 all0
  show own_Go p e below s _ _ (T1.setTop (mkF m 3 #[.val (.long (1 : Int64)), .second, .unset, .unset, .unset, .unset] [(.ref b1)]))
  refine own_by (fun tz kz => XS.astoreN X1.here hx rfl (hb hby d1_3) rfl rfl (l' := #[.val (.long (1 : Int64)), .second, .val (.ref b1), .unset, .unset, .unset]) rfl kz) ?_
  show own_Go p e below s _ _ (T1.setTop (mkF m 4 #[.val (.long (1 : Int64)), .second, .val (.ref b1), .unset, .unset, .unset] []))
  refine own_by (fun tz kz => XS.aloadN X1.here hx rfl (hb hby d1_4) rfl rfl kz) ?_
  show own_Go p e below s _ _ (T1.setTop (mkF m 5 #[.val (.long (1 : Int64)), .second, .val (.ref b1), .unset, .unset, .unset] [(.ref b1)]))
  obtain ⟨c2, Ar2, q2, S2, M2, Hh2, G2⟩ := id Vq1
  refine own_by (fun tz kz => X1.arraylength hx (by rw [e1]; exact Ar2.1) (State.isArrayOf_alike hZ.alike Ar2.2.1) (g := (mkF m 5 #[.val (.long (1 : Int64)), .second, .val (.ref b1), .unset, .unset, .unset] [(.ref b1)])) rfl rfl (hb hby d1_5) _ kz) ?_
  rw [len_of S2 M2]
  show own_Go p e below s _ _ (T1.setTop (mkF m 6 #[.val (.long (1 : Int64)), .second, .val (.ref b1), .unset, .unset, .unset] [(.int (3 : Int32))]))
  refine own_by (fun tz kz => XS.istoreN X1.here hx rfl (hb hby d1_6) rfl (l' := #[.val (.long (1 : Int64)), .second, .val (.ref b1), .val (.int (3 : Int32)), .unset, .unset]) rfl kz) ?_
  show own_Go p e below s _ _ (T1.setTop (mkF m 7 #[.val (.long (1 : Int64)), .second, .val (.ref b1), .val (.int (3 : Int32)), .unset, .unset] []))
  refine own_by (fun tz kz => XS.iconst X1.here hx rfl (hb hby d1_7) kz) ?_
  show own_Go p e below s _ _ (T1.setTop (mkF m 8 #[.val (.long (1 : Int64)), .second, .val (.ref b1), .val (.int (3 : Int32)), .unset, .unset] [(.int (0 : Int32))]))
  refine own_by (fun tz kz => XS.istore X1.here hx rfl (hb hby d1_8) rfl (l' := #[.val (.long (1 : Int64)), .second, .val (.ref b1), .val (.int (3 : Int32)), .val (.int (0 : Int32)), .unset]) rfl kz) ?_
  show own_Go p e below s _ _ (T1.setTop (mkF m 10 #[.val (.long (1 : Int64)), .second, .val (.ref b1), .val (.int (3 : Int32)), .val (.int (0 : Int32)), .unset] []))
  refine own_by (fun tz kz => XS.iload X1.here hx rfl (hb hby d1_10) rfl  kz) ?_
  show own_Go p e below s _ _ (T1.setTop (mkF m 12 #[.val (.long (1 : Int64)), .second, .val (.ref b1), .val (.int (3 : Int32)), .val (.int (0 : Int32)), .unset] [(.int (0 : Int32))]))
  refine own_by (fun tz kz => XS.iloadN X1.here hx rfl (hb hby d1_12) rfl  kz) ?_
  show own_Go p e below s _ _ (T1.setTop (mkF m 13 #[.val (.long (1 : Int64)), .second, .val (.ref b1), .val (.int (3 : Int32)), .val (.int (0 : Int32)), .unset] [(.int (3 : Int32)), (.int (0 : Int32))]))
  refine own_by (fun tz kz => XS.icmpNo X1.here hx rfl (hb hby d1_13) rfl (tlt (by decide : (0 : Int32) < (3 : Int32))).2.1 kz) ?_
  show own_Go p e below s _ _ (T1.setTop (mkF m 16 #[.val (.long (1 : Int64)), .second, .val (.ref b1), .val (.int (3 : Int32)), .val (.int (0 : Int32)), .unset] []))
  refine own_by (fun tz kz => XS.aloadN X1.here hx rfl (hb hby d1_16) rfl rfl kz) ?_
  show own_Go p e below s _ _ (T1.setTop (mkF m 17 #[.val (.long (1 : Int64)), .second, .val (.ref b1), .val (.int (3 : Int32)), .val (.int (0 : Int32)), .unset] [(.ref b1)]))
  refine own_by (fun tz kz => XS.iload X1.here hx rfl (hb hby d1_17) rfl  kz) ?_
  show own_Go p e below s _ _ (T1.setTop (mkF m 19 #[.val (.long (1 : Int64)), .second, .val (.ref b1), .val (.int (3 : Int32)), .val (.int (0 : Int32)), .unset] [(.int (0 : Int32)), (.ref b1)]))
  obtain ⟨c3, Ar3, q3, S3, M3, Hh3, G3⟩ := id Vq1
  have hin3 : ¬ ((0 : Int32) < 0 ∨ c3.slots.size ≤ ((0 : Int32)).toNatClampNeg) := inb_of S3 ⟨by decide, by decide⟩
  have hat3 := Has.at Hh3 hin3 (v := (.ref w0)) rfl
  refine own_by (fun tz kz => X1.aaload hx (j := (0 : Int32)) (v := (.ref w0)) (by rw [e1]; exact Ar3.1) (State.isArrayOf_alike hZ.alike Ar3.2.1) rfl Ar3.2.2 hin3 hat3 (g := (mkF m 19 #[.val (.long (1 : Int64)), .second, .val (.ref b1), .val (.int (3 : Int32)), .val (.int (0 : Int32)), .unset] [(.int (0 : Int32)), (.ref b1)])) rfl rfl (hb hby d1_19) _ kz) ?_
  show own_Go p e below s _ _ (T1.setTop (mkF m 20 #[.val (.long (1 : Int64)), .second, .val (.ref b1), .val (.int (3 : Int32)), .val (.int (0 : Int32)), .unset] [(.ref w0)]))
  refine own_by (fun tz kz => XS.astore X1.here hx rfl (hb hby d1_20) rfl rfl (l' := #[.val (.long (1 : Int64)), .second, .val (.ref b1), .val (.int (3 : Int32)), .val (.int (0 : Int32)), .val (.ref w0)]) rfl kz) ?_
  show own_Go p e below s _ _ (T1.setTop (mkF m 22 #[.val (.long (1 : Int64)), .second, .val (.ref b1), .val (.int (3 : Int32)), .val (.int (0 : Int32)), .val (.ref w0)] []))
  refine own_by (fun tz kz => XS.aload X1.here hx rfl (hb hby d1_22) rfl rfl kz) ?_
  show own_Go p e below s _ _ (T1.setTop (mkF m 24 #[.val (.long (1 : Int64)), .second, .val (.ref b1), .val (.int (3 : Int32)), .val (.int (0 : Int32)), .val (.ref w0)] [(.ref w0)]))
  obtain ⟨T4, X4, e4, st4⟩ := getF X1 hx hZ hown (host := "") (Or.inl (hw _ (List.mem_of_getElem? (i := 23) rfl))) Via.refl e1 (F_0.ext O1.2) (g := (mkF m 24 #[.val (.long (1 : Int64)), .second, .val (.ref b1), .val (.int (3 : Int32)), .val (.int (0 : Int32)), .val (.ref w0)] [(.ref w0)])) rfl rfl (hb hby d1_24)
  refine own_by st4 ?_
  show own_Go p e below s _ _ (T4.setTop (mkF m 27 #[.val (.long (1 : Int64)), .second, .val (.ref b1), .val (.int (3 : Int32)), .val (.int (0 : Int32)), .val (.ref w0)] [(.int (0 : Int32))]))
  refine own_by (fun tz kz => XS.i2l X4.here hx rfl (hb hby d1_27) rfl kz) ?_
  show own_Go p e below s _ _ (T4.setTop (mkF m 28 #[.val (.long (1 : Int64)), .second, .val (.ref b1), .val (.int (3 : Int32)), .val (.int (0 : Int32)), .val (.ref w0)] [(.long ((0 : Int32).toInt64))]))
  refine own_by (fun tz kz => XS.lloadN X4.here hx rfl (hb hby d1_28) rfl kz) ?_
  show own_Go p e below s _ _ (T4.setTop (mkF m 29 #[.val (.long (1 : Int64)), .second, .val (.ref b1), .val (.int (3 : Int32)), .val (.int (0 : Int32)), .val (.ref w0)] [(.long (1 : Int64)), (.long ((0 : Int32).toInt64))]))
  refine own_by (fun tz kz => XS.lcmp X4.here hx rfl (hb hby d1_29) rfl kz) ?_
  show own_Go p e below s _ _ (T4.setTop (mkF m 30 #[.val (.long (1 : Int64)), .second, .val (.ref b1), .val (.int (3 : Int32)), .val (.int (0 : Int32)), .val (.ref w0)] [(.int (lcmpW ((0 : Int32).toInt64) (1 : Int64)))]))
  refine own_by (fun tz kz => XS.ifYes X4.here hx rfl (pc0 := 30) (pc' := 36) rfl (hb hby d1_30) rfl ((if0 _ _).trans (feq (fun q => (by decide : ¬ ((0 : Int32).toInt64) = (1 : Int64)) ((lw_eq ((0 : Int32).toInt64) (1 : Int64)).mp q))).2) (by decide) (by decide) kz) ?_
  show own_Go p e below s _ _ (T4.setTop (mkF m 36 #[.val (.long (1 : Int64)), .second, .val (.ref b1), .val (.int (3 : Int32)), .val (.int (0 : Int32)), .val (.ref w0)] []))
  refine own_by (fun tz kz => XS.iinc X4.here hx rfl (hb hby d1_36) rfl (l' := #[.val (.long (1 : Int64)), .second, .val (.ref b1), .val (.int (3 : Int32)), .val (.int ((0 : Int32) + (1 : Int32))), .val (.ref w0)]) rfl kz) ?_
  show own_Go p e below s _ _ (T4.setTop (mkF m 39 #[.val (.long (1 : Int64)), .second, .val (.ref b1), .val (.int (3 : Int32)), .val (.int ((0 : Int32) + (1 : Int32))), .val (.ref w0)] []))
  refine own_by (fun tz kz => XS.goto X4.here hx rfl (pc0 := 39) (pc' := 10) rfl (hb hby d1_39) (by decide) (by decide) kz) ?_
  show own_Go p e below s _ _ (T4.setTop (mkF m 10 #[.val (.long (1 : Int64)), .second, .val (.ref b1), .val (.int (3 : Int32)), .val (.int ((0 : Int32) + (1 : Int32))), .val (.ref w0)] []))
  refine own_by (fun tz kz => XS.iload X4.here hx rfl (hb hby d1_10) rfl  kz) ?_
  show own_Go p e below s _ _ (T4.setTop (mkF m 12 #[.val (.long (1 : Int64)), .second, .val (.ref b1), .val (.int (3 : Int32)), .val (.int ((0 : Int32) + (1 : Int32))), .val (.ref w0)] [(.int ((0 : Int32) + (1 : Int32)))]))
  refine own_by (fun tz kz => XS.iloadN X4.here hx rfl (hb hby d1_12) rfl  kz) ?_
  show own_Go p e below s _ _ (T4.setTop (mkF m 13 #[.val (.long (1 : Int64)), .second, .val (.ref b1), .val (.int (3 : Int32)), .val (.int ((0 : Int32) + (1 : Int32))), .val (.ref w0)] [(.int (3 : Int32)), (.int ((0 : Int32) + (1 : Int32)))]))
  refine own_by (fun tz kz => XS.icmpNo X4.here hx rfl (hb hby d1_13) rfl (tlt (by decide : ((0 : Int32) + (1 : Int32)) < (3 : Int32))).2.1 kz) ?_
  show own_Go p e below s _ _ (T4.setTop (mkF m 16 #[.val (.long (1 : Int64)), .second, .val (.ref b1), .val (.int (3 : Int32)), .val (.int ((0 : Int32) + (1 : Int32))), .val (.ref w0)] []))
  refine own_by (fun tz kz => XS.aloadN X4.here hx rfl (hb hby d1_16) rfl rfl kz) ?_
  show own_Go p e below s _ _ (T4.setTop (mkF m 17 #[.val (.long (1 : Int64)), .second, .val (.ref b1), .val (.int (3 : Int32)), .val (.int ((0 : Int32) + (1 : Int32))), .val (.ref w0)] [(.ref b1)]))
  refine own_by (fun tz kz => XS.iload X4.here hx rfl (hb hby d1_17) rfl  kz) ?_
  show own_Go p e below s _ _ (T4.setTop (mkF m 19 #[.val (.long (1 : Int64)), .second, .val (.ref b1), .val (.int (3 : Int32)), .val (.int ((0 : Int32) + (1 : Int32))), .val (.ref w0)] [(.int ((0 : Int32) + (1 : Int32))), (.ref b1)]))
  obtain ⟨c5, Ar5, q5, S5, M5, Hh5, G5⟩ := id Vq1
  have hin5 : ¬ (((0 : Int32) + (1 : Int32)) < 0 ∨ c5.slots.size ≤ (((0 : Int32) + (1 : Int32))).toNatClampNeg) := inb_of S5 ⟨by decide, by decide⟩
  have hat5 := Has.at Hh5 hin5 (v := (.ref w1)) rfl
  refine own_by (fun tz kz => X4.aaload hx (j := ((0 : Int32) + (1 : Int32))) (v := (.ref w1)) (by rw [e4]; exact Ar5.1) (State.isArrayOf_alike hZ.alike Ar5.2.1) rfl Ar5.2.2 hin5 hat5 (g := (mkF m 19 #[.val (.long (1 : Int64)), .second, .val (.ref b1), .val (.int (3 : Int32)), .val (.int ((0 : Int32) + (1 : Int32))), .val (.ref w0)] [(.int ((0 : Int32) + (1 : Int32))), (.ref b1)])) rfl rfl (hb hby d1_19) _ kz) ?_
  show own_Go p e below s _ _ (T4.setTop (mkF m 20 #[.val (.long (1 : Int64)), .second, .val (.ref b1), .val (.int (3 : Int32)), .val (.int ((0 : Int32) + (1 : Int32))), .val (.ref w0)] [(.ref w1)]))
  refine own_by (fun tz kz => XS.astore X4.here hx rfl (hb hby d1_20) rfl rfl (l' := #[.val (.long (1 : Int64)), .second, .val (.ref b1), .val (.int (3 : Int32)), .val (.int ((0 : Int32) + (1 : Int32))), .val (.ref w1)]) rfl kz) ?_
  show own_Go p e below s _ _ (T4.setTop (mkF m 22 #[.val (.long (1 : Int64)), .second, .val (.ref b1), .val (.int (3 : Int32)), .val (.int ((0 : Int32) + (1 : Int32))), .val (.ref w1)] []))
  refine own_by (fun tz kz => XS.aload X4.here hx rfl (hb hby d1_22) rfl rfl kz) ?_
  show own_Go p e below s _ _ (T4.setTop (mkF m 24 #[.val (.long (1 : Int64)), .second, .val (.ref b1), .val (.int (3 : Int32)), .val (.int ((0 : Int32) + (1 : Int32))), .val (.ref w1)] [(.ref w1)]))
  obtain ⟨T6, X6, e6, st6⟩ := getF X4 hx hZ hown (host := "") (Or.inl (hw _ (List.mem_of_getElem? (i := 23) rfl))) Via.refl e4 (F_1.ext O1.2) (g := (mkF m 24 #[.val (.long (1 : Int64)), .second, .val (.ref b1), .val (.int (3 : Int32)), .val (.int ((0 : Int32) + (1 : Int32))), .val (.ref w1)] [(.ref w1)])) rfl rfl (hb hby d1_24)
  refine own_by st6 ?_
  show own_Go p e below s _ _ (T6.setTop (mkF m 27 #[.val (.long (1 : Int64)), .second, .val (.ref b1), .val (.int (3 : Int32)), .val (.int ((0 : Int32) + (1 : Int32))), .val (.ref w1)] [(.int (1 : Int32))]))
  refine own_by (fun tz kz => XS.i2l X6.here hx rfl (hb hby d1_27) rfl kz) ?_
  show own_Go p e below s _ _ (T6.setTop (mkF m 28 #[.val (.long (1 : Int64)), .second, .val (.ref b1), .val (.int (3 : Int32)), .val (.int ((0 : Int32) + (1 : Int32))), .val (.ref w1)] [(.long ((1 : Int32).toInt64))]))
  refine own_by (fun tz kz => XS.lloadN X6.here hx rfl (hb hby d1_28) rfl kz) ?_
  show own_Go p e below s _ _ (T6.setTop (mkF m 29 #[.val (.long (1 : Int64)), .second, .val (.ref b1), .val (.int (3 : Int32)), .val (.int ((0 : Int32) + (1 : Int32))), .val (.ref w1)] [(.long (1 : Int64)), (.long ((1 : Int32).toInt64))]))
  refine own_by (fun tz kz => XS.lcmp X6.here hx rfl (hb hby d1_29) rfl kz) ?_
  show own_Go p e below s _ _ (T6.setTop (mkF m 30 #[.val (.long (1 : Int64)), .second, .val (.ref b1), .val (.int (3 : Int32)), .val (.int ((0 : Int32) + (1 : Int32))), .val (.ref w1)] [(.int (lcmpW ((1 : Int32).toInt64) (1 : Int64)))]))
  refine own_by (fun tz kz => XS.ifNo X6.here hx rfl (hb hby d1_30) rfl ((if0 _ _).trans (teq ((lw_eq ((1 : Int32).toInt64) (1 : Int64)).mpr (by decide : ((1 : Int32).toInt64) = (1 : Int64)))).2) kz) ?_
  show own_Go p e below s _ _ (T6.setTop (mkF m 33 #[.val (.long (1 : Int64)), .second, .val (.ref b1), .val (.int (3 : Int32)), .val (.int ((0 : Int32) + (1 : Int32))), .val (.ref w1)] []))
  refine own_by (fun tz kz => XS.aload X6.here hx rfl (hb hby d1_33) rfl rfl kz) ?_
  show own_Go p e below s _ _ (T6.setTop (mkF m 35 #[.val (.long (1 : Int64)), .second, .val (.ref b1), .val (.int (3 : Int32)), .val (.int ((0 : Int32) + (1 : Int32))), .val (.ref w1)] [(.ref w1)]))
  refine own_retA X6 hx hlk (t := (.object "com/example/weft/weft/engine/Argon2Type")) hret rfl rfl (hb hby d1_35) ?_ (by decide) (by decide)
  exact ⟨rfl, N1, by rw [e6]; exact K1⟩
def Q_rm_of2 (Z : State) (va : Addr) (kv : ClassId) (w0 w1 w2 : Addr) (h0 : Heap) (n0 : Nat) (v : Option Value) (h : Heap) (L : List Loc) : Prop := v = some (.ref w2) ∧ Fr n0 L ∧ Keep h0 h []
set_option maxRecDepth 65536 in
set_option maxHeartbeats 40000000 in
theorem rm_of2 (l : Launch) (Z : State) (a0 : Array Value) (hw : ∀ d ∈ tables_1, d.before a0 Z = true) (ws : List Jvm.Cond) (va : Addr) (kv : ClassId) (w0 w1 w2 : Addr) (h0 : Heap) (n0 : Nat) (O0 : Old Z n0 h0) (S_v : Sta Z Z.heap "com/example/weft/weft/engine/Argon2Type" "$VALUES" "[Lcom/example/weft/weft/engine/Argon2Type;" (.ref va)) (V_v : Arv Z Z.heap va kv (.object "com/example/weft/weft/engine/Argon2Type") (3 : Int32) [(.ref w0), (.ref w1), (.ref w2)] .null) (E_v : Exa Z Z.heap va "[Lcom/example/weft/weft/engine/Argon2Type;") (F_0 : Fld Z Z.heap w0 "com/example/weft/weft/engine/Argon2Type" "number" "I" (.int (0 : Int32))) (F_1 : Fld Z Z.heap w1 "com/example/weft/weft/engine/Argon2Type" "number" "I" (.int (1 : Int32))) (F_2 : Fld Z Z.heap w2 "com/example/weft/weft/engine/Argon2Type" "number" "I" (.int (2 : Int32))) :
    MetFree l (⟨"com/example/weft/weft/engine/Argon2Type", "fromNumber", "(J)Lcom/example/weft/weft/engine/Argon2Type;"⟩ : MethodName) (head1 (Jvm.Cond.code (⟨"com/example/weft/weft/engine/Argon2Type", "fromNumber", "(J)Lcom/example/weft/weft/engine/Argon2Type;"⟩ : MethodName) prog_24_method_4_code 6 (some (.object "com/example/weft/weft/engine/Argon2Type")) :: ws) ({ frames := 2, cells := 1, slots := 3, locals := 25 } : Room)) (fun ar U => ar = #[(.long (2 : Int64))] ∧ Z.Warmed39 U.vm ∧ U.heap = h0) (fun _ _ _ _ _ => True) (fun _ U o U' => ∃ v L, o = .returned v ∧ Q_rm_of2 Z va kv w0 w1 w2 h0 n0 v U'.heap L ∧ FrameEnd U o U' L ({ frames := 2, cells := 1, slots := 3, locals := 25 } : Room).cells ({ frames := 2, cells := 1, slots := 3, locals := 25 } : Room).slots) := by
  refine own_enter (Q := (Q_rm_of2 Z va kv w0 w1 w2 h0 n0)) pl_1 ?_
  intro p e s m below meth c s₁ X0 hx hZ hby hml hown hnm hret hlk e0
  have N0 := Fr.nil n0
  refine own_by (fun tz kz => castTop (g' := (mkF m 0 #[.val (.long (2 : Int64)), .second, .unset, .unset, .unset, .unset] [])) (by first | rfl | (simp [entryFrame, mkF, argsToLocals, Value.category]; done)) kz) ?_
  have K0 := Keep.refl h0 []
  show own_Go p e below s _ _ (s₁.setTop (mkF m 0 #[.val (.long (2 : Int64)), .second, .unset, .unset, .unset, .unset] []))
  obtain ⟨_, _, ⟨T1, L1, k1, n1⟩, -, X1, ⟨Lc1, hQ1, l1, y1, z1⟩, st1⟩ := Jvm.LawKit.callS X0 hx (y := (⟨"com/example/weft/weft/engine/Argon2Type", "values", "()[Lcom/example/weft/weft/engine/Argon2Type;"⟩ : MethodName)) hown (mvT hZ (hw _ (List.mem_of_getElem? (i := 5) rfl))) (mvT hZ (hw _ (List.mem_of_getElem? (i := 6) rfl))) (mvT hZ (hw _ (List.mem_of_getElem? (i := 3) rfl))) (mvT hZ (hw _ (List.mem_of_getElem? (i := 7) rfl))) (by decide) (backOf (W := 0) (rm_values l Z a0 hw [] va kv w0 w1 w2 h0 n0 O0 S_v V_v E_v) hZ (hw _ (List.mem_of_getElem? (i := 7) rfl)) (hw _ (List.mem_of_getElem? (i := 3) rfl)) (by decide) (by decide)) (g := (mkF m 0 #[.val (.long (2 : Int64)), .second, .unset, .unset, .unset, .unset] [])) rfl (by rw [hml]; rfl) (argsL := []) (rest := []) (lenOf pd_1 rfl) rfl (by show 2 * 0 + _ ≤ _; exact Nat.le_of_eq rfl) (hb hby d1_0) (fun _ _ => ⟨rfl, e0, (by decide : 0 + 1 ≤ _), (by decide : 0 + 3 ≤ _)⟩)
  dsimp only [Pt.U, Pt.locs, Pt.cells, Pt.slots] at X1 l1 y1 z1 st1 hQ1
  rw [l1, y1, z1] at X1
  obtain ⟨b1, rfl, Nq1, g_b1, Kq1, Vq1⟩ := hQ1
  have N1 := Fr.app N0 Nq1
  have e1 : T1.heap = T1.heap := rfl
  refine own_by st1 ?_
  have O1 := O0.keep Kq1 all0
  have K1 := K0.trans Kq1 all0
  show own_Go p e below s _ _ (T1.setTop (mkF m 3 #[.val (.long (2 : Int64)), .second, .unset, .unset, .unset, .unset] [(.ref b1)]))
  refine own_by (fun tz kz => XS.astoreN X1.here hx rfl (hb hby d1_3) rfl rfl (l' := #[.val (.long (2 : Int64)), .second, .val (.ref b1), .unset, .unset, .unset]) rfl kz) ?_
  show own_Go p e below s _ _ (T1.setTop (mkF m 4 #[.val (.long (2 : Int64)), .second, .val (.ref b1), .unset, .unset, .unset] []))
  refine own_by (fun tz kz => XS.aloadN X1.here hx rfl (hb hby d1_4) rfl rfl kz) ?_
  show own_Go p e below s _ _ (T1.setTop (mkF m 5 #[.val (.long (2 : Int64)), .second, .val (.ref b1), .unset, .unset, .unset] [(.ref b1)]))
  obtain ⟨c2, Ar2, q2, S2, M2, Hh2, G2⟩ := id Vq1
  refine own_by (fun tz kz => X1.arraylength hx (by rw [e1]; exact Ar2.1) (State.isArrayOf_alike hZ.alike Ar2.2.1) (g := (mkF m 5 #[.val (.long (2 : Int64)), .second, .val (.ref b1), .unset, .unset, .unset] [(.ref b1)])) rfl rfl (hb hby d1_5) _ kz) ?_
  rw [len_of S2 M2]
  show own_Go p e below s _ _ (T1.setTop (mkF m 6 #[.val (.long (2 : Int64)), .second, .val (.ref b1), .unset, .unset, .unset] [(.int (3 : Int32))]))
  refine own_by (fun tz kz => XS.istoreN X1.here hx rfl (hb hby d1_6) rfl (l' := #[.val (.long (2 : Int64)), .second, .val (.ref b1), .val (.int (3 : Int32)), .unset, .unset]) rfl kz) ?_
  show own_Go p e below s _ _ (T1.setTop (mkF m 7 #[.val (.long (2 : Int64)), .second, .val (.ref b1), .val (.int (3 : Int32)), .unset, .unset] []))
  refine own_by (fun tz kz => XS.iconst X1.here hx rfl (hb hby d1_7) kz) ?_
  show own_Go p e below s _ _ (T1.setTop (mkF m 8 #[.val (.long (2 : Int64)), .second, .val (.ref b1), .val (.int (3 : Int32)), .unset, .unset] [(.int (0 : Int32))]))
  refine own_by (fun tz kz => XS.istore X1.here hx rfl (hb hby d1_8) rfl (l' := #[.val (.long (2 : Int64)), .second, .val (.ref b1), .val (.int (3 : Int32)), .val (.int (0 : Int32)), .unset]) rfl kz) ?_
  show own_Go p e below s _ _ (T1.setTop (mkF m 10 #[.val (.long (2 : Int64)), .second, .val (.ref b1), .val (.int (3 : Int32)), .val (.int (0 : Int32)), .unset] []))
  refine own_by (fun tz kz => XS.iload X1.here hx rfl (hb hby d1_10) rfl  kz) ?_
  show own_Go p e below s _ _ (T1.setTop (mkF m 12 #[.val (.long (2 : Int64)), .second, .val (.ref b1), .val (.int (3 : Int32)), .val (.int (0 : Int32)), .unset] [(.int (0 : Int32))]))
  refine own_by (fun tz kz => XS.iloadN X1.here hx rfl (hb hby d1_12) rfl  kz) ?_
  show own_Go p e below s _ _ (T1.setTop (mkF m 13 #[.val (.long (2 : Int64)), .second, .val (.ref b1), .val (.int (3 : Int32)), .val (.int (0 : Int32)), .unset] [(.int (3 : Int32)), (.int (0 : Int32))]))
  refine own_by (fun tz kz => XS.icmpNo X1.here hx rfl (hb hby d1_13) rfl (tlt (by decide : (0 : Int32) < (3 : Int32))).2.1 kz) ?_
  show own_Go p e below s _ _ (T1.setTop (mkF m 16 #[.val (.long (2 : Int64)), .second, .val (.ref b1), .val (.int (3 : Int32)), .val (.int (0 : Int32)), .unset] []))
  refine own_by (fun tz kz => XS.aloadN X1.here hx rfl (hb hby d1_16) rfl rfl kz) ?_
  show own_Go p e below s _ _ (T1.setTop (mkF m 17 #[.val (.long (2 : Int64)), .second, .val (.ref b1), .val (.int (3 : Int32)), .val (.int (0 : Int32)), .unset] [(.ref b1)]))
  refine own_by (fun tz kz => XS.iload X1.here hx rfl (hb hby d1_17) rfl  kz) ?_
  show own_Go p e below s _ _ (T1.setTop (mkF m 19 #[.val (.long (2 : Int64)), .second, .val (.ref b1), .val (.int (3 : Int32)), .val (.int (0 : Int32)), .unset] [(.int (0 : Int32)), (.ref b1)]))
  obtain ⟨c3, Ar3, q3, S3, M3, Hh3, G3⟩ := id Vq1
  have hin3 : ¬ ((0 : Int32) < 0 ∨ c3.slots.size ≤ ((0 : Int32)).toNatClampNeg) := inb_of S3 ⟨by decide, by decide⟩
  have hat3 := Has.at Hh3 hin3 (v := (.ref w0)) rfl
  refine own_by (fun tz kz => X1.aaload hx (j := (0 : Int32)) (v := (.ref w0)) (by rw [e1]; exact Ar3.1) (State.isArrayOf_alike hZ.alike Ar3.2.1) rfl Ar3.2.2 hin3 hat3 (g := (mkF m 19 #[.val (.long (2 : Int64)), .second, .val (.ref b1), .val (.int (3 : Int32)), .val (.int (0 : Int32)), .unset] [(.int (0 : Int32)), (.ref b1)])) rfl rfl (hb hby d1_19) _ kz) ?_
  show own_Go p e below s _ _ (T1.setTop (mkF m 20 #[.val (.long (2 : Int64)), .second, .val (.ref b1), .val (.int (3 : Int32)), .val (.int (0 : Int32)), .unset] [(.ref w0)]))
  refine own_by (fun tz kz => XS.astore X1.here hx rfl (hb hby d1_20) rfl rfl (l' := #[.val (.long (2 : Int64)), .second, .val (.ref b1), .val (.int (3 : Int32)), .val (.int (0 : Int32)), .val (.ref w0)]) rfl kz) ?_
  show own_Go p e below s _ _ (T1.setTop (mkF m 22 #[.val (.long (2 : Int64)), .second, .val (.ref b1), .val (.int (3 : Int32)), .val (.int (0 : Int32)), .val (.ref w0)] []))
  refine own_by (fun tz kz => XS.aload X1.here hx rfl (hb hby d1_22) rfl rfl kz) ?_
  show own_Go p e below s _ _ (T1.setTop (mkF m 24 #[.val (.long (2 : Int64)), .second, .val (.ref b1), .val (.int (3 : Int32)), .val (.int (0 : Int32)), .val (.ref w0)] [(.ref w0)]))
  obtain ⟨T4, X4, e4, st4⟩ := getF X1 hx hZ hown (host := "") (Or.inl (hw _ (List.mem_of_getElem? (i := 23) rfl))) Via.refl e1 (F_0.ext O1.2) (g := (mkF m 24 #[.val (.long (2 : Int64)), .second, .val (.ref b1), .val (.int (3 : Int32)), .val (.int (0 : Int32)), .val (.ref w0)] [(.ref w0)])) rfl rfl (hb hby d1_24)
  refine own_by st4 ?_
  show own_Go p e below s _ _ (T4.setTop (mkF m 27 #[.val (.long (2 : Int64)), .second, .val (.ref b1), .val (.int (3 : Int32)), .val (.int (0 : Int32)), .val (.ref w0)] [(.int (0 : Int32))]))
  refine own_by (fun tz kz => XS.i2l X4.here hx rfl (hb hby d1_27) rfl kz) ?_
  show own_Go p e below s _ _ (T4.setTop (mkF m 28 #[.val (.long (2 : Int64)), .second, .val (.ref b1), .val (.int (3 : Int32)), .val (.int (0 : Int32)), .val (.ref w0)] [(.long ((0 : Int32).toInt64))]))
  refine own_by (fun tz kz => XS.lloadN X4.here hx rfl (hb hby d1_28) rfl kz) ?_
  show own_Go p e below s _ _ (T4.setTop (mkF m 29 #[.val (.long (2 : Int64)), .second, .val (.ref b1), .val (.int (3 : Int32)), .val (.int (0 : Int32)), .val (.ref w0)] [(.long (2 : Int64)), (.long ((0 : Int32).toInt64))]))
  refine own_by (fun tz kz => XS.lcmp X4.here hx rfl (hb hby d1_29) rfl kz) ?_
  show own_Go p e below s _ _ (T4.setTop (mkF m 30 #[.val (.long (2 : Int64)), .second, .val (.ref b1), .val (.int (3 : Int32)), .val (.int (0 : Int32)), .val (.ref w0)] [(.int (lcmpW ((0 : Int32).toInt64) (2 : Int64)))]))
  refine own_by (fun tz kz => XS.ifYes X4.here hx rfl (pc0 := 30) (pc' := 36) rfl (hb hby d1_30) rfl ((if0 _ _).trans (feq (fun q => (by decide : ¬ ((0 : Int32).toInt64) = (2 : Int64)) ((lw_eq ((0 : Int32).toInt64) (2 : Int64)).mp q))).2) (by decide) (by decide) kz) ?_
  show own_Go p e below s _ _ (T4.setTop (mkF m 36 #[.val (.long (2 : Int64)), .second, .val (.ref b1), .val (.int (3 : Int32)), .val (.int (0 : Int32)), .val (.ref w0)] []))
  refine own_by (fun tz kz => XS.iinc X4.here hx rfl (hb hby d1_36) rfl (l' := #[.val (.long (2 : Int64)), .second, .val (.ref b1), .val (.int (3 : Int32)), .val (.int ((0 : Int32) + (1 : Int32))), .val (.ref w0)]) rfl kz) ?_
  show own_Go p e below s _ _ (T4.setTop (mkF m 39 #[.val (.long (2 : Int64)), .second, .val (.ref b1), .val (.int (3 : Int32)), .val (.int ((0 : Int32) + (1 : Int32))), .val (.ref w0)] []))
  refine own_by (fun tz kz => XS.goto X4.here hx rfl (pc0 := 39) (pc' := 10) rfl (hb hby d1_39) (by decide) (by decide) kz) ?_
  show own_Go p e below s _ _ (T4.setTop (mkF m 10 #[.val (.long (2 : Int64)), .second, .val (.ref b1), .val (.int (3 : Int32)), .val (.int ((0 : Int32) + (1 : Int32))), .val (.ref w0)] []))
  refine own_by (fun tz kz => XS.iload X4.here hx rfl (hb hby d1_10) rfl  kz) ?_
  show own_Go p e below s _ _ (T4.setTop (mkF m 12 #[.val (.long (2 : Int64)), .second, .val (.ref b1), .val (.int (3 : Int32)), .val (.int ((0 : Int32) + (1 : Int32))), .val (.ref w0)] [(.int ((0 : Int32) + (1 : Int32)))]))
  refine own_by (fun tz kz => XS.iloadN X4.here hx rfl (hb hby d1_12) rfl  kz) ?_
  show own_Go p e below s _ _ (T4.setTop (mkF m 13 #[.val (.long (2 : Int64)), .second, .val (.ref b1), .val (.int (3 : Int32)), .val (.int ((0 : Int32) + (1 : Int32))), .val (.ref w0)] [(.int (3 : Int32)), (.int ((0 : Int32) + (1 : Int32)))]))
  refine own_by (fun tz kz => XS.icmpNo X4.here hx rfl (hb hby d1_13) rfl (tlt (by decide : ((0 : Int32) + (1 : Int32)) < (3 : Int32))).2.1 kz) ?_
  show own_Go p e below s _ _ (T4.setTop (mkF m 16 #[.val (.long (2 : Int64)), .second, .val (.ref b1), .val (.int (3 : Int32)), .val (.int ((0 : Int32) + (1 : Int32))), .val (.ref w0)] []))
  refine own_by (fun tz kz => XS.aloadN X4.here hx rfl (hb hby d1_16) rfl rfl kz) ?_
  show own_Go p e below s _ _ (T4.setTop (mkF m 17 #[.val (.long (2 : Int64)), .second, .val (.ref b1), .val (.int (3 : Int32)), .val (.int ((0 : Int32) + (1 : Int32))), .val (.ref w0)] [(.ref b1)]))
  refine own_by (fun tz kz => XS.iload X4.here hx rfl (hb hby d1_17) rfl  kz) ?_
  show own_Go p e below s _ _ (T4.setTop (mkF m 19 #[.val (.long (2 : Int64)), .second, .val (.ref b1), .val (.int (3 : Int32)), .val (.int ((0 : Int32) + (1 : Int32))), .val (.ref w0)] [(.int ((0 : Int32) + (1 : Int32))), (.ref b1)]))
  obtain ⟨c5, Ar5, q5, S5, M5, Hh5, G5⟩ := id Vq1
  have hin5 : ¬ (((0 : Int32) + (1 : Int32)) < 0 ∨ c5.slots.size ≤ (((0 : Int32) + (1 : Int32))).toNatClampNeg) := inb_of S5 ⟨by decide, by decide⟩
  have hat5 := Has.at Hh5 hin5 (v := (.ref w1)) rfl
  refine own_by (fun tz kz => X4.aaload hx (j := ((0 : Int32) + (1 : Int32))) (v := (.ref w1)) (by rw [e4]; exact Ar5.1) (State.isArrayOf_alike hZ.alike Ar5.2.1) rfl Ar5.2.2 hin5 hat5 (g := (mkF m 19 #[.val (.long (2 : Int64)), .second, .val (.ref b1), .val (.int (3 : Int32)), .val (.int ((0 : Int32) + (1 : Int32))), .val (.ref w0)] [(.int ((0 : Int32) + (1 : Int32))), (.ref b1)])) rfl rfl (hb hby d1_19) _ kz) ?_
  show own_Go p e below s _ _ (T4.setTop (mkF m 20 #[.val (.long (2 : Int64)), .second, .val (.ref b1), .val (.int (3 : Int32)), .val (.int ((0 : Int32) + (1 : Int32))), .val (.ref w0)] [(.ref w1)]))
  refine own_by (fun tz kz => XS.astore X4.here hx rfl (hb hby d1_20) rfl rfl (l' := #[.val (.long (2 : Int64)), .second, .val (.ref b1), .val (.int (3 : Int32)), .val (.int ((0 : Int32) + (1 : Int32))), .val (.ref w1)]) rfl kz) ?_
  show own_Go p e below s _ _ (T4.setTop (mkF m 22 #[.val (.long (2 : Int64)), .second, .val (.ref b1), .val (.int (3 : Int32)), .val (.int ((0 : Int32) + (1 : Int32))), .val (.ref w1)] []))
  refine own_by (fun tz kz => XS.aload X4.here hx rfl (hb hby d1_22) rfl rfl kz) ?_
  show own_Go p e below s _ _ (T4.setTop (mkF m 24 #[.val (.long (2 : Int64)), .second, .val (.ref b1), .val (.int (3 : Int32)), .val (.int ((0 : Int32) + (1 : Int32))), .val (.ref w1)] [(.ref w1)]))
  obtain ⟨T6, X6, e6, st6⟩ := getF X4 hx hZ hown (host := "") (Or.inl (hw _ (List.mem_of_getElem? (i := 23) rfl))) Via.refl e4 (F_1.ext O1.2) (g := (mkF m 24 #[.val (.long (2 : Int64)), .second, .val (.ref b1), .val (.int (3 : Int32)), .val (.int ((0 : Int32) + (1 : Int32))), .val (.ref w1)] [(.ref w1)])) rfl rfl (hb hby d1_24)
  refine own_by st6 ?_
  show own_Go p e below s _ _ (T6.setTop (mkF m 27 #[.val (.long (2 : Int64)), .second, .val (.ref b1), .val (.int (3 : Int32)), .val (.int ((0 : Int32) + (1 : Int32))), .val (.ref w1)] [(.int (1 : Int32))]))
  refine own_by (fun tz kz => XS.i2l X6.here hx rfl (hb hby d1_27) rfl kz) ?_
  show own_Go p e below s _ _ (T6.setTop (mkF m 28 #[.val (.long (2 : Int64)), .second, .val (.ref b1), .val (.int (3 : Int32)), .val (.int ((0 : Int32) + (1 : Int32))), .val (.ref w1)] [(.long ((1 : Int32).toInt64))]))
  refine own_by (fun tz kz => XS.lloadN X6.here hx rfl (hb hby d1_28) rfl kz) ?_
  show own_Go p e below s _ _ (T6.setTop (mkF m 29 #[.val (.long (2 : Int64)), .second, .val (.ref b1), .val (.int (3 : Int32)), .val (.int ((0 : Int32) + (1 : Int32))), .val (.ref w1)] [(.long (2 : Int64)), (.long ((1 : Int32).toInt64))]))
  refine own_by (fun tz kz => XS.lcmp X6.here hx rfl (hb hby d1_29) rfl kz) ?_
  show own_Go p e below s _ _ (T6.setTop (mkF m 30 #[.val (.long (2 : Int64)), .second, .val (.ref b1), .val (.int (3 : Int32)), .val (.int ((0 : Int32) + (1 : Int32))), .val (.ref w1)] [(.int (lcmpW ((1 : Int32).toInt64) (2 : Int64)))]))
  refine own_by (fun tz kz => XS.ifYes X6.here hx rfl (pc0 := 30) (pc' := 36) rfl (hb hby d1_30) rfl ((if0 _ _).trans (feq (fun q => (by decide : ¬ ((1 : Int32).toInt64) = (2 : Int64)) ((lw_eq ((1 : Int32).toInt64) (2 : Int64)).mp q))).2) (by decide) (by decide) kz) ?_
  show own_Go p e below s _ _ (T6.setTop (mkF m 36 #[.val (.long (2 : Int64)), .second, .val (.ref b1), .val (.int (3 : Int32)), .val (.int ((0 : Int32) + (1 : Int32))), .val (.ref w1)] []))
  refine own_by (fun tz kz => XS.iinc X6.here hx rfl (hb hby d1_36) rfl (l' := #[.val (.long (2 : Int64)), .second, .val (.ref b1), .val (.int (3 : Int32)), .val (.int (((0 : Int32) + (1 : Int32)) + (1 : Int32))), .val (.ref w1)]) rfl kz) ?_
  show own_Go p e below s _ _ (T6.setTop (mkF m 39 #[.val (.long (2 : Int64)), .second, .val (.ref b1), .val (.int (3 : Int32)), .val (.int (((0 : Int32) + (1 : Int32)) + (1 : Int32))), .val (.ref w1)] []))
  refine own_by (fun tz kz => XS.goto X6.here hx rfl (pc0 := 39) (pc' := 10) rfl (hb hby d1_39) (by decide) (by decide) kz) ?_
  show own_Go p e below s _ _ (T6.setTop (mkF m 10 #[.val (.long (2 : Int64)), .second, .val (.ref b1), .val (.int (3 : Int32)), .val (.int (((0 : Int32) + (1 : Int32)) + (1 : Int32))), .val (.ref w1)] []))
  refine own_by (fun tz kz => XS.iload X6.here hx rfl (hb hby d1_10) rfl  kz) ?_
  show own_Go p e below s _ _ (T6.setTop (mkF m 12 #[.val (.long (2 : Int64)), .second, .val (.ref b1), .val (.int (3 : Int32)), .val (.int (((0 : Int32) + (1 : Int32)) + (1 : Int32))), .val (.ref w1)] [(.int (((0 : Int32) + (1 : Int32)) + (1 : Int32)))]))
  refine own_by (fun tz kz => XS.iloadN X6.here hx rfl (hb hby d1_12) rfl  kz) ?_
  show own_Go p e below s _ _ (T6.setTop (mkF m 13 #[.val (.long (2 : Int64)), .second, .val (.ref b1), .val (.int (3 : Int32)), .val (.int (((0 : Int32) + (1 : Int32)) + (1 : Int32))), .val (.ref w1)] [(.int (3 : Int32)), (.int (((0 : Int32) + (1 : Int32)) + (1 : Int32)))]))
  refine own_by (fun tz kz => XS.icmpNo X6.here hx rfl (hb hby d1_13) rfl (tlt (by decide : (((0 : Int32) + (1 : Int32)) + (1 : Int32)) < (3 : Int32))).2.1 kz) ?_
  show own_Go p e below s _ _ (T6.setTop (mkF m 16 #[.val (.long (2 : Int64)), .second, .val (.ref b1), .val (.int (3 : Int32)), .val (.int (((0 : Int32) + (1 : Int32)) + (1 : Int32))), .val (.ref w1)] []))
  refine own_by (fun tz kz => XS.aloadN X6.here hx rfl (hb hby d1_16) rfl rfl kz) ?_
  show own_Go p e below s _ _ (T6.setTop (mkF m 17 #[.val (.long (2 : Int64)), .second, .val (.ref b1), .val (.int (3 : Int32)), .val (.int (((0 : Int32) + (1 : Int32)) + (1 : Int32))), .val (.ref w1)] [(.ref b1)]))
  refine own_by (fun tz kz => XS.iload X6.here hx rfl (hb hby d1_17) rfl  kz) ?_
  show own_Go p e below s _ _ (T6.setTop (mkF m 19 #[.val (.long (2 : Int64)), .second, .val (.ref b1), .val (.int (3 : Int32)), .val (.int (((0 : Int32) + (1 : Int32)) + (1 : Int32))), .val (.ref w1)] [(.int (((0 : Int32) + (1 : Int32)) + (1 : Int32))), (.ref b1)]))
  obtain ⟨c7, Ar7, q7, S7, M7, Hh7, G7⟩ := id Vq1
  have hin7 : ¬ ((((0 : Int32) + (1 : Int32)) + (1 : Int32)) < 0 ∨ c7.slots.size ≤ ((((0 : Int32) + (1 : Int32)) + (1 : Int32))).toNatClampNeg) := inb_of S7 ⟨by decide, by decide⟩
  have hat7 := Has.at Hh7 hin7 (v := (.ref w2)) rfl
  refine own_by (fun tz kz => X6.aaload hx (j := (((0 : Int32) + (1 : Int32)) + (1 : Int32))) (v := (.ref w2)) (by rw [e6]; exact Ar7.1) (State.isArrayOf_alike hZ.alike Ar7.2.1) rfl Ar7.2.2 hin7 hat7 (g := (mkF m 19 #[.val (.long (2 : Int64)), .second, .val (.ref b1), .val (.int (3 : Int32)), .val (.int (((0 : Int32) + (1 : Int32)) + (1 : Int32))), .val (.ref w1)] [(.int (((0 : Int32) + (1 : Int32)) + (1 : Int32))), (.ref b1)])) rfl rfl (hb hby d1_19) _ kz) ?_
  show own_Go p e below s _ _ (T6.setTop (mkF m 20 #[.val (.long (2 : Int64)), .second, .val (.ref b1), .val (.int (3 : Int32)), .val (.int (((0 : Int32) + (1 : Int32)) + (1 : Int32))), .val (.ref w1)] [(.ref w2)]))
  refine own_by (fun tz kz => XS.astore X6.here hx rfl (hb hby d1_20) rfl rfl (l' := #[.val (.long (2 : Int64)), .second, .val (.ref b1), .val (.int (3 : Int32)), .val (.int (((0 : Int32) + (1 : Int32)) + (1 : Int32))), .val (.ref w2)]) rfl kz) ?_
  show own_Go p e below s _ _ (T6.setTop (mkF m 22 #[.val (.long (2 : Int64)), .second, .val (.ref b1), .val (.int (3 : Int32)), .val (.int (((0 : Int32) + (1 : Int32)) + (1 : Int32))), .val (.ref w2)] []))
  refine own_by (fun tz kz => XS.aload X6.here hx rfl (hb hby d1_22) rfl rfl kz) ?_
  show own_Go p e below s _ _ (T6.setTop (mkF m 24 #[.val (.long (2 : Int64)), .second, .val (.ref b1), .val (.int (3 : Int32)), .val (.int (((0 : Int32) + (1 : Int32)) + (1 : Int32))), .val (.ref w2)] [(.ref w2)]))
  obtain ⟨T8, X8, e8, st8⟩ := getF X6 hx hZ hown (host := "") (Or.inl (hw _ (List.mem_of_getElem? (i := 23) rfl))) Via.refl e6 (F_2.ext O1.2) (g := (mkF m 24 #[.val (.long (2 : Int64)), .second, .val (.ref b1), .val (.int (3 : Int32)), .val (.int (((0 : Int32) + (1 : Int32)) + (1 : Int32))), .val (.ref w2)] [(.ref w2)])) rfl rfl (hb hby d1_24)
  refine own_by st8 ?_
  show own_Go p e below s _ _ (T8.setTop (mkF m 27 #[.val (.long (2 : Int64)), .second, .val (.ref b1), .val (.int (3 : Int32)), .val (.int (((0 : Int32) + (1 : Int32)) + (1 : Int32))), .val (.ref w2)] [(.int (2 : Int32))]))
  refine own_by (fun tz kz => XS.i2l X8.here hx rfl (hb hby d1_27) rfl kz) ?_
  show own_Go p e below s _ _ (T8.setTop (mkF m 28 #[.val (.long (2 : Int64)), .second, .val (.ref b1), .val (.int (3 : Int32)), .val (.int (((0 : Int32) + (1 : Int32)) + (1 : Int32))), .val (.ref w2)] [(.long ((2 : Int32).toInt64))]))
  refine own_by (fun tz kz => XS.lloadN X8.here hx rfl (hb hby d1_28) rfl kz) ?_
  show own_Go p e below s _ _ (T8.setTop (mkF m 29 #[.val (.long (2 : Int64)), .second, .val (.ref b1), .val (.int (3 : Int32)), .val (.int (((0 : Int32) + (1 : Int32)) + (1 : Int32))), .val (.ref w2)] [(.long (2 : Int64)), (.long ((2 : Int32).toInt64))]))
  refine own_by (fun tz kz => XS.lcmp X8.here hx rfl (hb hby d1_29) rfl kz) ?_
  show own_Go p e below s _ _ (T8.setTop (mkF m 30 #[.val (.long (2 : Int64)), .second, .val (.ref b1), .val (.int (3 : Int32)), .val (.int (((0 : Int32) + (1 : Int32)) + (1 : Int32))), .val (.ref w2)] [(.int (lcmpW ((2 : Int32).toInt64) (2 : Int64)))]))
  refine own_by (fun tz kz => XS.ifNo X8.here hx rfl (hb hby d1_30) rfl ((if0 _ _).trans (teq ((lw_eq ((2 : Int32).toInt64) (2 : Int64)).mpr (by decide : ((2 : Int32).toInt64) = (2 : Int64)))).2) kz) ?_
  show own_Go p e below s _ _ (T8.setTop (mkF m 33 #[.val (.long (2 : Int64)), .second, .val (.ref b1), .val (.int (3 : Int32)), .val (.int (((0 : Int32) + (1 : Int32)) + (1 : Int32))), .val (.ref w2)] []))
  refine own_by (fun tz kz => XS.aload X8.here hx rfl (hb hby d1_33) rfl rfl kz) ?_
  show own_Go p e below s _ _ (T8.setTop (mkF m 35 #[.val (.long (2 : Int64)), .second, .val (.ref b1), .val (.int (3 : Int32)), .val (.int (((0 : Int32) + (1 : Int32)) + (1 : Int32))), .val (.ref w2)] [(.ref w2)]))
  refine own_retA X8 hx hlk (t := (.object "com/example/weft/weft/engine/Argon2Type")) hret rfl rfl (hb hby d1_35) ?_ (by decide) (by decide)
  exact ⟨rfl, N1, by rw [e8]; exact K1⟩
def Q_rm_num (Z : State) (a : Addr) (r : Int32) (h0 : Heap) (n0 : Nat) (v : Option Value) (h : Heap) (L : List Loc) : Prop := v = some (.int r) ∧ Fr n0 L ∧ h = h0
set_option maxRecDepth 65536 in
set_option maxHeartbeats 40000000 in
theorem rm_num (l : Launch) (Z : State) (a0 : Array Value) (hw : ∀ d ∈ tables_1, d.before a0 Z = true) (ws : List Jvm.Cond) (a : Addr) (r : Int32) (h0 : Heap) (n0 : Nat) (F : Fld Z h0 a "com/example/weft/weft/engine/Argon2Type" "number" "I" (.int r)) :
    MetFree l (⟨"com/example/weft/weft/engine/Argon2Type", "getNumber", "()I"⟩ : MethodName) (head1 (Jvm.Cond.code (⟨"com/example/weft/weft/engine/Argon2Type", "getNumber", "()I"⟩ : MethodName) prog_24_method_5_code 1 (some .int) :: ws) ({ frames := 0, cells := 0, slots := 0, locals := 0 } : Room)) (fun ar U => ar = #[(.ref a)] ∧ Z.Warmed39 U.vm ∧ U.heap = h0) (fun _ _ _ _ _ => True) (fun _ U o U' => ∃ v L, o = .returned v ∧ Q_rm_num Z a r h0 n0 v U'.heap L ∧ FrameEnd U o U' L ({ frames := 0, cells := 0, slots := 0, locals := 0 } : Room).cells ({ frames := 0, cells := 0, slots := 0, locals := 0 } : Room).slots) := by
  refine own_enter (Q := (Q_rm_num Z a r h0 n0)) pl_3 ?_
  intro p e s m below meth c s₁ X0 hx hZ hby hml hown hnm hret hlk e0
  have N0 := Fr.nil n0
  refine own_by (fun tz kz => castTop (g' := (mkF m 0 #[.val (.ref a)] [])) (by first | rfl | (simp [entryFrame, mkF, argsToLocals, Value.category]; done)) kz) ?_
  show own_Go p e below s _ _ (s₁.setTop (mkF m 0 #[.val (.ref a)] []))
  refine own_by (fun tz kz => XS.aloadN X0.here hx rfl (hb hby d3_0) rfl rfl kz) ?_
  show own_Go p e below s _ _ (s₁.setTop (mkF m 1 #[.val (.ref a)] [(.ref a)]))
  obtain ⟨T1, X1, e1, st1⟩ := getF X0 hx hZ hown (host := "") (Or.inl (hw _ (List.mem_of_getElem? (i := 23) rfl))) Via.refl e0 F (g := (mkF m 1 #[.val (.ref a)] [(.ref a)])) rfl rfl (hb hby d3_1)
  refine own_by st1 ?_
  show own_Go p e below s _ _ (T1.setTop (mkF m 4 #[.val (.ref a)] [(.int r)]))
  refine own_retI X1 hx hlk (t := .int) hret (by simp) rfl (hb hby d3_4) ?_ (by decide) (by decide)
  exact ⟨rfl, N0, e1⟩
def Q_rm0 (Z : State) (p0 I : Int64) (va : Addr) (kv : ClassId) (w0 w1 w2 : Addr) (h0 : Heap) (n0 : Nat) (v : Option Value) (h : Heap) (L : List Loc) : Prop := v = some (.int 1) ∧ Fr n0 L
set_option maxRecDepth 65536 in
set_option maxHeartbeats 40000000 in
theorem rm0 (l : Launch) (Z : State) (a0 : Array Value) (hw : ∀ d ∈ tables_1, d.before a0 Z = true) (ws : List Jvm.Cond) (p0 I : Int64) (va : Addr) (kv : ClassId) (w0 w1 w2 : Addr) (h0 : Heap) (n0 : Nat) (O0 : Old Z n0 h0) (S_v : Sta Z Z.heap "com/example/weft/weft/engine/Argon2Type" "$VALUES" "[Lcom/example/weft/weft/engine/Argon2Type;" (.ref va)) (V_v : Arv Z Z.heap va kv (.object "com/example/weft/weft/engine/Argon2Type") (3 : Int32) [(.ref w0), (.ref w1), (.ref w2)] .null) (E_v : Exa Z Z.heap va "[Lcom/example/weft/weft/engine/Argon2Type;") (F_0 : Fld Z Z.heap w0 "com/example/weft/weft/engine/Argon2Type" "number" "I" (.int (0 : Int32))) (F_1 : Fld Z Z.heap w1 "com/example/weft/weft/engine/Argon2Type" "number" "I" (.int (1 : Int32))) (F_2 : Fld Z Z.heap w2 "com/example/weft/weft/engine/Argon2Type" "number" "I" (.int (2 : Int32))) (S_0 : Sta Z Z.heap "com/example/weft/weft/engine/Argon2Type" "ARGON2D" "Lcom/example/weft/weft/engine/Argon2Type;" (.ref w0)) (E_0 : Exa Z Z.heap w0 "com/example/weft/weft/engine/Argon2Type") (S_1 : Sta Z Z.heap "com/example/weft/weft/engine/Argon2Type" "ARGON2I" "Lcom/example/weft/weft/engine/Argon2Type;" (.ref w1)) (E_1 : Exa Z Z.heap w1 "com/example/weft/weft/engine/Argon2Type") (S_2 : Sta Z Z.heap "com/example/weft/weft/engine/Argon2Type" "ARGON2ID" "Lcom/example/weft/weft/engine/Argon2Type;" (.ref w2)) (E_2 : Exa Z Z.heap w2 "com/example/weft/weft/engine/Argon2Type") (hI : I = (((p0 - (p0 / (3 : Int64)) * (3 : Int64)) + (3 : Int64)) - (((p0 - (p0 / (3 : Int64)) * (3 : Int64)) + (3 : Int64)) / (3 : Int64)) * (3 : Int64))) (hk : I = (0 : Int64) ∨ I = (1 : Int64) ∨ I = (2 : Int64)) :
    MetFree l x (head1 (Jvm.Cond.code x code maxLocals ret :: ws) room_1) (fun ar U => ar = #[(.long p0)] ∧ Z.Warmed39 U.vm ∧ U.heap = h0) (fun _ _ _ _ _ => True) (fun _ U o U' => ∃ v L, o = .returned v ∧ Q_rm0 Z p0 I va kv w0 w1 w2 h0 n0 v U'.heap L ∧ FrameEnd U o U' L room_1.cells room_1.slots) := by
  refine own_enter (Q := (Q_rm0 Z p0 I va kv w0 w1 w2 h0 n0)) pl_0 ?_
  intro p e s m below meth c s₁ X0 hx hZ hby hml hown hnm hret hlk e0
  have N0 := Fr.nil n0
  refine own_by (fun tz kz => castTop (g' := (mkF m 0 #[.val (.long p0), .second, .unset, .unset, .unset, .unset] [])) (by first | rfl | (simp [entryFrame, mkF, argsToLocals, Value.category, maxLocals]; done)) kz) ?_
  have K0 := Keep.refl h0 []
  show own_Go p e below s _ _ (s₁.setTop (mkF m 0 #[.val (.long p0), .second, .unset, .unset, .unset, .unset] []))
  refine own_by (fun tz kz => XS.lloadN X0.here hx rfl (hb hby at_0) rfl kz) ?_
  show own_Go p e below s _ _ (s₁.setTop (mkF m 1 #[.val (.long p0), .second, .unset, .unset, .unset, .unset] [(.long p0)]))
  refine own_by (fun tz kz => X0.ldc2Long hx hown (mvT hZ (hw _ (List.mem_of_getElem? (i := 0) rfl))) (g := (mkF m 1 #[.val (.long p0), .second, .unset, .unset, .unset, .unset] [(.long p0)])) rfl (hb hby at_1) _ kz) ?_
  show own_Go p e below s _ _ (s₁.setTop (mkF m 4 #[.val (.long p0), .second, .unset, .unset, .unset, .unset] [(.long (3 : Int64)), (.long p0)]))
  refine own_by (fun tz kz => XS.lrem X0.here hx rfl (hb hby at_4) rfl (by decide) kz) ?_
  show own_Go p e below s _ _ (s₁.setTop (mkF m 5 #[.val (.long p0), .second, .unset, .unset, .unset, .unset] [(.long (p0 - (p0 / (3 : Int64)) * (3 : Int64)))]))
  refine own_by (fun tz kz => X0.ldc2Long hx hown (mvT hZ (hw _ (List.mem_of_getElem? (i := 0) rfl))) (g := (mkF m 5 #[.val (.long p0), .second, .unset, .unset, .unset, .unset] [(.long (p0 - (p0 / (3 : Int64)) * (3 : Int64)))])) rfl (hb hby at_5) _ kz) ?_
  show own_Go p e below s _ _ (s₁.setTop (mkF m 8 #[.val (.long p0), .second, .unset, .unset, .unset, .unset] [(.long (3 : Int64)), (.long (p0 - (p0 / (3 : Int64)) * (3 : Int64)))]))
  refine own_by (fun tz kz => XS.ladd X0.here hx rfl (hb hby at_8) rfl kz) ?_
  show own_Go p e below s _ _ (s₁.setTop (mkF m 9 #[.val (.long p0), .second, .unset, .unset, .unset, .unset] [(.long ((p0 - (p0 / (3 : Int64)) * (3 : Int64)) + (3 : Int64)))]))
  refine own_by (fun tz kz => X0.ldc2Long hx hown (mvT hZ (hw _ (List.mem_of_getElem? (i := 0) rfl))) (g := (mkF m 9 #[.val (.long p0), .second, .unset, .unset, .unset, .unset] [(.long ((p0 - (p0 / (3 : Int64)) * (3 : Int64)) + (3 : Int64)))])) rfl (hb hby at_9) _ kz) ?_
  show own_Go p e below s _ _ (s₁.setTop (mkF m 12 #[.val (.long p0), .second, .unset, .unset, .unset, .unset] [(.long (3 : Int64)), (.long ((p0 - (p0 / (3 : Int64)) * (3 : Int64)) + (3 : Int64)))]))
  refine own_by (fun tz kz => XS.lrem X0.here hx rfl (hb hby at_12) rfl (by decide) kz) ?_
  show own_Go p e below s _ _ (s₁.setTop (mkF m 13 #[.val (.long p0), .second, .unset, .unset, .unset, .unset] [(.long (((p0 - (p0 / (3 : Int64)) * (3 : Int64)) + (3 : Int64)) - (((p0 - (p0 / (3 : Int64)) * (3 : Int64)) + (3 : Int64)) / (3 : Int64)) * (3 : Int64)))]))
  refine own_by (fun tz kz => XS.lstoreN X0.here hx rfl (hb hby at_13) rfl (l' := #[.val (.long p0), .second, .val (.long (((p0 - (p0 / (3 : Int64)) * (3 : Int64)) + (3 : Int64)) - (((p0 - (p0 / (3 : Int64)) * (3 : Int64)) + (3 : Int64)) / (3 : Int64)) * (3 : Int64))), .second, .unset, .unset]) rfl kz) ?_
  rw [← hI]
  rcases hk with rfl | rfl | rfl
  · show own_Go p e below s _ _ (s₁.setTop (mkF m 14 #[.val (.long p0), .second, .val (.long (0 : Int64)), .second, .unset, .unset] []))
    refine own_by (fun tz kz => XS.lloadN X0.here hx rfl (hb hby at_14) rfl kz) ?_
    show own_Go p e below s _ _ (s₁.setTop (mkF m 15 #[.val (.long p0), .second, .val (.long (0 : Int64)), .second, .unset, .unset] [(.long (0 : Int64))]))
    obtain ⟨_, _, ⟨T1, L1, k1, n1⟩, -, X1, ⟨Lc1, hQ1, l1, y1, z1⟩, st1⟩ := Jvm.LawKit.callS X0 hx (y := (⟨"com/example/weft/weft/engine/Argon2Type", "fromNumber", "(J)Lcom/example/weft/weft/engine/Argon2Type;"⟩ : MethodName)) hown (mvT hZ (hw _ (List.mem_of_getElem? (i := 1) rfl))) (mvT hZ (hw _ (List.mem_of_getElem? (i := 2) rfl))) (mvT hZ (hw _ (List.mem_of_getElem? (i := 3) rfl))) (mvT hZ (hw _ (List.mem_of_getElem? (i := 4) rfl))) (by decide) (backOf (W := 0) (rm_of0 l Z a0 hw [] va kv w0 w1 w2 h0 n0 O0 S_v V_v E_v F_0 F_1 F_2) hZ (hw _ (List.mem_of_getElem? (i := 4) rfl)) (hw _ (List.mem_of_getElem? (i := 3) rfl)) (by decide) (by decide)) (g := (mkF m 15 #[.val (.long p0), .second, .val (.long (0 : Int64)), .second, .unset, .unset] [(.long (0 : Int64))])) rfl (by rw [hml]; rfl) (argsL := [(.long (0 : Int64))]) (rest := []) (lenOf pd_0 rfl) rfl (by show 2 * 0 + _ ≤ _; exact Nat.le_of_eq rfl) (hb hby at_15) (fun _ _ => ⟨rfl, e0, (by decide : 0 + 1 ≤ _), (by decide : 0 + 3 ≤ _)⟩)
    dsimp only [Pt.U, Pt.locs, Pt.cells, Pt.slots] at X1 l1 y1 z1 st1 hQ1
    rw [l1, y1, z1] at X1
    obtain ⟨rfl, Nq1, Kq1⟩ := hQ1
    have N1 := Fr.app N0 Nq1
    have e1 : T1.heap = T1.heap := rfl
    refine own_by st1 ?_
    have O1 := O0.keep Kq1 all0
    have K1 := K0.trans Kq1 all0
    show own_Go p e below s _ _ (T1.setTop (mkF m 18 #[.val (.long p0), .second, .val (.long (0 : Int64)), .second, .unset, .unset] [(.ref w0)]))
    refine own_by (fun tz kz => XS.astore X1.here hx rfl (hb hby at_18) rfl rfl (l' := #[.val (.long p0), .second, .val (.long (0 : Int64)), .second, .val (.ref w0), .unset]) rfl kz) ?_
    show own_Go p e below s _ _ (T1.setTop (mkF m 20 #[.val (.long p0), .second, .val (.long (0 : Int64)), .second, .val (.ref w0), .unset] []))
    refine own_by (fun tz kz => XS.lloadN X1.here hx rfl (hb hby at_20) rfl kz) ?_
    show own_Go p e below s _ _ (T1.setTop (mkF m 21 #[.val (.long p0), .second, .val (.long (0 : Int64)), .second, .val (.ref w0), .unset] [(.long (0 : Int64))]))
    refine own_by (fun tz kz => XS.lconst X1.here hx rfl (hb hby at_21) kz) ?_
    show own_Go p e below s _ _ (T1.setTop (mkF m 22 #[.val (.long p0), .second, .val (.long (0 : Int64)), .second, .val (.ref w0), .unset] [(.long (0 : Int64)), (.long (0 : Int64))]))
    refine own_by (fun tz kz => XS.lcmp X1.here hx rfl (hb hby at_22) rfl kz) ?_
    show own_Go p e below s _ _ (T1.setTop (mkF m 23 #[.val (.long p0), .second, .val (.long (0 : Int64)), .second, .val (.ref w0), .unset] [(.int (lcmpW (0 : Int64) (0 : Int64)))]))
    refine own_by (fun tz kz => XS.ifNo X1.here hx rfl (hb hby at_23) rfl ((if0 _ _).trans (teq ((lw_eq (0 : Int64) (0 : Int64)).mpr (by decide : (0 : Int64) = (0 : Int64)))).2) kz) ?_
    show own_Go p e below s _ _ (T1.setTop (mkF m 26 #[.val (.long p0), .second, .val (.long (0 : Int64)), .second, .val (.ref w0), .unset] []))
    obtain ⟨T2, X2, e2, st2⟩ := getS2 X1 hx hZ hown (host := "") (Or.inl (hw _ (List.mem_of_getElem? (i := 25) rfl))) Via.refl e1 (S_0.ext O1.2) (g := (mkF m 26 #[.val (.long p0), .second, .val (.long (0 : Int64)), .second, .val (.ref w0), .unset] [])) rfl (hb hby at_26)
    refine own_by st2 ?_
    show own_Go p e below s _ _ (T2.setTop (mkF m 29 #[.val (.long p0), .second, .val (.long (0 : Int64)), .second, .val (.ref w0), .unset] [(.ref w0)]))
    refine own_by (fun tz kz => XS.astore X2.here hx rfl (hb hby at_29) rfl rfl (l' := #[.val (.long p0), .second, .val (.long (0 : Int64)), .second, .val (.ref w0), .val (.ref w0)]) rfl kz) ?_
    show own_Go p e below s _ _ (T2.setTop (mkF m 31 #[.val (.long p0), .second, .val (.long (0 : Int64)), .second, .val (.ref w0), .val (.ref w0)] []))
    refine own_by (fun tz kz => XS.goto X2.here hx rfl (pc0 := 31) (pc' := 53) rfl (hb hby at_31) (by decide) (by decide) kz) ?_
    show own_Go p e below s _ _ (T2.setTop (mkF m 53 #[.val (.long p0), .second, .val (.long (0 : Int64)), .second, .val (.ref w0), .val (.ref w0)] []))
    refine own_by (fun tz kz => XS.aload X2.here hx rfl (hb hby at_53) rfl rfl kz) ?_
    show own_Go p e below s _ _ (T2.setTop (mkF m 55 #[.val (.long p0), .second, .val (.long (0 : Int64)), .second, .val (.ref w0), .val (.ref w0)] [(.ref w0)]))
    refine own_by (fun tz kz => XS.aload X2.here hx rfl (hb hby at_55) rfl rfl kz) ?_
    show own_Go p e below s _ _ (T2.setTop (mkF m 57 #[.val (.long p0), .second, .val (.long (0 : Int64)), .second, .val (.ref w0), .val (.ref w0)] [(.ref w0), (.ref w0)]))
    refine own_by (fun tz kz => Jvm.RoadKit.acmp (g := (mkF m 57 #[.val (.long p0), .second, .val (.long (0 : Int64)), .second, .val (.ref w0), .val (.ref w0)] [(.ref w0), (.ref w0)])) X2 hx rfl rfl rfl (pc0 := 57) (pc' := 60) (same := true) rfl (hb hby at_57) rfl (decide_eq_true rfl) (by decide) (by decide) kz) ?_
    show own_Go p e below s _ _ (T2.setTop (mkF m 60 #[.val (.long p0), .second, .val (.long (0 : Int64)), .second, .val (.ref w0), .val (.ref w0)] []))
    refine own_by (fun tz kz => XS.aload X2.here hx rfl (hb hby at_60) rfl rfl kz) ?_
    show own_Go p e below s _ _ (T2.setTop (mkF m 62 #[.val (.long p0), .second, .val (.long (0 : Int64)), .second, .val (.ref w0), .val (.ref w0)] [(.ref w0)]))
    obtain ⟨cq3, kq3, q3a, q3b, q3c⟩ := isOf hZ e2 (E_0.ext O1.2)
    obtain ⟨_, _, ⟨T3, L3, k3, n3⟩, -, X3, ⟨Lc3, hQ3, l3, y3, z3⟩, st3⟩ := X2.virtualBack hx (y := (⟨"com/example/weft/weft/engine/Argon2Type", "getNumber", "()I"⟩ : MethodName)) (z := (⟨"com/example/weft/weft/engine/Argon2Type", "getNumber", "()I"⟩ : MethodName)) hown (mvT hZ (hw _ (List.mem_of_getElem? (i := 26) rfl))) (mvT hZ (hw _ (List.mem_of_getElem? (i := 27) rfl))) (notFace_of_selects (args := #[]) (mvT hZ (hw _ (List.mem_of_getElem? (i := 29) rfl)))) (mvT hZ (hw _ (List.mem_of_getElem? (i := 29) rfl))) (mvT hZ (hw _ (List.mem_of_getElem? (i := 28) rfl))) (by decide) (backOf (W := 0) (rm_num l Z a0 hw [] w0 (0 : Int32) T1.heap n0 (F_0.ext O1.2)) hZ (hw _ (List.mem_of_getElem? (i := 30) rfl)) (hw _ (List.mem_of_getElem? (i := 3) rfl)) (by decide) (by decide)) q3a q3c (g := (mkF m 62 #[.val (.long p0), .second, .val (.long (0 : Int64)), .second, .val (.ref w0), .val (.ref w0)] [(.ref w0)])) rfl (by rw [hml]; rfl) (Steps.refl _) (argsL := []) (rest := []) (lenOf pd_3 rfl) rfl (by show 2 * 0 + _ ≤ _; exact Nat.le_of_eq rfl) (hb hby at_62) (fun _ _ => ⟨rfl, e2, (by decide : (0 + 1) + 0 ≤ _), (by decide : (0 + 3) + 0 ≤ _)⟩)
    dsimp only [Pt.U, Pt.locs, Pt.cells, Pt.slots] at X3 l3 y3 z3 st3 hQ3
    rw [l3, y3, z3] at X3
    obtain ⟨rfl, Nq3, e3⟩ := hQ3
    have N3 := Fr.app N1 Nq3
    refine own_via st3 ?_
    show own_Go p e below s _ _ (T3.setTop (mkF m 65 #[.val (.long p0), .second, .val (.long (0 : Int64)), .second, .val (.ref w0), .val (.ref w0)] [(.int (0 : Int32))]))
    refine own_by (fun tz kz => XS.lloadN X3.here hx rfl (hb hby at_65) rfl kz) ?_
    show own_Go p e below s _ _ (T3.setTop (mkF m 66 #[.val (.long p0), .second, .val (.long (0 : Int64)), .second, .val (.ref w0), .val (.ref w0)] [(.long (0 : Int64)), (.int (0 : Int32))]))
    refine own_by (fun tz kz => XS.l2i X3.here hx rfl (hb hby at_66) rfl kz) ?_
    show own_Go p e below s _ _ (T3.setTop (mkF m 67 #[.val (.long p0), .second, .val (.long (0 : Int64)), .second, .val (.ref w0), .val (.ref w0)] [(.int ((0 : Int64).toInt32)), (.int (0 : Int32))]))
    refine own_by (fun tz kz => XS.icmpNo X3.here hx rfl (hb hby at_67) rfl (teq (by decide : (0 : Int32) = ((0 : Int64).toInt32))).2 kz) ?_
    show own_Go p e below s _ _ (T3.setTop (mkF m 70 #[.val (.long p0), .second, .val (.long (0 : Int64)), .second, .val (.ref w0), .val (.ref w0)] []))
    refine own_by (fun tz kz => XS.iconst X3.here hx rfl (hb hby at_70) kz) ?_
    show own_Go p e below s _ _ (T3.setTop (mkF m 71 #[.val (.long p0), .second, .val (.long (0 : Int64)), .second, .val (.ref w0), .val (.ref w0)] [(.int (1 : Int32))]))
    refine own_by (fun tz kz => XS.goto X3.here hx rfl (pc0 := 71) (pc' := 75) rfl (hb hby at_71) (by decide) (by decide) kz) ?_
    show own_Go p e below s _ _ (T3.setTop (mkF m 75 #[.val (.long p0), .second, .val (.long (0 : Int64)), .second, .val (.ref w0), .val (.ref w0)] [(.int (1 : Int32))]))
    refine own_retI X3 hx hlk (t := .boolean) hret (by simp) rfl (hb hby at_75) ?_ (by decide) (by decide)
    exact ⟨rfl, N3⟩
  · show own_Go p e below s _ _ (s₁.setTop (mkF m 14 #[.val (.long p0), .second, .val (.long (1 : Int64)), .second, .unset, .unset] []))
    refine own_by (fun tz kz => XS.lloadN X0.here hx rfl (hb hby at_14) rfl kz) ?_
    show own_Go p e below s _ _ (s₁.setTop (mkF m 15 #[.val (.long p0), .second, .val (.long (1 : Int64)), .second, .unset, .unset] [(.long (1 : Int64))]))
    obtain ⟨_, _, ⟨T4, L4, k4, n4⟩, -, X4, ⟨Lc4, hQ4, l4, y4, z4⟩, st4⟩ := Jvm.LawKit.callS X0 hx (y := (⟨"com/example/weft/weft/engine/Argon2Type", "fromNumber", "(J)Lcom/example/weft/weft/engine/Argon2Type;"⟩ : MethodName)) hown (mvT hZ (hw _ (List.mem_of_getElem? (i := 1) rfl))) (mvT hZ (hw _ (List.mem_of_getElem? (i := 2) rfl))) (mvT hZ (hw _ (List.mem_of_getElem? (i := 3) rfl))) (mvT hZ (hw _ (List.mem_of_getElem? (i := 4) rfl))) (by decide) (backOf (W := 0) (rm_of1 l Z a0 hw [] va kv w0 w1 w2 h0 n0 O0 S_v V_v E_v F_0 F_1 F_2) hZ (hw _ (List.mem_of_getElem? (i := 4) rfl)) (hw _ (List.mem_of_getElem? (i := 3) rfl)) (by decide) (by decide)) (g := (mkF m 15 #[.val (.long p0), .second, .val (.long (1 : Int64)), .second, .unset, .unset] [(.long (1 : Int64))])) rfl (by rw [hml]; rfl) (argsL := [(.long (1 : Int64))]) (rest := []) (lenOf pd_0 rfl) rfl (by show 2 * 0 + _ ≤ _; exact Nat.le_of_eq rfl) (hb hby at_15) (fun _ _ => ⟨rfl, e0, (by decide : 0 + 1 ≤ _), (by decide : 0 + 3 ≤ _)⟩)
    dsimp only [Pt.U, Pt.locs, Pt.cells, Pt.slots] at X4 l4 y4 z4 st4 hQ4
    rw [l4, y4, z4] at X4
    obtain ⟨rfl, Nq4, Kq4⟩ := hQ4
    have N4 := Fr.app N0 Nq4
    have e4 : T4.heap = T4.heap := rfl
    refine own_by st4 ?_
    have O4 := O0.keep Kq4 all0
    have K4 := K0.trans Kq4 all0
    show own_Go p e below s _ _ (T4.setTop (mkF m 18 #[.val (.long p0), .second, .val (.long (1 : Int64)), .second, .unset, .unset] [(.ref w1)]))
    refine own_by (fun tz kz => XS.astore X4.here hx rfl (hb hby at_18) rfl rfl (l' := #[.val (.long p0), .second, .val (.long (1 : Int64)), .second, .val (.ref w1), .unset]) rfl kz) ?_
    show own_Go p e below s _ _ (T4.setTop (mkF m 20 #[.val (.long p0), .second, .val (.long (1 : Int64)), .second, .val (.ref w1), .unset] []))
    refine own_by (fun tz kz => XS.lloadN X4.here hx rfl (hb hby at_20) rfl kz) ?_
    show own_Go p e below s _ _ (T4.setTop (mkF m 21 #[.val (.long p0), .second, .val (.long (1 : Int64)), .second, .val (.ref w1), .unset] [(.long (1 : Int64))]))
    refine own_by (fun tz kz => XS.lconst X4.here hx rfl (hb hby at_21) kz) ?_
    show own_Go p e below s _ _ (T4.setTop (mkF m 22 #[.val (.long p0), .second, .val (.long (1 : Int64)), .second, .val (.ref w1), .unset] [(.long (0 : Int64)), (.long (1 : Int64))]))
    refine own_by (fun tz kz => XS.lcmp X4.here hx rfl (hb hby at_22) rfl kz) ?_
    show own_Go p e below s _ _ (T4.setTop (mkF m 23 #[.val (.long p0), .second, .val (.long (1 : Int64)), .second, .val (.ref w1), .unset] [(.int (lcmpW (1 : Int64) (0 : Int64)))]))
    refine own_by (fun tz kz => XS.ifYes X4.here hx rfl (pc0 := 23) (pc' := 34) rfl (hb hby at_23) rfl ((if0 _ _).trans (feq (fun q => (by decide : ¬ (1 : Int64) = (0 : Int64)) ((lw_eq (1 : Int64) (0 : Int64)).mp q))).2) (by decide) (by decide) kz) ?_
    show own_Go p e below s _ _ (T4.setTop (mkF m 34 #[.val (.long p0), .second, .val (.long (1 : Int64)), .second, .val (.ref w1), .unset] []))
    refine own_by (fun tz kz => XS.lloadN X4.here hx rfl (hb hby at_34) rfl kz) ?_
    show own_Go p e below s _ _ (T4.setTop (mkF m 35 #[.val (.long p0), .second, .val (.long (1 : Int64)), .second, .val (.ref w1), .unset] [(.long (1 : Int64))]))
    refine own_by (fun tz kz => XS.lconst X4.here hx rfl (hb hby at_35) kz) ?_
    show own_Go p e below s _ _ (T4.setTop (mkF m 36 #[.val (.long p0), .second, .val (.long (1 : Int64)), .second, .val (.ref w1), .unset] [(.long (1 : Int64)), (.long (1 : Int64))]))
    refine own_by (fun tz kz => XS.lcmp X4.here hx rfl (hb hby at_36) rfl kz) ?_
    show own_Go p e below s _ _ (T4.setTop (mkF m 37 #[.val (.long p0), .second, .val (.long (1 : Int64)), .second, .val (.ref w1), .unset] [(.int (lcmpW (1 : Int64) (1 : Int64)))]))
    refine own_by (fun tz kz => XS.ifNo X4.here hx rfl (hb hby at_37) rfl ((if0 _ _).trans (teq ((lw_eq (1 : Int64) (1 : Int64)).mpr (by decide : (1 : Int64) = (1 : Int64)))).2) kz) ?_
    show own_Go p e below s _ _ (T4.setTop (mkF m 40 #[.val (.long p0), .second, .val (.long (1 : Int64)), .second, .val (.ref w1), .unset] []))
    obtain ⟨T5, X5, e5, st5⟩ := getS2 X4 hx hZ hown (host := "") (Or.inl (hw _ (List.mem_of_getElem? (i := 31) rfl))) Via.refl e4 (S_1.ext O4.2) (g := (mkF m 40 #[.val (.long p0), .second, .val (.long (1 : Int64)), .second, .val (.ref w1), .unset] [])) rfl (hb hby at_40)
    refine own_by st5 ?_
    show own_Go p e below s _ _ (T5.setTop (mkF m 43 #[.val (.long p0), .second, .val (.long (1 : Int64)), .second, .val (.ref w1), .unset] [(.ref w1)]))
    refine own_by (fun tz kz => XS.astore X5.here hx rfl (hb hby at_43) rfl rfl (l' := #[.val (.long p0), .second, .val (.long (1 : Int64)), .second, .val (.ref w1), .val (.ref w1)]) rfl kz) ?_
    show own_Go p e below s _ _ (T5.setTop (mkF m 45 #[.val (.long p0), .second, .val (.long (1 : Int64)), .second, .val (.ref w1), .val (.ref w1)] []))
    refine own_by (fun tz kz => XS.goto X5.here hx rfl (pc0 := 45) (pc' := 53) rfl (hb hby at_45) (by decide) (by decide) kz) ?_
    show own_Go p e below s _ _ (T5.setTop (mkF m 53 #[.val (.long p0), .second, .val (.long (1 : Int64)), .second, .val (.ref w1), .val (.ref w1)] []))
    refine own_by (fun tz kz => XS.aload X5.here hx rfl (hb hby at_53) rfl rfl kz) ?_
    show own_Go p e below s _ _ (T5.setTop (mkF m 55 #[.val (.long p0), .second, .val (.long (1 : Int64)), .second, .val (.ref w1), .val (.ref w1)] [(.ref w1)]))
    refine own_by (fun tz kz => XS.aload X5.here hx rfl (hb hby at_55) rfl rfl kz) ?_
    show own_Go p e below s _ _ (T5.setTop (mkF m 57 #[.val (.long p0), .second, .val (.long (1 : Int64)), .second, .val (.ref w1), .val (.ref w1)] [(.ref w1), (.ref w1)]))
    refine own_by (fun tz kz => Jvm.RoadKit.acmp (g := (mkF m 57 #[.val (.long p0), .second, .val (.long (1 : Int64)), .second, .val (.ref w1), .val (.ref w1)] [(.ref w1), (.ref w1)])) X5 hx rfl rfl rfl (pc0 := 57) (pc' := 60) (same := true) rfl (hb hby at_57) rfl (decide_eq_true rfl) (by decide) (by decide) kz) ?_
    show own_Go p e below s _ _ (T5.setTop (mkF m 60 #[.val (.long p0), .second, .val (.long (1 : Int64)), .second, .val (.ref w1), .val (.ref w1)] []))
    refine own_by (fun tz kz => XS.aload X5.here hx rfl (hb hby at_60) rfl rfl kz) ?_
    show own_Go p e below s _ _ (T5.setTop (mkF m 62 #[.val (.long p0), .second, .val (.long (1 : Int64)), .second, .val (.ref w1), .val (.ref w1)] [(.ref w1)]))
    obtain ⟨cq6, kq6, q6a, q6b, q6c⟩ := isOf hZ e5 (E_1.ext O4.2)
    obtain ⟨_, _, ⟨T6, L6, k6, n6⟩, -, X6, ⟨Lc6, hQ6, l6, y6, z6⟩, st6⟩ := X5.virtualBack hx (y := (⟨"com/example/weft/weft/engine/Argon2Type", "getNumber", "()I"⟩ : MethodName)) (z := (⟨"com/example/weft/weft/engine/Argon2Type", "getNumber", "()I"⟩ : MethodName)) hown (mvT hZ (hw _ (List.mem_of_getElem? (i := 26) rfl))) (mvT hZ (hw _ (List.mem_of_getElem? (i := 27) rfl))) (notFace_of_selects (args := #[]) (mvT hZ (hw _ (List.mem_of_getElem? (i := 29) rfl)))) (mvT hZ (hw _ (List.mem_of_getElem? (i := 29) rfl))) (mvT hZ (hw _ (List.mem_of_getElem? (i := 28) rfl))) (by decide) (backOf (W := 0) (rm_num l Z a0 hw [] w1 (1 : Int32) T4.heap n0 (F_1.ext O4.2)) hZ (hw _ (List.mem_of_getElem? (i := 30) rfl)) (hw _ (List.mem_of_getElem? (i := 3) rfl)) (by decide) (by decide)) q6a q6c (g := (mkF m 62 #[.val (.long p0), .second, .val (.long (1 : Int64)), .second, .val (.ref w1), .val (.ref w1)] [(.ref w1)])) rfl (by rw [hml]; rfl) (Steps.refl _) (argsL := []) (rest := []) (lenOf pd_3 rfl) rfl (by show 2 * 0 + _ ≤ _; exact Nat.le_of_eq rfl) (hb hby at_62) (fun _ _ => ⟨rfl, e5, (by decide : (0 + 1) + 0 ≤ _), (by decide : (0 + 3) + 0 ≤ _)⟩)
    dsimp only [Pt.U, Pt.locs, Pt.cells, Pt.slots] at X6 l6 y6 z6 st6 hQ6
    rw [l6, y6, z6] at X6
    obtain ⟨rfl, Nq6, e6⟩ := hQ6
    have N6 := Fr.app N4 Nq6
    refine own_via st6 ?_
    show own_Go p e below s _ _ (T6.setTop (mkF m 65 #[.val (.long p0), .second, .val (.long (1 : Int64)), .second, .val (.ref w1), .val (.ref w1)] [(.int (1 : Int32))]))
    refine own_by (fun tz kz => XS.lloadN X6.here hx rfl (hb hby at_65) rfl kz) ?_
    show own_Go p e below s _ _ (T6.setTop (mkF m 66 #[.val (.long p0), .second, .val (.long (1 : Int64)), .second, .val (.ref w1), .val (.ref w1)] [(.long (1 : Int64)), (.int (1 : Int32))]))
    refine own_by (fun tz kz => XS.l2i X6.here hx rfl (hb hby at_66) rfl kz) ?_
    show own_Go p e below s _ _ (T6.setTop (mkF m 67 #[.val (.long p0), .second, .val (.long (1 : Int64)), .second, .val (.ref w1), .val (.ref w1)] [(.int ((1 : Int64).toInt32)), (.int (1 : Int32))]))
    refine own_by (fun tz kz => XS.icmpNo X6.here hx rfl (hb hby at_67) rfl (teq (by decide : (1 : Int32) = ((1 : Int64).toInt32))).2 kz) ?_
    show own_Go p e below s _ _ (T6.setTop (mkF m 70 #[.val (.long p0), .second, .val (.long (1 : Int64)), .second, .val (.ref w1), .val (.ref w1)] []))
    refine own_by (fun tz kz => XS.iconst X6.here hx rfl (hb hby at_70) kz) ?_
    show own_Go p e below s _ _ (T6.setTop (mkF m 71 #[.val (.long p0), .second, .val (.long (1 : Int64)), .second, .val (.ref w1), .val (.ref w1)] [(.int (1 : Int32))]))
    refine own_by (fun tz kz => XS.goto X6.here hx rfl (pc0 := 71) (pc' := 75) rfl (hb hby at_71) (by decide) (by decide) kz) ?_
    show own_Go p e below s _ _ (T6.setTop (mkF m 75 #[.val (.long p0), .second, .val (.long (1 : Int64)), .second, .val (.ref w1), .val (.ref w1)] [(.int (1 : Int32))]))
    refine own_retI X6 hx hlk (t := .boolean) hret (by simp) rfl (hb hby at_75) ?_ (by decide) (by decide)
    exact ⟨rfl, N6⟩
  · show own_Go p e below s _ _ (s₁.setTop (mkF m 14 #[.val (.long p0), .second, .val (.long (2 : Int64)), .second, .unset, .unset] []))
    refine own_by (fun tz kz => XS.lloadN X0.here hx rfl (hb hby at_14) rfl kz) ?_
    show own_Go p e below s _ _ (s₁.setTop (mkF m 15 #[.val (.long p0), .second, .val (.long (2 : Int64)), .second, .unset, .unset] [(.long (2 : Int64))]))
    obtain ⟨_, _, ⟨T7, L7, k7, n7⟩, -, X7, ⟨Lc7, hQ7, l7, y7, z7⟩, st7⟩ := Jvm.LawKit.callS X0 hx (y := (⟨"com/example/weft/weft/engine/Argon2Type", "fromNumber", "(J)Lcom/example/weft/weft/engine/Argon2Type;"⟩ : MethodName)) hown (mvT hZ (hw _ (List.mem_of_getElem? (i := 1) rfl))) (mvT hZ (hw _ (List.mem_of_getElem? (i := 2) rfl))) (mvT hZ (hw _ (List.mem_of_getElem? (i := 3) rfl))) (mvT hZ (hw _ (List.mem_of_getElem? (i := 4) rfl))) (by decide) (backOf (W := 0) (rm_of2 l Z a0 hw [] va kv w0 w1 w2 h0 n0 O0 S_v V_v E_v F_0 F_1 F_2) hZ (hw _ (List.mem_of_getElem? (i := 4) rfl)) (hw _ (List.mem_of_getElem? (i := 3) rfl)) (by decide) (by decide)) (g := (mkF m 15 #[.val (.long p0), .second, .val (.long (2 : Int64)), .second, .unset, .unset] [(.long (2 : Int64))])) rfl (by rw [hml]; rfl) (argsL := [(.long (2 : Int64))]) (rest := []) (lenOf pd_0 rfl) rfl (by show 2 * 0 + _ ≤ _; exact Nat.le_of_eq rfl) (hb hby at_15) (fun _ _ => ⟨rfl, e0, (by decide : 0 + 1 ≤ _), (by decide : 0 + 3 ≤ _)⟩)
    dsimp only [Pt.U, Pt.locs, Pt.cells, Pt.slots] at X7 l7 y7 z7 st7 hQ7
    rw [l7, y7, z7] at X7
    obtain ⟨rfl, Nq7, Kq7⟩ := hQ7
    have N7 := Fr.app N0 Nq7
    have e7 : T7.heap = T7.heap := rfl
    refine own_by st7 ?_
    have O7 := O0.keep Kq7 all0
    have K7 := K0.trans Kq7 all0
    show own_Go p e below s _ _ (T7.setTop (mkF m 18 #[.val (.long p0), .second, .val (.long (2 : Int64)), .second, .unset, .unset] [(.ref w2)]))
    refine own_by (fun tz kz => XS.astore X7.here hx rfl (hb hby at_18) rfl rfl (l' := #[.val (.long p0), .second, .val (.long (2 : Int64)), .second, .val (.ref w2), .unset]) rfl kz) ?_
    show own_Go p e below s _ _ (T7.setTop (mkF m 20 #[.val (.long p0), .second, .val (.long (2 : Int64)), .second, .val (.ref w2), .unset] []))
    refine own_by (fun tz kz => XS.lloadN X7.here hx rfl (hb hby at_20) rfl kz) ?_
    show own_Go p e below s _ _ (T7.setTop (mkF m 21 #[.val (.long p0), .second, .val (.long (2 : Int64)), .second, .val (.ref w2), .unset] [(.long (2 : Int64))]))
    refine own_by (fun tz kz => XS.lconst X7.here hx rfl (hb hby at_21) kz) ?_
    show own_Go p e below s _ _ (T7.setTop (mkF m 22 #[.val (.long p0), .second, .val (.long (2 : Int64)), .second, .val (.ref w2), .unset] [(.long (0 : Int64)), (.long (2 : Int64))]))
    refine own_by (fun tz kz => XS.lcmp X7.here hx rfl (hb hby at_22) rfl kz) ?_
    show own_Go p e below s _ _ (T7.setTop (mkF m 23 #[.val (.long p0), .second, .val (.long (2 : Int64)), .second, .val (.ref w2), .unset] [(.int (lcmpW (2 : Int64) (0 : Int64)))]))
    refine own_by (fun tz kz => XS.ifYes X7.here hx rfl (pc0 := 23) (pc' := 34) rfl (hb hby at_23) rfl ((if0 _ _).trans (feq (fun q => (by decide : ¬ (2 : Int64) = (0 : Int64)) ((lw_eq (2 : Int64) (0 : Int64)).mp q))).2) (by decide) (by decide) kz) ?_
    show own_Go p e below s _ _ (T7.setTop (mkF m 34 #[.val (.long p0), .second, .val (.long (2 : Int64)), .second, .val (.ref w2), .unset] []))
    refine own_by (fun tz kz => XS.lloadN X7.here hx rfl (hb hby at_34) rfl kz) ?_
    show own_Go p e below s _ _ (T7.setTop (mkF m 35 #[.val (.long p0), .second, .val (.long (2 : Int64)), .second, .val (.ref w2), .unset] [(.long (2 : Int64))]))
    refine own_by (fun tz kz => XS.lconst X7.here hx rfl (hb hby at_35) kz) ?_
    show own_Go p e below s _ _ (T7.setTop (mkF m 36 #[.val (.long p0), .second, .val (.long (2 : Int64)), .second, .val (.ref w2), .unset] [(.long (1 : Int64)), (.long (2 : Int64))]))
    refine own_by (fun tz kz => XS.lcmp X7.here hx rfl (hb hby at_36) rfl kz) ?_
    show own_Go p e below s _ _ (T7.setTop (mkF m 37 #[.val (.long p0), .second, .val (.long (2 : Int64)), .second, .val (.ref w2), .unset] [(.int (lcmpW (2 : Int64) (1 : Int64)))]))
    refine own_by (fun tz kz => XS.ifYes X7.here hx rfl (pc0 := 37) (pc' := 48) rfl (hb hby at_37) rfl ((if0 _ _).trans (feq (fun q => (by decide : ¬ (2 : Int64) = (1 : Int64)) ((lw_eq (2 : Int64) (1 : Int64)).mp q))).2) (by decide) (by decide) kz) ?_
    show own_Go p e below s _ _ (T7.setTop (mkF m 48 #[.val (.long p0), .second, .val (.long (2 : Int64)), .second, .val (.ref w2), .unset] []))
    obtain ⟨T8, X8, e8, st8⟩ := getS2 X7 hx hZ hown (host := "") (Or.inl (hw _ (List.mem_of_getElem? (i := 32) rfl))) Via.refl e7 (S_2.ext O7.2) (g := (mkF m 48 #[.val (.long p0), .second, .val (.long (2 : Int64)), .second, .val (.ref w2), .unset] [])) rfl (hb hby at_48)
    refine own_by st8 ?_
    show own_Go p e below s _ _ (T8.setTop (mkF m 51 #[.val (.long p0), .second, .val (.long (2 : Int64)), .second, .val (.ref w2), .unset] [(.ref w2)]))
    refine own_by (fun tz kz => XS.astore X8.here hx rfl (hb hby at_51) rfl rfl (l' := #[.val (.long p0), .second, .val (.long (2 : Int64)), .second, .val (.ref w2), .val (.ref w2)]) rfl kz) ?_
    show own_Go p e below s _ _ (T8.setTop (mkF m 53 #[.val (.long p0), .second, .val (.long (2 : Int64)), .second, .val (.ref w2), .val (.ref w2)] []))
    refine own_by (fun tz kz => XS.aload X8.here hx rfl (hb hby at_53) rfl rfl kz) ?_
    show own_Go p e below s _ _ (T8.setTop (mkF m 55 #[.val (.long p0), .second, .val (.long (2 : Int64)), .second, .val (.ref w2), .val (.ref w2)] [(.ref w2)]))
    refine own_by (fun tz kz => XS.aload X8.here hx rfl (hb hby at_55) rfl rfl kz) ?_
    show own_Go p e below s _ _ (T8.setTop (mkF m 57 #[.val (.long p0), .second, .val (.long (2 : Int64)), .second, .val (.ref w2), .val (.ref w2)] [(.ref w2), (.ref w2)]))
    refine own_by (fun tz kz => Jvm.RoadKit.acmp (g := (mkF m 57 #[.val (.long p0), .second, .val (.long (2 : Int64)), .second, .val (.ref w2), .val (.ref w2)] [(.ref w2), (.ref w2)])) X8 hx rfl rfl rfl (pc0 := 57) (pc' := 60) (same := true) rfl (hb hby at_57) rfl (decide_eq_true rfl) (by decide) (by decide) kz) ?_
    show own_Go p e below s _ _ (T8.setTop (mkF m 60 #[.val (.long p0), .second, .val (.long (2 : Int64)), .second, .val (.ref w2), .val (.ref w2)] []))
    refine own_by (fun tz kz => XS.aload X8.here hx rfl (hb hby at_60) rfl rfl kz) ?_
    show own_Go p e below s _ _ (T8.setTop (mkF m 62 #[.val (.long p0), .second, .val (.long (2 : Int64)), .second, .val (.ref w2), .val (.ref w2)] [(.ref w2)]))
    obtain ⟨cq9, kq9, q9a, q9b, q9c⟩ := isOf hZ e8 (E_2.ext O7.2)
    obtain ⟨_, _, ⟨T9, L9, k9, n9⟩, -, X9, ⟨Lc9, hQ9, l9, y9, z9⟩, st9⟩ := X8.virtualBack hx (y := (⟨"com/example/weft/weft/engine/Argon2Type", "getNumber", "()I"⟩ : MethodName)) (z := (⟨"com/example/weft/weft/engine/Argon2Type", "getNumber", "()I"⟩ : MethodName)) hown (mvT hZ (hw _ (List.mem_of_getElem? (i := 26) rfl))) (mvT hZ (hw _ (List.mem_of_getElem? (i := 27) rfl))) (notFace_of_selects (args := #[]) (mvT hZ (hw _ (List.mem_of_getElem? (i := 29) rfl)))) (mvT hZ (hw _ (List.mem_of_getElem? (i := 29) rfl))) (mvT hZ (hw _ (List.mem_of_getElem? (i := 28) rfl))) (by decide) (backOf (W := 0) (rm_num l Z a0 hw [] w2 (2 : Int32) T7.heap n0 (F_2.ext O7.2)) hZ (hw _ (List.mem_of_getElem? (i := 30) rfl)) (hw _ (List.mem_of_getElem? (i := 3) rfl)) (by decide) (by decide)) q9a q9c (g := (mkF m 62 #[.val (.long p0), .second, .val (.long (2 : Int64)), .second, .val (.ref w2), .val (.ref w2)] [(.ref w2)])) rfl (by rw [hml]; rfl) (Steps.refl _) (argsL := []) (rest := []) (lenOf pd_3 rfl) rfl (by show 2 * 0 + _ ≤ _; exact Nat.le_of_eq rfl) (hb hby at_62) (fun _ _ => ⟨rfl, e8, (by decide : (0 + 1) + 0 ≤ _), (by decide : (0 + 3) + 0 ≤ _)⟩)
    dsimp only [Pt.U, Pt.locs, Pt.cells, Pt.slots] at X9 l9 y9 z9 st9 hQ9
    rw [l9, y9, z9] at X9
    obtain ⟨rfl, Nq9, e9⟩ := hQ9
    have N9 := Fr.app N7 Nq9
    refine own_via st9 ?_
    show own_Go p e below s _ _ (T9.setTop (mkF m 65 #[.val (.long p0), .second, .val (.long (2 : Int64)), .second, .val (.ref w2), .val (.ref w2)] [(.int (2 : Int32))]))
    refine own_by (fun tz kz => XS.lloadN X9.here hx rfl (hb hby at_65) rfl kz) ?_
    show own_Go p e below s _ _ (T9.setTop (mkF m 66 #[.val (.long p0), .second, .val (.long (2 : Int64)), .second, .val (.ref w2), .val (.ref w2)] [(.long (2 : Int64)), (.int (2 : Int32))]))
    refine own_by (fun tz kz => XS.l2i X9.here hx rfl (hb hby at_66) rfl kz) ?_
    show own_Go p e below s _ _ (T9.setTop (mkF m 67 #[.val (.long p0), .second, .val (.long (2 : Int64)), .second, .val (.ref w2), .val (.ref w2)] [(.int ((2 : Int64).toInt32)), (.int (2 : Int32))]))
    refine own_by (fun tz kz => XS.icmpNo X9.here hx rfl (hb hby at_67) rfl (teq (by decide : (2 : Int32) = ((2 : Int64).toInt32))).2 kz) ?_
    show own_Go p e below s _ _ (T9.setTop (mkF m 70 #[.val (.long p0), .second, .val (.long (2 : Int64)), .second, .val (.ref w2), .val (.ref w2)] []))
    refine own_by (fun tz kz => XS.iconst X9.here hx rfl (hb hby at_70) kz) ?_
    show own_Go p e below s _ _ (T9.setTop (mkF m 71 #[.val (.long p0), .second, .val (.long (2 : Int64)), .second, .val (.ref w2), .val (.ref w2)] [(.int (1 : Int32))]))
    refine own_by (fun tz kz => XS.goto X9.here hx rfl (pc0 := 71) (pc' := 75) rfl (hb hby at_71) (by decide) (by decide) kz) ?_
    show own_Go p e below s _ _ (T9.setTop (mkF m 75 #[.val (.long p0), .second, .val (.long (2 : Int64)), .second, .val (.ref w2), .val (.ref w2)] [(.int (1 : Int32))]))
    refine own_retI X9 hx hlk (t := .boolean) hret (by simp) rfl (hb hby at_75) ?_ (by decide) (by decide)
    exact ⟨rfl, N9⟩
set_option maxRecDepth 65536 in
set_option maxHeartbeats 40000000 in
theorem comes_1 {Post : Tables → Env → Array Value → State → Outcome → State → Prop} (hpost : ∀ tb e args s v u, (limb_1_1.after args s (.returned v) u = true ∧ limb_1_2.after args s (.returned v) u = true ∧ True) → FrameEnd s (.returned v) u (Jvm.fieldLocs frame_1_writes args s ++ Jvm.arrayLocs frame_1_arrays args s ++ Jvm.staticLocs frame_1_statics s) 16 128 → Post tb e args s (.returned v) u) :
    ArmFor flags0 classFile x code maxLocals ret World_1 tables_1 room_1 Calls_1 rest_1 Pre_1 Post := by
  intro l hfl _ _ p e ha hc hk s m args below hf hA hF happ hP
  obtain ⟨hcalls, hrest, hpre⟩ := hP
  obtain ⟨-, -, -, hnamed, -, -, -, hat⟩ := (Spec.applies_iff hf).mp happ
  obtain ⟨hg, hn⟩ := and_e (Cond.before_iff.mp (show (Jvm.Cond.and given_1 narrow_1).before args s = true from hpre))
  obtain ⟨g1a, g1b⟩ := and_e hg
  obtain ⟨w0, rfl⟩ : ∃ w0 : Value, args = #[w0] := by
    have hs : args.size = 1 := by simpa [Cond.value, given_1] using g1a
    obtain ⟨L⟩ := args
    match L, hs with
    | [w0], _ => exact ⟨w0, rfl⟩
  have hw := fun d (hd : d ∈ tables_1) => atoms_spec (ws := Jvm.Cond.code x code maxLocals ret :: tables_1) hat d (List.mem_cons_of_mem _ hd)
  have hfit : Fit s := fun {y c} hc i hi => by
    obtain ⟨ha, rfl⟩ := Array.getElem?_eq_some_iff.mp hc
    have q := List.all_eq_true.mp ((Array.all_eq_true_iff_forall_mem.mp hF) _ (Array.getElem_mem ha)) i (List.mem_range.mpr hi)
    simpa [Array.getElem?_eq_getElem hi] using q
  obtain ⟨i0, ei0⟩ := isL_v g1b
  obtain rfl : w0 = (.long i0) := Option.some.inj ei0
  obtain ⟨m2a, m2b⟩ := and_e hn
  obtain ⟨m3a, m3b⟩ := and_e m2b
  obtain ⟨m4a, m4b⟩ := and_e m3b
  obtain ⟨m5a, m5b⟩ := and_e m4b
  obtain ⟨m6a, m6b⟩ := and_e m5b
  obtain ⟨m7a, m7b⟩ := and_e m6b
  obtain ⟨m8a, m8b⟩ := and_e m7b
  obtain ⟨m9a, m9b⟩ := and_e m8b
  obtain ⟨m10a, m10b⟩ := and_e m9b
  obtain ⟨m11a, m11b⟩ := and_e m10b
  obtain ⟨m12a, m12b⟩ := and_e m11b
  obtain ⟨Argon2Type__VALUES, ev_Argon2Type__VALUES⟩ := exa_v m3a
  have E_Argon2Type__VALUES : Exa s s.heap Argon2Type__VALUES "[Lcom/example/weft/weft/engine/Argon2Type;" := Exa.start ev_Argon2Type__VALUES m3a
  have S_Argon2Type__VALUES : Sta s s.heap "com/example/weft/weft/engine/Argon2Type" "$VALUES" "[Lcom/example/weft/weft/engine/Argon2Type;" (.ref Argon2Type__VALUES) := Sta.start ev_Argon2Type__VALUES (Or.inr ⟨(hw _ (List.mem_of_getElem? (i := 3) rfl)), (hw _ (List.mem_of_getElem? (i := 9) rfl))⟩)
  obtain ⟨Argon2Type_ARGON2D, ev_Argon2Type_ARGON2D⟩ := exa_v m5a
  have E_Argon2Type_ARGON2D : Exa s s.heap Argon2Type_ARGON2D "com/example/weft/weft/engine/Argon2Type" := Exa.start ev_Argon2Type_ARGON2D m5a
  have S_Argon2Type_ARGON2D : Sta s s.heap "com/example/weft/weft/engine/Argon2Type" "ARGON2D" "Lcom/example/weft/weft/engine/Argon2Type;" (.ref Argon2Type_ARGON2D) := Sta.start ev_Argon2Type_ARGON2D (Or.inr ⟨(hw _ (List.mem_of_getElem? (i := 3) rfl)), (hw _ (List.mem_of_getElem? (i := 17) rfl))⟩)
  obtain ⟨Argon2Type_ARGON2I, ev_Argon2Type_ARGON2I⟩ := exa_v m7a
  have E_Argon2Type_ARGON2I : Exa s s.heap Argon2Type_ARGON2I "com/example/weft/weft/engine/Argon2Type" := Exa.start ev_Argon2Type_ARGON2I m7a
  have S_Argon2Type_ARGON2I : Sta s s.heap "com/example/weft/weft/engine/Argon2Type" "ARGON2I" "Lcom/example/weft/weft/engine/Argon2Type;" (.ref Argon2Type_ARGON2I) := Sta.start ev_Argon2Type_ARGON2I (Or.inr ⟨(hw _ (List.mem_of_getElem? (i := 3) rfl)), (hw _ (List.mem_of_getElem? (i := 18) rfl))⟩)
  obtain ⟨Argon2Type_ARGON2ID, ev_Argon2Type_ARGON2ID⟩ := exa_v m9a
  have E_Argon2Type_ARGON2ID : Exa s s.heap Argon2Type_ARGON2ID "com/example/weft/weft/engine/Argon2Type" := Exa.start ev_Argon2Type_ARGON2ID m9a
  have S_Argon2Type_ARGON2ID : Sta s s.heap "com/example/weft/weft/engine/Argon2Type" "ARGON2ID" "Lcom/example/weft/weft/engine/Argon2Type;" (.ref Argon2Type_ARGON2ID) := Sta.start ev_Argon2Type_ARGON2ID (Or.inr ⟨(hw _ (List.mem_of_getElem? (i := 3) rfl)), (hw _ (List.mem_of_getElem? (i := 19) rfl))⟩)
  have F_Argon2Type_ARGON2D_number : Fld s s.heap Argon2Type_ARGON2D "com/example/weft/weft/engine/Argon2Type" "number" "I" (.int (0 : Int32)) := Fld.start ((fld_at ev_Argon2Type_ARGON2D).symm.trans (eqv_i (Term.int_eval (0)) m11a))
  have F_Argon2Type_ARGON2I_number : Fld s s.heap Argon2Type_ARGON2I "com/example/weft/weft/engine/Argon2Type" "number" "I" (.int (1 : Int32)) := Fld.start ((fld_at ev_Argon2Type_ARGON2I).symm.trans (eqv_i (Term.int_eval (1)) m12a))
  have F_Argon2Type_ARGON2ID_number : Fld s s.heap Argon2Type_ARGON2ID "com/example/weft/weft/engine/Argon2Type" "number" "I" (.int (2 : Int32)) := Fld.start ((fld_at ev_Argon2Type_ARGON2ID).symm.trans (eqv_i (Term.int_eval (2)) m12b))
  obtain ⟨c_Argon2Type__VALUES, A_Argon2Type__VALUES⟩ := Arr.start ev_Argon2Type__VALUES m2a
  obtain ⟨_, _, le1, le2, le3⟩ := Term.length_spec (eqv_i (Term.int_eval (3)) m4a)
  cases ev_Argon2Type__VALUES.symm.trans le1
  cases (State.arrayAt?_spec le2).1.symm.trans A_Argon2Type__VALUES.1
  have z_Argon2Type__VALUES : c_Argon2Type__VALUES.slots.size.toInt32 = (3 : Int32) := (Value.int.inj le3).symm
  have l_Argon2Type__VALUES := own_len31 (eqv_i (Term.int_eval (3)) m4a) ev_Argon2Type__VALUES A_Argon2Type__VALUES.1
  have el_Argon2Type__VALUES_0 := (elem_in (own_eqr rfl ev_Argon2Type_ARGON2D m6a) ev_Argon2Type__VALUES (Term.int_eval (0)) A_Argon2Type__VALUES.1).2
  have el_Argon2Type__VALUES_1 := (elem_in (own_eqr rfl ev_Argon2Type_ARGON2I m8a) ev_Argon2Type__VALUES (Term.int_eval (1)) A_Argon2Type__VALUES.1).2
  have el_Argon2Type__VALUES_2 := (elem_in (own_eqr rfl ev_Argon2Type_ARGON2ID m10a) ev_Argon2Type__VALUES (Term.int_eval (2)) A_Argon2Type__VALUES.1).2
  have V_Argon2Type__VALUES : Arv s s.heap Argon2Type__VALUES c_Argon2Type__VALUES.cls (.object "com/example/weft/weft/engine/Argon2Type") (3 : Int32) [(.ref Argon2Type_ARGON2D), (.ref Argon2Type_ARGON2I), (.ref Argon2Type_ARGON2ID)] .null := Arv.start hfit A_Argon2Type__VALUES l_Argon2Type__VALUES z_Argon2Type__VALUES (by decide) rfl ⟨el_Argon2Type__VALUES_0, el_Argon2Type__VALUES_1, el_Argon2Type__VALUES_2, trivial⟩
  obtain ⟨n, o, h1, h2, h3, _, L, rfl, ⟨rfl, N⟩, hq⟩ := rm0 l s _ hw tables_1 i0 _ Argon2Type__VALUES c_Argon2Type__VALUES.cls Argon2Type_ARGON2D Argon2Type_ARGON2I Argon2Type_ARGON2ID s.heap s.heap.size (Old.start s) S_Argon2Type__VALUES V_Argon2Type__VALUES E_Argon2Type__VALUES F_Argon2Type_ARGON2D_number F_Argon2Type_ARGON2I_number F_Argon2Type_ARGON2ID_number S_Argon2Type_ARGON2D E_Argon2Type_ARGON2D S_Argon2Type_ARGON2I E_Argon2Type_ARGON2I S_Argon2Type_ARGON2ID E_Argon2Type_ARGON2ID rfl (own_n3 i0) p e ha hc hk s m _ below hf ((Spec.applies_iff_loose hf).mp happ).1 ⟨rfl, State.Warmed39.refl s, rfl⟩ trivial
  refine ⟨n, _, h1, h2, h3, hpost _ _ _ _ _ _ ⟨Cond.after_iff.mpr rfl, Cond.after_iff.mpr (eq_i res_at (Term.int_eval (1)) rfl), trivial⟩ ⟨hq.1, hq.2.1, (hq.2.2.sift fun y hy => Or.inr (N y hy)).mono (by decide) (by decide)⟩⟩
theorem main_1_1 : Claimed_1_1 := comes_1 fun _ _ _ _ _ _ h hF => ⟨h.1, hF⟩
theorem main_1_2 : Claimed_1_2 := comes_1 fun _ _ _ _ _ _ h hF => ⟨h.2.1, hF⟩
end Jvm.Pilot.@@N@@
namespace Jvm.Pilot.@@N@@
open Jvm Jvm.ClassFile Sem Op Lib Jvm.Free Jvm.Stand Jvm.Pilot.@@N@@.Jvm.D
/-! MADE BY PROGRAM (witnessworld.py) out of the Statement's table words and the real class files: 13 classes; the members and pool entries that the words name. The judged class is class 1, her method 1. -/
namespace start1
open Jvm.ClassFile
def u (s : String) : CpInfo := .utf8 (stringToUtf16 s)
/-- a pool by its gaps: so many unusable entries, then the entry; so many at the end -/
def gap : Nat → List CpInfo → List CpInfo
  | 0, r => r
  | n + 1, r => .unusable :: gap n r
def poolList (es : List (Nat × CpInfo)) (last : Nat) : List CpInfo := es.foldr (fun e r => gap e.1 (e.2 :: r)) (gap last [])
def pool (es : List (Nat × CpInfo)) (last : Nat) : Array CpInfo := ⟨poolList es last⟩
def fileOf (pool : Array CpInfo) (this : Nat) (attrs : Array Attribute := #[]) (ms : Array MethodInfo := #[]) (fl : Nat := 33) (sup : Nat := 0) (ifs : Array Nat := #[]) (fds : Array FieldInfo := #[]) : ClassFile where
  minorVersion := 0
  majorVersion := 65
  constantPool := pool
  accessFlags := fl
  thisClass := this
  superClass := sup
  interfaces := ifs
  fields := fds
  methods := ms
  attributes := attrs
def plain (name : String) (sup : Option ClassId) : Class where
  name := name
  kind := .ordinary
  loader := none
  accessFlags := 33
  super := sup
  interfaces := #[]
  cf := none
  fields := #[]
  methods := #[]
  instanceTypes := #[]
  staticTypes := #[]
  resolved := #[]
  callSites := []
  init := .initialized
  statics := none
  mirror := none

def pool0 : Array CpInfo := pool [(5, u "<init>"), (0, u "()V"), (1, .class_ 10), (1, u "java/lang/Object"), (85, u "clone"), (0, u "()Ljava/lang/Object;")] 26

def k0m0 : Method := { name := "<init>", desc := "()V", sig := { parameters := [], returnType := none }, accessFlags := 1, code := none }
def k0m1 : Method := { name := "clone", desc := "()Ljava/lang/Object;", sig := { parameters := [], returnType := some (.object "java/lang/Object") }, accessFlags := 260, code := none }
/-- java/lang/Object -/
def k0 : Class := { plain "java/lang/Object" none with
  accessFlags := 33
  interfaces := #[]
  cf := some (fileOf pool0 8 #[] #[{ accessFlags := 1, nameIndex := 5, descriptorIndex := 6, attributes := #[] }, { accessFlags := 260, nameIndex := 96, descriptorIndex := 97, attributes := #[] }] 33 0 #[] #[])
  fields := #[]
  methods := #[k0m0, k0m1]
  instanceTypes := #[]
  staticTypes := #[]
  resolved := Array.replicate 124 none
  statics := none }

def pool1 : Array CpInfo := pool [(2, .class_ 4), (1, u "java/lang/Object"), (0, u "<init>"), (0, u "()V"), (0, .long 3), (1, .methodref 10 11), (0, .class_ 12), (0, .nameAndType 13 14), (0, u "com/example/weft/weft/engine/Argon2Type"), (0, u "fromNumber"), (0, u "(J)Lcom/example/weft/weft/engine/Argon2Type;"), (0, .fieldref 10 16), (0, .nameAndType 17 18), (0, u "ARGON2D"), (0, u "Lcom/example/weft/weft/engine/Argon2Type;"), (0, .fieldref 10 20), (0, .nameAndType 21 18), (0, u "ARGON2I"), (0, .fieldref 10 23), (0, .nameAndType 24 18), (0, u "ARGON2ID"), (0, .methodref 10 26), (0, .nameAndType 27 28), (0, u "getNumber"), (0, u "()I"), (0, .class_ 30), (0, u "com/example/weft/weft/engine/Argon2TypeFromNumberPinLaw"), (2, u "law"), (0, u "(J)Z")] 3

def k1m0 : Method := { name := "<init>", desc := "()V", sig := { parameters := [], returnType := none }, accessFlags := 1, code := none }
def k1c1 : Code := { maxStack := 4, maxLocals := 6, code := code, exceptionTable := #[], attributes := #[] }
def k1m1 : Method := { name := "law", desc := "(J)Z", sig := { parameters := [.long], returnType := some .boolean }, accessFlags := 9, code := some k1c1 }
/-- com/example/weft/weft/engine/Argon2TypeFromNumberPinLaw -/
def k1 : Class := { plain "com/example/weft/weft/engine/Argon2TypeFromNumberPinLaw" (some 0) with
  accessFlags := 49
  interfaces := #[]
  cf := some (fileOf pool1 29 #[] #[{ accessFlags := 1, nameIndex := 5, descriptorIndex := 6, attributes := #[] }, { accessFlags := 9, nameIndex := 33, descriptorIndex := 34, attributes := #[] }] 49 2 #[] #[])
  fields := #[]
  methods := #[k1m0, k1m1]
  instanceTypes := #[]
  staticTypes := #[]
  resolved := Array.replicate 38 none
  statics := none }

def pool2 : Array CpInfo := pool [(1, .class_ 2), (0, u "java/lang/constant/Constable"), (0, .class_ 4), (0, u "java/lang/Object")] 6

/-- java/lang/constant/Constable -/
def k2 : Class := { plain "java/lang/constant/Constable" (some 0) with
  accessFlags := 1537
  interfaces := #[]
  cf := some (fileOf pool2 1 #[] #[] 1537 3 #[] #[])
  fields := #[]
  methods := #[]
  instanceTypes := #[]
  staticTypes := #[]
  resolved := Array.replicate 11 none
  statics := none }

def pool3 : Array CpInfo := pool [(1, .class_ 2), (0, u "java/lang/Comparable"), (0, .class_ 4), (0, u "java/lang/Object")] 7

/-- java/lang/Comparable -/
def k3 : Class := { plain "java/lang/Comparable" (some 0) with
  accessFlags := 1537
  interfaces := #[]
  cf := some (fileOf pool3 1 #[] #[] 1537 3 #[] #[])
  fields := #[]
  methods := #[]
  instanceTypes := #[]
  staticTypes := #[]
  resolved := Array.replicate 12 none
  statics := none }

def pool4 : Array CpInfo := pool [(1, .class_ 2), (0, u "java/io/Serializable"), (0, .class_ 4), (0, u "java/lang/Object")] 2

/-- java/io/Serializable -/
def k4 : Class := { plain "java/io/Serializable" (some 0) with
  accessFlags := 1537
  interfaces := #[]
  cf := some (fileOf pool4 1 #[] #[] 1537 3 #[] #[])
  fields := #[]
  methods := #[]
  instanceTypes := #[]
  staticTypes := #[]
  resolved := Array.replicate 7 none
  statics := none }

def pool5 : Array CpInfo := pool [(2, .class_ 4), (1, u "java/lang/Enum"), (0, u "name"), (0, u "Ljava/lang/String;"), (2, u "ordinal"), (0, u "I"), (1, .class_ 14), (1, u "java/lang/Object"), (4, u "hash"), (86, .class_ 108), (1, u "java/lang/Enum$EnumDesc"), (2, .class_ 112), (0, u "java/lang/constant/Constable"), (0, .class_ 114), (0, u "java/lang/Comparable"), (0, .class_ 116), (0, u "java/io/Serializable")] 87

/-- java/lang/Enum -/
def k5 : Class := { plain "java/lang/Enum" (some 0) with
  accessFlags := 1057
  interfaces := #[2, 3, 4]
  cf := some (fileOf pool5 2 #[.nestMembers #[106]] #[] 1057 12 #[111, 113, 115] #[{ accessFlags := 18, nameIndex := 5, descriptorIndex := 6, attributes := #[] }, { accessFlags := 18, nameIndex := 9, descriptorIndex := 10, attributes := #[] }, { accessFlags := 2, nameIndex := 19, descriptorIndex := 10, attributes := #[] }])
  fields := #[{ name := "name", type := (.object "java/lang/String"), accessFlags := 18, slot := 0, constantValue := 0 }, { name := "ordinal", type := .int, accessFlags := 18, slot := 1, constantValue := 0 }, { name := "hash", type := .int, accessFlags := 2, slot := 2, constantValue := 0 }]
  methods := #[]
  instanceTypes := #[(.object "java/lang/String"), .int, .int]
  staticTypes := #[]
  resolved := Array.replicate 204 none
  statics := none }

def pool6 : Array CpInfo := pool [(1, .class_ 2), (0, u "com/example/weft/weft/engine/Argon2Type"), (2, u "ARGON2D"), (0, u "Lcom/example/weft/weft/engine/Argon2Type;"), (2, u "ARGON2I"), (2, u "ARGON2ID"), (0, .fieldref 1 14), (0, .nameAndType 15 16), (0, u "$VALUES"), (0, u "[Lcom/example/weft/weft/engine/Argon2Type;"), (0, .methodref 18 19), (0, .class_ 16), (0, .nameAndType 20 21), (0, u "clone"), (0, u "()Ljava/lang/Object;"), (1, .class_ 25), (1, u "java/lang/Enum"), (6, .fieldref 1 33), (0, .nameAndType 34 35), (0, u "number"), (0, u "I"), (2, u "name"), (0, u "Ljava/lang/String;"), (0, .methodref 1 41), (0, .nameAndType 42 43), (0, u "values"), (0, u "()[Lcom/example/weft/weft/engine/Argon2Type;"), (30, u "fromNumber"), (0, u "(J)Lcom/example/weft/weft/engine/Argon2Type;"), (1, u "getNumber"), (0, u "()I")] 22

def k6c0 : Code := { maxStack := 1, maxLocals := 0, code := prog_24_method_1_code, exceptionTable := #[], attributes := #[] }
def k6m0 : Method := { name := "values", desc := "()[Lcom/example/weft/weft/engine/Argon2Type;", sig := { parameters := [], returnType := some (.array (.object "com/example/weft/weft/engine/Argon2Type")) }, accessFlags := 9, code := some k6c0 }
def k6c1 : Code := { maxStack := 4, maxLocals := 6, code := prog_24_method_4_code, exceptionTable := #[], attributes := #[] }
def k6m1 : Method := { name := "fromNumber", desc := "(J)Lcom/example/weft/weft/engine/Argon2Type;", sig := { parameters := [.long], returnType := some (.object "com/example/weft/weft/engine/Argon2Type") }, accessFlags := 9, code := some k6c1 }
def k6c2 : Code := { maxStack := 1, maxLocals := 1, code := prog_24_method_5_code, exceptionTable := #[], attributes := #[] }
def k6m2 : Method := { name := "getNumber", desc := "()I", sig := { parameters := [], returnType := some .int }, accessFlags := 1, code := some k6c2 }
/-- com/example/weft/weft/engine/Argon2Type -/
def k6 : Class := { plain "com/example/weft/weft/engine/Argon2Type" (some 5) with
  accessFlags := 16433
  interfaces := #[]
  cf := some (fileOf pool6 1 #[] #[{ accessFlags := 9, nameIndex := 42, descriptorIndex := 43, attributes := #[] }, { accessFlags := 9, nameIndex := 74, descriptorIndex := 75, attributes := #[] }, { accessFlags := 1, nameIndex := 77, descriptorIndex := 78, attributes := #[] }] 16433 23 #[] #[{ accessFlags := 16409, nameIndex := 5, descriptorIndex := 6, attributes := #[] }, { accessFlags := 16409, nameIndex := 9, descriptorIndex := 6, attributes := #[] }, { accessFlags := 16409, nameIndex := 12, descriptorIndex := 6, attributes := #[] }, { accessFlags := 18, nameIndex := 34, descriptorIndex := 35, attributes := #[] }, { accessFlags := 18, nameIndex := 38, descriptorIndex := 39, attributes := #[] }, { accessFlags := 4122, nameIndex := 15, descriptorIndex := 16, attributes := #[] }])
  fields := #[{ name := "ARGON2D", type := (.object "com/example/weft/weft/engine/Argon2Type"), accessFlags := 16409, slot := 0, constantValue := 0 }, { name := "ARGON2I", type := (.object "com/example/weft/weft/engine/Argon2Type"), accessFlags := 16409, slot := 1, constantValue := 0 }, { name := "ARGON2ID", type := (.object "com/example/weft/weft/engine/Argon2Type"), accessFlags := 16409, slot := 2, constantValue := 0 }, { name := "number", type := .int, accessFlags := 18, slot := 3, constantValue := 0 }, { name := "name", type := (.object "java/lang/String"), accessFlags := 18, slot := 4, constantValue := 0 }, { name := "$VALUES", type := (.array (.object "com/example/weft/weft/engine/Argon2Type")), accessFlags := 4122, slot := 3, constantValue := 0 }]
  methods := #[k6m0, k6m1, k6m2]
  instanceTypes := #[(.object "java/lang/String"), .int, .int, .int, (.object "java/lang/String")]
  staticTypes := #[(.object "com/example/weft/weft/engine/Argon2Type"), (.object "com/example/weft/weft/engine/Argon2Type"), (.object "com/example/weft/weft/engine/Argon2Type"), (.array (.object "com/example/weft/weft/engine/Argon2Type"))]
  resolved := Array.replicate 101 none
  statics := some 0 }

def pool7 : Array CpInfo := pool [(1, .class_ 2), (0, u "java/lang/Cloneable"), (0, .class_ 4), (0, u "java/lang/Object")] 2

/-- java/lang/Cloneable -/
def k7 : Class := { plain "java/lang/Cloneable" (some 0) with
  accessFlags := 1537
  interfaces := #[]
  cf := some (fileOf pool7 1 #[] #[] 1537 3 #[] #[])
  fields := #[]
  methods := #[]
  instanceTypes := #[]
  staticTypes := #[]
  resolved := Array.replicate 7 none
  statics := none }

/-- the primitive byte -/
def k8 : Class := { plain "byte" none with kind := .primitive 'B', accessFlags := 0x411 }
/-- [B -/
def k9 : Class := { plain "[B" (some 0) with kind := .array 8 .byte, interfaces := #[7, 4], accessFlags := 1041 }

/-- the primitive int -/
def k10 : Class := { plain "int" none with kind := .primitive 'I', accessFlags := 0x411 }
/-- [I -/
def k11 : Class := { plain "[I" (some 0) with kind := .array 10 .int, interfaces := #[7, 4], accessFlags := 1041 }

/-- [Lcom/example/weft/weft/engine/Argon2Type; -/
def k12 : Class := { plain "[Lcom/example/weft/weft/engine/Argon2Type;" (some 0) with kind := .array 6 (.object "com/example/weft/weft/engine/Argon2Type"), interfaces := #[7, 4], accessFlags := 1041 }

def heap : Heap := #[{ cls := 6, slots := #[.ref 2, .ref 3, .ref 4, .ref 1], vm := .statics 6 },
  { cls := 12, slots := #[.ref 2, .ref 3, .ref 4], vm := .none },
  { cls := 6, slots := #[.null, .int 0, .int 0, .int 0, .null], vm := .none },
  { cls := 6, slots := #[.null, .int 0, .int 0, .int 1, .null], vm := .none },
  { cls := 6, slots := #[.null, .int 0, .int 0, .int 2, .null], vm := .none }]
def classes : Array Class := #[k0, k1, k2, k3, k4, k5, k6, k7, k8, k9, k10, k11, k12]
def interned : List (Array UInt16 × Addr) := []
def slotsUsed : Nat := 22
def theMethod : MethodId := ⟨1, 1⟩
def args0 : Array Value := #[.long 5]
def aboutOver (below : List Frame) : State where
  vm := { classes := classes, interned := interned.toArray }
  heap := heap
  slotsUsed := slotsUsed
  threads := #[{ frames := .invoking theMethod args0 :: below }]
def below0 : List Frame := [.native { method := ⟨0, 0⟩, args := #[] }]
def about1 : State := aboutOver below0
def p0 : Program := .bare "" "" ""
def e0 : Env := launch0.env 0 0 0
theorem w_frames : about1.frames = Frame.invoking theMethod args0 :: below0 := rfl
set_option maxRecDepth 65536 in
theorem w_args : argsFit about1.vm theMethod args0 = true := by decide +kernel
set_option maxRecDepth 65536 in
theorem w_heap : heapFits about1 = true := by decide +kernel
set_option maxRecDepth 65536 in
theorem w_runnable : about1.curStatus? = some .runnable := by decide +kernel
set_option maxRecDepth 65536 in
theorem w_alone : about1.alone = true := by decide +kernel
set_option maxRecDepth 65536 in
theorem w_named : about1.methodNamed? x = some theMethod := by decide +kernel
set_option maxRecDepth 65536 in
theorem w_hears : about1.hears theMethod below0 = true := by decide +kernel
set_option maxRecDepth 65536 in
theorem w_ripe : about1.ripe theMethod args0 below0 = true := by decide +kernel
theorem w_running : about1.status = .running := rfl
set_option maxRecDepth 65536 in
theorem w_room : about1.hasRoom e0.platform room_1 = true :=
  launch0.hasRoom_least _ room_1 (by decide +kernel) (by decide +kernel) (by decide +kernel) (by decide +kernel) (by decide +kernel) (by decide +kernel)
theorem allAtoms_all (ts : List Jvm.Cond) (a : Array Jvm.Value) (st : Jvm.State) : (allAtoms ts).before a st = ts.all (fun c => c.before a st) := by
  induction ts with
  | nil => rfl
  | cons c t ih =>
    show (Jvm.Cond.and c (allAtoms t)).before a st = _
    rw [Jvm.Cond.before_and, ih, List.all_cons]
def words1 : List Jvm.Cond := Jvm.Cond.code x code maxLocals ret :: tables_1
/-- a 'code' word, met by the world's own term for the bytes: nothing is compared byte by byte -/
theorem code_word {y : MethodName} {bytes : ByteArray} {mx : Nat} {rt : Option FieldType} {a : Array Value} {s : State} {m : MethodId} {meth : Method} {c : Code} (h1 : s.methodNamed? y = some m) (h2 : s.vm.method? m = some meth) (h3 : meth.code = some c) (h4 : c.code = bytes)
    (h5 : (c.maxLocals == mx && c.exceptionTable.isEmpty && decide (c.maxStack ≤ mostOperands) && decide (meth.sig.returnType = rt) && !meth.locks && decide (parseMethodDescriptor y.desc = some meth.sig)) = true) : (Jvm.Cond.code y bytes mx rt).before a s = true := by
  simp only [Bool.and_eq_true, beq_iff_eq, Bool.not_eq_true', decide_eq_true_eq] at h5
  obtain ⟨⟨⟨⟨⟨g1, g2⟩, g3⟩, g4⟩, g5⟩, g6⟩ := h5
  simp [Cond.before, Cond.holds, Cond.value, h1, h2, h3, h4, g1, g2, g3, g4, g5, g6]
def isCode : Jvm.Cond → Bool
  | .code _ _ _ _ => true
  | _ => false
theorem all_split {L : List Jvm.Cond} {P : Jvm.Cond → Bool} (h1 : L.all (fun c => isCode c || P c) = true) (h2 : ∀ c ∈ L.filter isCode, P c = true) : L.all P = true := by
  refine List.all_eq_true.mpr fun c hc => ?_
  have h := List.all_eq_true.mp h1 c hc
  rcases Bool.eq_false_or_eq_true (isCode c) with hi | hi
  · exact h2 c (List.mem_filter.mpr ⟨hc, hi⟩)
  · simpa [hi] using h
set_option maxRecDepth 65536 in
theorem w_c0 : (Jvm.Cond.code x code maxLocals ret).before args0 about1 = true := code_word (m := ⟨1, 1⟩) (meth := k1m1) (c := k1c1) (by decide +kernel) rfl rfl rfl (by decide +kernel)
set_option maxRecDepth 65536 in
theorem w_c1 : (Jvm.Cond.code ({ cls := "com/example/weft/weft/engine/Argon2Type", name := "fromNumber", desc := "(J)Lcom/example/weft/weft/engine/Argon2Type;" } : Jvm.MethodName) prog_24_method_4_code (6 : Nat) (Option.some (Jvm.ClassFile.FieldType.object "com/example/weft/weft/engine/Argon2Type"))).before args0 about1 = true := code_word (m := ⟨6, 1⟩) (meth := k6m1) (c := k6c1) (by decide +kernel) rfl rfl rfl (by decide +kernel)
set_option maxRecDepth 65536 in
theorem w_c2 : (Jvm.Cond.code ({ cls := "com/example/weft/weft/engine/Argon2Type", name := "values", desc := "()[Lcom/example/weft/weft/engine/Argon2Type;" } : Jvm.MethodName) prog_24_method_1_code (0 : Nat) (Option.some (Jvm.ClassFile.FieldType.array (Jvm.ClassFile.FieldType.object "com/example/weft/weft/engine/Argon2Type")))).before args0 about1 = true := code_word (m := ⟨6, 0⟩) (meth := k6m0) (c := k6c0) (by decide +kernel) rfl rfl rfl (by decide +kernel)
set_option maxRecDepth 65536 in
theorem w_c3 : (Jvm.Cond.code ({ cls := "com/example/weft/weft/engine/Argon2Type", name := "getNumber", desc := "()I" } : Jvm.MethodName) prog_24_method_5_code (1 : Nat) (Option.some Jvm.ClassFile.FieldType.int)).before args0 about1 = true := code_word (m := ⟨6, 2⟩) (meth := k6m2) (c := k6c2) (by decide +kernel) rfl rfl rfl (by decide +kernel)
def codes1 : List Jvm.Cond := [Jvm.Cond.code x code maxLocals ret, Jvm.Cond.code ({ cls := "com/example/weft/weft/engine/Argon2Type", name := "fromNumber", desc := "(J)Lcom/example/weft/weft/engine/Argon2Type;" } : Jvm.MethodName) prog_24_method_4_code (6 : Nat) (Option.some (Jvm.ClassFile.FieldType.object "com/example/weft/weft/engine/Argon2Type")), Jvm.Cond.code ({ cls := "com/example/weft/weft/engine/Argon2Type", name := "values", desc := "()[Lcom/example/weft/weft/engine/Argon2Type;" } : Jvm.MethodName) prog_24_method_1_code (0 : Nat) (Option.some (Jvm.ClassFile.FieldType.array (Jvm.ClassFile.FieldType.object "com/example/weft/weft/engine/Argon2Type"))), Jvm.Cond.code ({ cls := "com/example/weft/weft/engine/Argon2Type", name := "getNumber", desc := "()I" } : Jvm.MethodName) prog_24_method_5_code (1 : Nat) (Option.some Jvm.ClassFile.FieldType.int)]
set_option maxRecDepth 65536 in
theorem codes_eq : words1.filter isCode = codes1 := rfl
theorem w_codes : ∀ c ∈ words1.filter isCode, c.before args0 about1 = true := by
  rw [codes_eq]
  intro c hc
  simp only [codes1, List.mem_cons, List.not_mem_nil, or_false] at hc
  rcases hc with rfl | rfl | rfl | rfl
  · exact w_c0
  · exact w_c1
  · exact w_c2
  · exact w_c3
set_option maxRecDepth 65536 in
theorem w_t1 : (words1.take 24).all (fun c => isCode c || c.before args0 about1) = true := by decide +kernel
set_option maxRecDepth 65536 in
theorem w_t2 : (words1.drop 24).all (fun c => isCode c || c.before args0 about1) = true := by decide +kernel
theorem w_tables : (allAtoms (Jvm.Cond.code x code maxLocals ret :: tables_1)).before args0 about1 = true := by
  rw [allAtoms_all]
  show words1.all (fun c => c.before args0 about1) = true
  refine all_split ?_ w_codes
  rw [← List.take_append_drop 24 words1, List.all_append, w_t1, w_t2]
  rfl
set_option maxRecDepth 65536 in
theorem w_case : (Jvm.Cond.and given_1 narrow_1).before args0 about1 = true := by decide +kernel
theorem w_applies : (headSpec (Jvm.Cond.code x code maxLocals ret :: tables_1) room_1).applies x e0.platform about1 = true :=
  (Spec.applies_iff w_frames).mpr ⟨w_running, w_runnable, w_alone, w_named, w_hears, w_ripe, w_room, w_tables⟩
theorem atStart : AtStart classFile x code maxLocals ret World_1 tables_1 room_1 Calls_1 rest_1 Pre_1 launch0 p0 e0 about1 theMethod args0 below0 :=
  ⟨lists_1, trivial, launch0.admits_env _ _ _, launch0.least_env, fairChoices_fair.cas, fairChoices_fair.clock, w_frames, w_args, w_heap, w_applies, trivial, trivial, w_case⟩
end start1
theorem witness_1 : WitnessClaimed_1 := ⟨start1.p0, start1.e0, start1.about1, start1.theMethod, start1.args0, start1.below0, start1.atStart⟩
end Jvm.Pilot.@@N@@
