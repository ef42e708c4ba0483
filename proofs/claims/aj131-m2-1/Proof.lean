import JvmDerived
import JvmDerived.Pilot.@@N@@Statement
import JvmDerived.Pilot.@@N@@Code
set_option linter.unusedVariables false
set_option linter.unusedSimpArgs false
namespace Jvm.Pilot.@@N@@
open Jvm Jvm.ClassFile Sem Op Lib Jvm.Free Jvm.Stand Jvm.LawKit Jvm.RoadKit Bundle Jvm.Pilot.@@N@@.Jvm.D
/-- from S the run goes on to an end that answers Q -/
def own_Go (p : Program) (e : Env) (below : List Frame) (s : State) (Q : Option Value → Heap → List Loc → Prop) (rm : Room) (S : State) : Prop :=
  ∃ t o, Steps p.tables e below S t ∧ t.status = .running ∧ Ended t below o ∧ ∃ v L, o = .returned v ∧ Q v t.heap L ∧ FrameEnd s o t L rm.cells rm.slots
section OwnKit
variable {p : Program} {l : Launch} {e : Env} {R rm : Room} {s S S' : State} {m : MethodId} {args : Array Value} {below : List Frame} {meth : Method} {c : Code} {T : State} {locs : List Loc} {cells slots : Nat} {Q : Option Value → Heap → List Loc → Prop}
theorem own_by (st : ∀ t, Steps p.tables e below S' t → Steps p.tables e below S t) (k : own_Go p e below s Q rm S') : own_Go p e below s Q rm S := by
  obtain ⟨t, o, h, r⟩ := k
  exact ⟨t, o, st _ h, r⟩
theorem own_via (st : Steps p.tables e below S S') (k : own_Go p e below s Q rm S') : own_Go p e below s Q rm S := own_by (fun _ h => st.trans h) k
theorem own_out {v : Option Value} {pc : Nat} {Ls : Array Slot} {st : List Value} (X : Stand p l e rm s m args below meth c T locs cells slots) (hlk : meth.locks = false) (hv : meth.sig.returnType = none → v = none) (hc : cells ≤ rm.cells) (hs : slots ≤ rm.slots)
    (step : ∀ fs, (∀ (f : JFrame) (acts : List Action), f.method = m → f.locked = none → f.entered = [] → (doReturn e (T.setTop f) acts v).1 = T.setFrames fs) → Steps p.tables e below (T.setTop (mkF m pc Ls st)) (T.setFrames fs)) (hQ : Q v T.heap locs) : own_Go p e below s Q rm (T.setTop (mkF m pc Ls st)) := by
  obtain ⟨fs, hr, hrun, hended, hW, hsame⟩ := X.leave (v := v) hv hlk
  exact ⟨_, _, step fs hr, hrun, hended, v, locs, rfl, hQ, ⟨_, rfl⟩, hW, hsame.mono hc hs⟩
theorem own_retV (X : Stand p l e rm s m args below meth c T locs cells slots) (hx : p.tables.exec = Jvm.exec) (hlk : meth.locks = false) {pc : Nat} {Ls : Array Slot} (hret : meth.sig.returnType = none) (hd : decode c.code pc = .ok (.return_, 1)) (hQ : Q none T.heap locs) (hc : cells ≤ rm.cells) (hs : slots ≤ rm.slots) :
    own_Go p e below s Q rm (T.setTop (mkF m pc Ls [])) := own_out X hlk (fun _ => rfl) hc hs (fun fs hr => X.returnOut hx hret hd hr) hQ
theorem own_retI (X : Stand p l e rm s m args below meth c T locs cells slots) (hx : p.tables.exec = Jvm.exec) (hlk : meth.locks = false) {pc : Nat} {Ls : Array Slot} {z : Int32} {t : FieldType} {rest : List Value} (hret : meth.sig.returnType = some t) (ht : t = .int ∨ t = .boolean ∨ t = .byte ∨ t = .char ∨ t = .short) (hn : narrow t (.int z) = .int z) (hd : decode c.code pc = .ok (.ireturn, 1)) (hQ : Q (some (.int z)) T.heap locs) (hc : cells ≤ rm.cells) (hs : slots ≤ rm.slots) :
    own_Go p e below s Q rm (T.setTop (mkF m pc Ls (.int z :: rest))) := own_out X hlk (fun h => by rw [hret] at h; cases h) hc hs (fun fs hr => retOut X hx hret hn (Or.inl ⟨rfl, ht, z, rfl⟩) hd hr) hQ
theorem own_retL (X : Stand p l e rm s m args below meth c T locs cells slots) (hx : p.tables.exec = Jvm.exec) (hlk : meth.locks = false) {pc : Nat} {Ls : Array Slot} {z : Int64} {rest : List Value} (hret : meth.sig.returnType = some .long) (hd : decode c.code pc = .ok (.lreturn, 1)) (hQ : Q (some (.long z)) T.heap locs) (hc : cells ≤ rm.cells) (hs : slots ≤ rm.slots) :
    own_Go p e below s Q rm (T.setTop (mkF m pc Ls (.long z :: rest))) := own_out X hlk (fun h => by rw [hret] at h; cases h) hc hs (fun fs hr => retOut X hx hret rfl (Or.inr (Or.inl ⟨rfl, rfl, z, rfl⟩)) hd hr) hQ
theorem own_retA (X : Stand p l e rm s m args below meth c T locs cells slots) (hx : p.tables.exec = Jvm.exec) (hlk : meth.locks = false) {pc : Nat} {Ls : Array Slot} {w : Value} {t : FieldType} {rest : List Value} (hret : meth.sig.returnType = some t) (ht : t.isReference = true) (hw : w.isRef = true) (hd : decode c.code pc = .ok (.areturn, 1)) (hQ : Q (some w) T.heap locs) (hc : cells ≤ rm.cells) (hs : slots ≤ rm.slots) :
    own_Go p e below s Q rm (T.setTop (mkF m pc Ls (w :: rest))) := by
  have hn : narrow t w = w := by cases w <;> first | (simp [Value.isRef] at hw; done) | (cases t <;> first | (simp [FieldType.isReference] at ht; done) | rfl)
  exact own_out X hlk (fun h => by rw [hret] at h; cases h) hc hs (fun fs hr => retOut X hx hret hn (Or.inr (Or.inr (Or.inr (Or.inr ⟨rfl, ht, hw⟩)))) hd hr) hQ
theorem own_enter {Z : State} {h0 : Heap} {y : MethodName} {bytes : ByteArray} {maxL : Nat} {ret : Option FieldType} {ws : List Jvm.Cond} {as : Array Value} (hp : plainFor y = true)
    (body : ∀ p e s m below meth c s₁, Stand p l e rm s m as below meth c s₁ [] 0 0 → p.tables.exec = Jvm.exec → Z.Warmed39 s.vm → c.code = bytes → c.maxLocals = maxL → s.vm.findClass y.cls = some m.cls → meth.name = y.name → meth.sig.returnType = ret → meth.locks = false → s₁.heap = h0 →
      own_Go p e below s Q rm (s₁.setTop (entryFrame m as maxL))) :
    MetFree l y (head1 (Jvm.Cond.code y bytes maxL ret :: ws) rm) (fun a U => a = as ∧ Z.Warmed39 U.vm ∧ U.heap = h0) (fun _ _ _ _ _ => True) (fun _ U o U' => ∃ v L, o = .returned v ∧ Q v U'.heap L ∧ FrameEnd U o U' L rm.cells rm.slots) := by
  refine MetFree.of_bodySF hp hisR ?_
  intro p e s m args below meth c s₁ Bd hml0 hP hK
  obtain ⟨rfl, hZ, hh⟩ := hP
  have X0 : Stand p l e rm s m args below meth c s₁ [] 0 0 := Stand.of_body Bd
  exact body p e s m below meth c s₁ X0 Bd.exec hZ Bd.bytes hml0 (findClass_of_methodNamed Bd.named) (name_of_methodNamed Bd.named Bd.method).1 Bd.returns (BodyLoose.notSynchronized Bd) (by rw [← hh, Bd.state]; rfl)
end OwnKit
theorem own_len31 {Z : State} {args : Array Value} {t : Term} {v : Value} {a : Addr} {cl : Cell} (h : (Term.length t).eval args Z none [] Z = some v) (ht : t.eval args Z none [] Z = some (.ref a)) (hc : Z.heap[a]? = some cl) : cl.slots.size < 2 ^ 31 := by
  simp only [Term.eval, ht, Option.bind_eq_bind, Option.bind_some] at h
  cases ha : Z.arrayAt? a with
  | none => simp [ha] at h
  | some c2 =>
    cases (State.arrayAt?_spec ha).1.symm.trans hc
    by_cases q : cl.slots.size < 2 ^ 31
    · exact q
    · simp [ha, q] at h
theorem own_eqr {Z : State} {args : Array Value} {X F : Term} {y : Value} (hy : y.isRef = true) (hF : F.eval args Z none [] Z = some y) (h : (Jvm.Cond.eq X F).value args Z none Z [] = some true) : X.eval args Z none [] Z = some y := by
  obtain ⟨x, y', e1, e2, k1, k2⟩ := cmp_v (Or.inl h)
  cases hF.symm.trans e2
  have hx : x.isRef = true := by
    rcases ref_cases hy with rfl | ⟨a, rfl⟩
    · exact k2.2
    · exact k2.2
  exact e1.trans (congrArg some (gotT (eq_R e1 hF hx hy) h))
theorem pl_0 : plainFor x = true := plainFor_of_name (by first | (simp [plainName, overriddenIn]; done) | decide +kernel)
theorem d1_0 : decode prog_66_method_5_code 0 = .ok (.aload_n 0, 1) := by decide +kernel
theorem d1_1 : decode prog_66_method_5_code 1 = .ok (.getstatic 3, 3) := by decide +kernel
theorem d1_4 : decode prog_66_method_5_code 4 = .ok (.if_acmp .ne 9, 3) := by decide +kernel
theorem d1_7 : decode prog_66_method_5_code 7 = .ok (.getstatic 7, 3) := by decide +kernel
theorem d1_10 : decode prog_66_method_5_code 10 = .ok (.goto 6, 3) := by decide +kernel
theorem d1_13 : decode prog_66_method_5_code 13 = .ok (.getstatic 3, 3) := by decide +kernel
theorem d1_16 : decode prog_66_method_5_code 16 = .ok (.areturn, 1) := by decide +kernel
theorem pl_1 : plainFor (⟨"com/example/covenant/covenant/policy/Effect", "other", "()Lcom/example/covenant/covenant/policy/Effect;"⟩ : MethodName) = true := plainFor_of_name (by first | (simp [plainName, overriddenIn]; done) | decide +kernel)
theorem d2_0 : decode prog_66_method_4_code 0 = .ok (.aload_n 0, 1) := by decide +kernel
theorem d2_1 : decode prog_66_method_4_code 1 = .ok (.getfield 29, 3) := by decide +kernel
theorem d2_4 : decode prog_66_method_4_code 4 = .ok (.areturn, 1) := by decide +kernel
theorem pl_2 : plainFor (⟨"com/example/covenant/covenant/policy/Effect", "decision", "()Lcom/example/covenant/covenant/Decision;"⟩ : MethodName) = true := plainFor_of_name (by first | (simp [plainName, overriddenIn]; done) | decide +kernel)
theorem pd_0 : parseMethodDescriptor "()Lcom/example/covenant/covenant/policy/Effect;" = some ⟨[], some (.object "com/example/covenant/covenant/policy/Effect")⟩ := by decide +kernel
theorem pd_1 : parseMethodDescriptor "()Lcom/example/covenant/covenant/Decision;" = some ⟨[], some (.object "com/example/covenant/covenant/Decision")⟩ := by decide +kernel
def Q_rm_other (Z : State) (a wP wD r : Addr) (h0 : Heap) (n0 : Nat) (v : Option Value) (h : Heap) (L : List Loc) : Prop := v = some (.ref r) ∧ Fr n0 L ∧ h = h0
set_option maxRecDepth 65536 in
set_option maxHeartbeats 40000000 in
theorem rm_other (l : Launch) (Z : State) (a0 : Array Value) (hw : ∀ d ∈ tables_1, d.before a0 Z = true) (ws : List Jvm.Cond) (a wP wD r : Addr) (h0 : Heap) (n0 : Nat) (S_P : Sta Z h0 "com/example/covenant/covenant/policy/Effect" "PERMIT" "Lcom/example/covenant/covenant/policy/Effect;" (.ref wP)) (S_D : Sta Z h0 "com/example/covenant/covenant/policy/Effect" "DENY" "Lcom/example/covenant/covenant/policy/Effect;" (.ref wD)) (hr : r = if a = wP then wD else wP) :
    MetFree l (⟨"com/example/covenant/covenant/policy/Effect", "other", "()Lcom/example/covenant/covenant/policy/Effect;"⟩ : MethodName) (head1 (Jvm.Cond.code (⟨"com/example/covenant/covenant/policy/Effect", "other", "()Lcom/example/covenant/covenant/policy/Effect;"⟩ : MethodName) prog_66_method_5_code 1 (some (.object "com/example/covenant/covenant/policy/Effect")) :: ws) ({ frames := 0, cells := 0, slots := 0, locals := 0 } : Room)) (fun ar U => ar = #[(.ref a)] ∧ Z.Warmed39 U.vm ∧ U.heap = h0) (fun _ _ _ _ _ => True) (fun _ U o U' => ∃ v L, o = .returned v ∧ Q_rm_other Z a wP wD r h0 n0 v U'.heap L ∧ FrameEnd U o U' L ({ frames := 0, cells := 0, slots := 0, locals := 0 } : Room).cells ({ frames := 0, cells := 0, slots := 0, locals := 0 } : Room).slots) := by
  refine own_enter (Q := (Q_rm_other Z a wP wD r h0 n0)) pl_1 ?_
  intro p e s m below meth c s₁ X0 hx hZ hby hml hown hnm hret hlk e0
  have N0 := Fr.nil n0
  refine own_by (fun tz kz => castTop (g' := (mkF m 0 #[.val (.ref a)] [])) (by first | rfl | (simp [entryFrame, mkF, argsToLocals, Value.category]; done)) kz) ?_
  show own_Go p e below s _ _ (s₁.setTop (mkF m 0 #[.val (.ref a)] []))
  refine own_by (fun tz kz => XS.aloadN X0.here hx rfl (hb hby d1_0) rfl rfl kz) ?_
  show own_Go p e below s _ _ (s₁.setTop (mkF m 1 #[.val (.ref a)] [(.ref a)]))
  obtain ⟨T1, X1, e1, st1⟩ := getS2 X0 hx hZ hown (host := "") (Or.inl (hw _ (List.mem_of_getElem? (i := 10) rfl))) Via.refl e0 S_P (g := (mkF m 1 #[.val (.ref a)] [(.ref a)])) rfl (hb hby d1_1)
  refine own_by st1 ?_
  show own_Go p e below s _ _ (T1.setTop (mkF m 4 #[.val (.ref a)] [(.ref wP), (.ref a)]))
  by_cases hc4_2 : a = wP
  · refine own_by (fun tz kz => Jvm.RoadKit.acmp (g := (mkF m 4 #[.val (.ref a)] [(.ref wP), (.ref a)])) X1 hx rfl rfl rfl (pc0 := 4) (pc' := 7) (same := true) rfl (hb hby d1_4) rfl (decide_eq_true (congrArg Value.ref hc4_2)) (by decide) (by decide) kz) ?_
    show own_Go p e below s _ _ (T1.setTop (mkF m 7 #[.val (.ref a)] []))
    obtain ⟨T3, X3, e3, st3⟩ := getS2 X1 hx hZ hown (host := "") (Or.inl (hw _ (List.mem_of_getElem? (i := 11) rfl))) Via.refl e1 S_D (g := (mkF m 7 #[.val (.ref a)] [])) rfl (hb hby d1_7)
    refine own_by st3 ?_
    show own_Go p e below s _ _ (T3.setTop (mkF m 10 #[.val (.ref a)] [(.ref wD)]))
    refine own_by (fun tz kz => XS.goto X3.here hx rfl (pc0 := 10) (pc' := 16) rfl (hb hby d1_10) (by decide) (by decide) kz) ?_
    show own_Go p e below s _ _ (T3.setTop (mkF m 16 #[.val (.ref a)] [(.ref wD)]))
    refine own_retA X3 hx hlk (t := (.object "com/example/covenant/covenant/policy/Effect")) hret rfl rfl (hb hby d1_16) ?_ (by decide) (by decide)
    exact ⟨by simp [hr, hc4_2], N0, e3⟩
  · refine own_by (fun tz kz => Jvm.RoadKit.acmp (g := (mkF m 4 #[.val (.ref a)] [(.ref wP), (.ref a)])) X1 hx rfl rfl rfl (pc0 := 4) (pc' := 13) (same := false) rfl (hb hby d1_4) rfl (decide_eq_false fun q => hc4_2 (Value.ref.inj q)) (by decide) (by decide) kz) ?_
    show own_Go p e below s _ _ (T1.setTop (mkF m 13 #[.val (.ref a)] []))
    obtain ⟨T4, X4, e4, st4⟩ := getS2 X1 hx hZ hown (host := "") (Or.inl (hw _ (List.mem_of_getElem? (i := 10) rfl))) Via.refl e1 S_P (g := (mkF m 13 #[.val (.ref a)] [])) rfl (hb hby d1_13)
    refine own_by st4 ?_
    show own_Go p e below s _ _ (T4.setTop (mkF m 16 #[.val (.ref a)] [(.ref wP)]))
    refine own_retA X4 hx hlk (t := (.object "com/example/covenant/covenant/policy/Effect")) hret rfl rfl (hb hby d1_16) ?_ (by decide) (by decide)
    exact ⟨by simp [hr, hc4_2], N0, e4⟩
def Q_rm_dec (Z : State) (a d : Addr) (h0 : Heap) (n0 : Nat) (v : Option Value) (h : Heap) (L : List Loc) : Prop := v = some (.ref d) ∧ Fr n0 L ∧ h = h0
set_option maxRecDepth 65536 in
set_option maxHeartbeats 40000000 in
theorem rm_dec (l : Launch) (Z : State) (a0 : Array Value) (hw : ∀ d ∈ tables_1, d.before a0 Z = true) (ws : List Jvm.Cond) (a d : Addr) (h0 : Heap) (n0 : Nat) (F : Fld Z h0 a "com/example/covenant/covenant/policy/Effect" "decision" "Lcom/example/covenant/covenant/Decision;" (.ref d)) :
    MetFree l (⟨"com/example/covenant/covenant/policy/Effect", "decision", "()Lcom/example/covenant/covenant/Decision;"⟩ : MethodName) (head1 (Jvm.Cond.code (⟨"com/example/covenant/covenant/policy/Effect", "decision", "()Lcom/example/covenant/covenant/Decision;"⟩ : MethodName) prog_66_method_4_code 1 (some (.object "com/example/covenant/covenant/Decision")) :: ws) ({ frames := 0, cells := 0, slots := 0, locals := 0 } : Room)) (fun ar U => ar = #[(.ref a)] ∧ Z.Warmed39 U.vm ∧ U.heap = h0) (fun _ _ _ _ _ => True) (fun _ U o U' => ∃ v L, o = .returned v ∧ Q_rm_dec Z a d h0 n0 v U'.heap L ∧ FrameEnd U o U' L ({ frames := 0, cells := 0, slots := 0, locals := 0 } : Room).cells ({ frames := 0, cells := 0, slots := 0, locals := 0 } : Room).slots) := by
  refine own_enter (Q := (Q_rm_dec Z a d h0 n0)) pl_2 ?_
  intro p e s m below meth c s₁ X0 hx hZ hby hml hown hnm hret hlk e0
  have N0 := Fr.nil n0
  refine own_by (fun tz kz => castTop (g' := (mkF m 0 #[.val (.ref a)] [])) (by first | rfl | (simp [entryFrame, mkF, argsToLocals, Value.category]; done)) kz) ?_
  show own_Go p e below s _ _ (s₁.setTop (mkF m 0 #[.val (.ref a)] []))
  refine own_by (fun tz kz => XS.aloadN X0.here hx rfl (hb hby d2_0) rfl rfl kz) ?_
  show own_Go p e below s _ _ (s₁.setTop (mkF m 1 #[.val (.ref a)] [(.ref a)]))
  obtain ⟨T1, X1, e1, st1⟩ := getF X0 hx hZ hown (host := "") (Or.inl (hw _ (List.mem_of_getElem? (i := 17) rfl))) Via.refl e0 F (g := (mkF m 1 #[.val (.ref a)] [(.ref a)])) rfl rfl (hb hby d2_1)
  refine own_by st1 ?_
  show own_Go p e below s _ _ (T1.setTop (mkF m 4 #[.val (.ref a)] [(.ref d)]))
  refine own_retA X1 hx hlk (t := (.object "com/example/covenant/covenant/Decision")) hret rfl rfl (hb hby d2_4) ?_ (by decide) (by decide)
  exact ⟨rfl, N0, e1⟩
def Q_rm0 (Z : State) (p0 : Int32) (wP wD dP dD : Addr) (h0 : Heap) (n0 : Nat) (v : Option Value) (h : Heap) (L : List Loc) : Prop := v = some (.int 1) ∧ Fr n0 L
set_option maxRecDepth 65536 in
set_option maxHeartbeats 40000000 in
theorem rm0 (l : Launch) (Z : State) (a0 : Array Value) (hw : ∀ d ∈ tables_1, d.before a0 Z = true) (ws : List Jvm.Cond) (p0 : Int32) (wP wD dP dD : Addr) (h0 : Heap) (n0 : Nat) (S_P : Sta Z h0 "com/example/covenant/covenant/policy/Effect" "PERMIT" "Lcom/example/covenant/covenant/policy/Effect;" (.ref wP)) (S_D : Sta Z h0 "com/example/covenant/covenant/policy/Effect" "DENY" "Lcom/example/covenant/covenant/policy/Effect;" (.ref wD)) (E_P : Exa Z h0 wP "com/example/covenant/covenant/policy/Effect") (E_D : Exa Z h0 wD "com/example/covenant/covenant/policy/Effect") (F_P : Fld Z h0 wP "com/example/covenant/covenant/policy/Effect" "decision" "Lcom/example/covenant/covenant/Decision;" (.ref dP)) (F_D : Fld Z h0 wD "com/example/covenant/covenant/policy/Effect" "decision" "Lcom/example/covenant/covenant/Decision;" (.ref dD)) (hne : wP ≠ wD) (hned : dP ≠ dD) :
    MetFree l x (head1 (Jvm.Cond.code x code maxLocals ret :: ws) room_1) (fun ar U => ar = #[(.int p0)] ∧ Z.Warmed39 U.vm ∧ U.heap = h0) (fun _ _ _ _ _ => True) (fun _ U o U' => ∃ v L, o = .returned v ∧ Q_rm0 Z p0 wP wD dP dD h0 n0 v U'.heap L ∧ FrameEnd U o U' L room_1.cells room_1.slots) := by
  refine own_enter (Q := (Q_rm0 Z p0 wP wD dP dD h0 n0)) pl_0 ?_
  intro p e s m below meth c s₁ X0 hx hZ hby hml hown hnm hret hlk e0
  have N0 := Fr.nil n0
  refine own_by (fun tz kz => castTop (g' := (mkF m 0 #[.val (.int p0), .unset, .unset, .unset, .unset] [])) (by first | rfl | (simp [entryFrame, mkF, argsToLocals, Value.category, maxLocals]; done)) kz) ?_
  show own_Go p e below s _ _ (s₁.setTop (mkF m 0 #[.val (.int p0), .unset, .unset, .unset, .unset] []))
  refine own_by (fun tz kz => XS.iloadN X0.here hx rfl (hb hby at_0) rfl  kz) ?_
  show own_Go p e below s _ _ (s₁.setTop (mkF m 1 #[.val (.int p0), .unset, .unset, .unset, .unset] [(.int p0)]))
  refine own_by (fun tz kz => XS.iconst X0.here hx rfl (hb hby at_1) kz) ?_
  show own_Go p e below s _ _ (s₁.setTop (mkF m 2 #[.val (.int p0), .unset, .unset, .unset, .unset] [(.int (1 : Int32)), (.int p0)]))
  refine own_by (fun tz kz => XS.iand X0.here hx rfl (hb hby at_2) rfl kz) ?_
  show own_Go p e below s _ _ (s₁.setTop (mkF m 3 #[.val (.int p0), .unset, .unset, .unset, .unset] [(.int (p0 &&& (1 : Int32)))]))
  by_cases hc3_1 : (p0 &&& (1 : Int32)) = (0 : Int32)
  · refine own_by (fun tz kz => XS.ifNo X0.here hx rfl (hb hby at_3) rfl ((if0 _ _).trans (teq hc3_1).2) kz) ?_
    show own_Go p e below s _ _ (s₁.setTop (mkF m 6 #[.val (.int p0), .unset, .unset, .unset, .unset] []))
    refine own_by (fun tz kz => XS.iconst X0.here hx rfl (hb hby at_6) kz) ?_
    show own_Go p e below s _ _ (s₁.setTop (mkF m 7 #[.val (.int p0), .unset, .unset, .unset, .unset] [(.int (1 : Int32))]))
    refine own_by (fun tz kz => XS.goto X0.here hx rfl (pc0 := 7) (pc' := 11) rfl (hb hby at_7) (by decide) (by decide) kz) ?_
    show own_Go p e below s _ _ (s₁.setTop (mkF m 11 #[.val (.int p0), .unset, .unset, .unset, .unset] [(.int (1 : Int32))]))
    refine own_by (fun tz kz => XS.istoreN X0.here hx rfl (hb hby at_11) rfl (l' := #[.val (.int p0), .val (.int (1 : Int32)), .unset, .unset, .unset]) rfl kz) ?_
    show own_Go p e below s _ _ (s₁.setTop (mkF m 12 #[.val (.int p0), .val (.int (1 : Int32)), .unset, .unset, .unset] []))
    refine own_by (fun tz kz => XS.iloadN X0.here hx rfl (hb hby at_12) rfl  kz) ?_
    show own_Go p e below s _ _ (s₁.setTop (mkF m 13 #[.val (.int p0), .val (.int (1 : Int32)), .unset, .unset, .unset] [(.int (1 : Int32))]))
    refine own_by (fun tz kz => XS.ifNo X0.here hx rfl (hb hby at_13) rfl ((if0 _ _).trans (feq (by decide : ¬ (1 : Int32) = (0 : Int32))).1) kz) ?_
    show own_Go p e below s _ _ (s₁.setTop (mkF m 16 #[.val (.int p0), .val (.int (1 : Int32)), .unset, .unset, .unset] []))
    obtain ⟨T2, X2, e2, st2⟩ := getS2 X0 hx hZ hown (host := "") (Or.inl (hw _ (List.mem_of_getElem? (i := 0) rfl))) Via.refl e0 S_P (g := (mkF m 16 #[.val (.int p0), .val (.int (1 : Int32)), .unset, .unset, .unset] [])) rfl (hb hby at_16)
    refine own_by st2 ?_
    show own_Go p e below s _ _ (T2.setTop (mkF m 19 #[.val (.int p0), .val (.int (1 : Int32)), .unset, .unset, .unset] [(.ref wP)]))
    refine own_by (fun tz kz => XS.goto X2.here hx rfl (pc0 := 19) (pc' := 25) rfl (hb hby at_19) (by decide) (by decide) kz) ?_
    show own_Go p e below s _ _ (T2.setTop (mkF m 25 #[.val (.int p0), .val (.int (1 : Int32)), .unset, .unset, .unset] [(.ref wP)]))
    refine own_by (fun tz kz => XS.astoreN X2.here hx rfl (hb hby at_25) rfl rfl (l' := #[.val (.int p0), .val (.int (1 : Int32)), .val (.ref wP), .unset, .unset]) rfl kz) ?_
    show own_Go p e below s _ _ (T2.setTop (mkF m 26 #[.val (.int p0), .val (.int (1 : Int32)), .val (.ref wP), .unset, .unset] []))
    refine own_by (fun tz kz => XS.iloadN X2.here hx rfl (hb hby at_26) rfl  kz) ?_
    show own_Go p e below s _ _ (T2.setTop (mkF m 27 #[.val (.int p0), .val (.int (1 : Int32)), .val (.ref wP), .unset, .unset] [(.int (1 : Int32))]))
    refine own_by (fun tz kz => XS.ifNo X2.here hx rfl (hb hby at_27) rfl ((if0 _ _).trans (feq (by decide : ¬ (1 : Int32) = (0 : Int32))).1) kz) ?_
    show own_Go p e below s _ _ (T2.setTop (mkF m 30 #[.val (.int p0), .val (.int (1 : Int32)), .val (.ref wP), .unset, .unset] []))
    obtain ⟨T3, X3, e3, st3⟩ := getS2 X2 hx hZ hown (host := "") (Or.inl (hw _ (List.mem_of_getElem? (i := 3) rfl))) Via.refl e2 S_D (g := (mkF m 30 #[.val (.int p0), .val (.int (1 : Int32)), .val (.ref wP), .unset, .unset] [])) rfl (hb hby at_30)
    refine own_by st3 ?_
    show own_Go p e below s _ _ (T3.setTop (mkF m 33 #[.val (.int p0), .val (.int (1 : Int32)), .val (.ref wP), .unset, .unset] [(.ref wD)]))
    refine own_by (fun tz kz => XS.goto X3.here hx rfl (pc0 := 33) (pc' := 39) rfl (hb hby at_33) (by decide) (by decide) kz) ?_
    show own_Go p e below s _ _ (T3.setTop (mkF m 39 #[.val (.int p0), .val (.int (1 : Int32)), .val (.ref wP), .unset, .unset] [(.ref wD)]))
    refine own_by (fun tz kz => XS.astoreN X3.here hx rfl (hb hby at_39) rfl rfl (l' := #[.val (.int p0), .val (.int (1 : Int32)), .val (.ref wP), .val (.ref wD), .unset]) rfl kz) ?_
    show own_Go p e below s _ _ (T3.setTop (mkF m 40 #[.val (.int p0), .val (.int (1 : Int32)), .val (.ref wP), .val (.ref wD), .unset] []))
    refine own_by (fun tz kz => XS.aloadN X3.here hx rfl (hb hby at_40) rfl rfl kz) ?_
    show own_Go p e below s _ _ (T3.setTop (mkF m 41 #[.val (.int p0), .val (.int (1 : Int32)), .val (.ref wP), .val (.ref wD), .unset] [(.ref wP)]))
    obtain ⟨cq4, kq4, q4a, q4b, q4c⟩ := isOf hZ e3 E_P
    obtain ⟨_, _, ⟨T4, L4, k4, n4⟩, -, X4, ⟨Lc4, hQ4, l4, y4, z4⟩, st4⟩ := X3.virtualBack hx (y := (⟨"com/example/covenant/covenant/policy/Effect", "other", "()Lcom/example/covenant/covenant/policy/Effect;"⟩ : MethodName)) (z := (⟨"com/example/covenant/covenant/policy/Effect", "other", "()Lcom/example/covenant/covenant/policy/Effect;"⟩ : MethodName)) hown (mvT hZ (hw _ (List.mem_of_getElem? (i := 5) rfl))) (mvT hZ (hw _ (List.mem_of_getElem? (i := 6) rfl))) (notFace_of_selects (args := #[]) (mvT hZ (hw _ (List.mem_of_getElem? (i := 8) rfl)))) (mvT hZ (hw _ (List.mem_of_getElem? (i := 8) rfl))) (mvT hZ (hw _ (List.mem_of_getElem? (i := 7) rfl))) (by decide) (backOf (W := 0) (rm_other l Z a0 hw [] wP wP wD wD h0 n0 S_P S_D (by simp [hne, hne.symm])) hZ (hw _ (List.mem_of_getElem? (i := 9) rfl)) (hw _ (List.mem_of_getElem? (i := 1) rfl)) (by decide) (by decide)) q4a q4c (g := (mkF m 41 #[.val (.int p0), .val (.int (1 : Int32)), .val (.ref wP), .val (.ref wD), .unset] [(.ref wP)])) rfl (by rw [hml]; rfl) (Steps.refl _) (argsL := []) (rest := []) (lenOf pd_0 rfl) rfl (by show 2 * 0 + _ ≤ _; exact Nat.le_of_eq rfl) (hb hby at_41) (fun _ _ => ⟨rfl, e3, (by decide : 0 + 0 ≤ _), (by decide : 0 + 0 ≤ _)⟩)
    dsimp only [Pt.U, Pt.locs, Pt.cells, Pt.slots] at X4 l4 y4 z4 st4 hQ4
    subst l4 y4 z4
    obtain ⟨rfl, Nq4, e4⟩ := hQ4
    have N4 := Fr.app N0 Nq4
    refine own_via st4 ?_
    show own_Go p e below s _ _ (T4.setTop (mkF m 44 #[.val (.int p0), .val (.int (1 : Int32)), .val (.ref wP), .val (.ref wD), .unset] [(.ref wD)]))
    refine own_by (fun tz kz => XS.astore X4.here hx rfl (hb hby at_44) rfl rfl (l' := #[.val (.int p0), .val (.int (1 : Int32)), .val (.ref wP), .val (.ref wD), .val (.ref wD)]) rfl kz) ?_
    show own_Go p e below s _ _ (T4.setTop (mkF m 46 #[.val (.int p0), .val (.int (1 : Int32)), .val (.ref wP), .val (.ref wD), .val (.ref wD)] []))
    refine own_by (fun tz kz => XS.aload X4.here hx rfl (hb hby at_46) rfl rfl kz) ?_
    show own_Go p e below s _ _ (T4.setTop (mkF m 48 #[.val (.int p0), .val (.int (1 : Int32)), .val (.ref wP), .val (.ref wD), .val (.ref wD)] [(.ref wD)]))
    refine own_by (fun tz kz => XS.aloadN X4.here hx rfl (hb hby at_48) rfl rfl kz) ?_
    show own_Go p e below s _ _ (T4.setTop (mkF m 49 #[.val (.int p0), .val (.int (1 : Int32)), .val (.ref wP), .val (.ref wD), .val (.ref wD)] [(.ref wD), (.ref wD)]))
    refine own_by (fun tz kz => Jvm.RoadKit.acmp (g := (mkF m 49 #[.val (.int p0), .val (.int (1 : Int32)), .val (.ref wP), .val (.ref wD), .val (.ref wD)] [(.ref wD), (.ref wD)])) X4 hx rfl rfl rfl (pc0 := 49) (pc' := 54) (same := true) rfl (hb hby at_49) rfl (decide_eq_true rfl) (by decide) (by decide) kz) ?_
    show own_Go p e below s _ _ (T4.setTop (mkF m 54 #[.val (.int p0), .val (.int (1 : Int32)), .val (.ref wP), .val (.ref wD), .val (.ref wD)] []))
    refine own_by (fun tz kz => XS.aload X4.here hx rfl (hb hby at_54) rfl rfl kz) ?_
    show own_Go p e below s _ _ (T4.setTop (mkF m 56 #[.val (.int p0), .val (.int (1 : Int32)), .val (.ref wP), .val (.ref wD), .val (.ref wD)] [(.ref wD)]))
    refine own_by (fun tz kz => XS.aloadN X4.here hx rfl (hb hby at_56) rfl rfl kz) ?_
    show own_Go p e below s _ _ (T4.setTop (mkF m 57 #[.val (.int p0), .val (.int (1 : Int32)), .val (.ref wP), .val (.ref wD), .val (.ref wD)] [(.ref wP), (.ref wD)]))
    refine own_by (fun tz kz => Jvm.RoadKit.acmp (g := (mkF m 57 #[.val (.int p0), .val (.int (1 : Int32)), .val (.ref wP), .val (.ref wD), .val (.ref wD)] [(.ref wP), (.ref wD)])) X4 hx rfl rfl rfl (pc0 := 57) (pc' := 62) (same := false) rfl (hb hby at_57) rfl (decide_eq_false fun q => hne.symm (Value.ref.inj q)) (by decide) (by decide) kz) ?_
    show own_Go p e below s _ _ (T4.setTop (mkF m 62 #[.val (.int p0), .val (.int (1 : Int32)), .val (.ref wP), .val (.ref wD), .val (.ref wD)] []))
    refine own_by (fun tz kz => XS.aload X4.here hx rfl (hb hby at_62) rfl rfl kz) ?_
    show own_Go p e below s _ _ (T4.setTop (mkF m 64 #[.val (.int p0), .val (.int (1 : Int32)), .val (.ref wP), .val (.ref wD), .val (.ref wD)] [(.ref wD)]))
    obtain ⟨cq5, kq5, q5a, q5b, q5c⟩ := isOf hZ e4 E_D
    obtain ⟨_, _, ⟨T5, L5, k5, n5⟩, -, X5, ⟨Lc5, hQ5, l5, y5, z5⟩, st5⟩ := X4.virtualBack hx (y := (⟨"com/example/covenant/covenant/policy/Effect", "other", "()Lcom/example/covenant/covenant/policy/Effect;"⟩ : MethodName)) (z := (⟨"com/example/covenant/covenant/policy/Effect", "other", "()Lcom/example/covenant/covenant/policy/Effect;"⟩ : MethodName)) hown (mvT hZ (hw _ (List.mem_of_getElem? (i := 5) rfl))) (mvT hZ (hw _ (List.mem_of_getElem? (i := 6) rfl))) (notFace_of_selects (args := #[]) (mvT hZ (hw _ (List.mem_of_getElem? (i := 8) rfl)))) (mvT hZ (hw _ (List.mem_of_getElem? (i := 8) rfl))) (mvT hZ (hw _ (List.mem_of_getElem? (i := 7) rfl))) (by decide) (backOf (W := 0) (rm_other l Z a0 hw [] wD wP wD wP h0 n0 S_P S_D (by simp [hne, hne.symm])) hZ (hw _ (List.mem_of_getElem? (i := 9) rfl)) (hw _ (List.mem_of_getElem? (i := 1) rfl)) (by decide) (by decide)) q5a q5c (g := (mkF m 64 #[.val (.int p0), .val (.int (1 : Int32)), .val (.ref wP), .val (.ref wD), .val (.ref wD)] [(.ref wD)])) rfl (by rw [hml]; rfl) (Steps.refl _) (argsL := []) (rest := []) (lenOf pd_0 rfl) rfl (by show 2 * 0 + _ ≤ _; exact Nat.le_of_eq rfl) (hb hby at_64) (fun _ _ => ⟨rfl, e4, (by decide : 0 + 0 ≤ _), (by decide : 0 + 0 ≤ _)⟩)
    dsimp only [Pt.U, Pt.locs, Pt.cells, Pt.slots] at X5 l5 y5 z5 st5 hQ5
    subst l5 y5 z5
    obtain ⟨rfl, Nq5, e5⟩ := hQ5
    have N5 := Fr.app N4 Nq5
    refine own_via st5 ?_
    show own_Go p e below s _ _ (T5.setTop (mkF m 67 #[.val (.int p0), .val (.int (1 : Int32)), .val (.ref wP), .val (.ref wD), .val (.ref wD)] [(.ref wP)]))
    refine own_by (fun tz kz => XS.aloadN X5.here hx rfl (hb hby at_67) rfl rfl kz) ?_
    show own_Go p e below s _ _ (T5.setTop (mkF m 68 #[.val (.int p0), .val (.int (1 : Int32)), .val (.ref wP), .val (.ref wD), .val (.ref wD)] [(.ref wP), (.ref wP)]))
    refine own_by (fun tz kz => Jvm.RoadKit.acmp (g := (mkF m 68 #[.val (.int p0), .val (.int (1 : Int32)), .val (.ref wP), .val (.ref wD), .val (.ref wD)] [(.ref wP), (.ref wP)])) X5 hx rfl rfl rfl (pc0 := 68) (pc' := 73) (same := true) rfl (hb hby at_68) rfl (decide_eq_true rfl) (by decide) (by decide) kz) ?_
    show own_Go p e below s _ _ (T5.setTop (mkF m 73 #[.val (.int p0), .val (.int (1 : Int32)), .val (.ref wP), .val (.ref wD), .val (.ref wD)] []))
    refine own_by (fun tz kz => XS.aload X5.here hx rfl (hb hby at_73) rfl rfl kz) ?_
    show own_Go p e below s _ _ (T5.setTop (mkF m 75 #[.val (.int p0), .val (.int (1 : Int32)), .val (.ref wP), .val (.ref wD), .val (.ref wD)] [(.ref wD)]))
    obtain ⟨cq6, kq6, q6a, q6b, q6c⟩ := isOf hZ e5 E_D
    obtain ⟨_, _, ⟨T6, L6, k6, n6⟩, -, X6, ⟨Lc6, hQ6, l6, y6, z6⟩, st6⟩ := X5.virtualBack hx (y := (⟨"com/example/covenant/covenant/policy/Effect", "decision", "()Lcom/example/covenant/covenant/Decision;"⟩ : MethodName)) (z := (⟨"com/example/covenant/covenant/policy/Effect", "decision", "()Lcom/example/covenant/covenant/Decision;"⟩ : MethodName)) hown (mvT hZ (hw _ (List.mem_of_getElem? (i := 12) rfl))) (mvT hZ (hw _ (List.mem_of_getElem? (i := 13) rfl))) (notFace_of_selects (args := #[]) (mvT hZ (hw _ (List.mem_of_getElem? (i := 15) rfl)))) (mvT hZ (hw _ (List.mem_of_getElem? (i := 15) rfl))) (mvT hZ (hw _ (List.mem_of_getElem? (i := 14) rfl))) (by decide) (backOf (W := 0) (rm_dec l Z a0 hw [] wD dD h0 n0 F_D) hZ (hw _ (List.mem_of_getElem? (i := 16) rfl)) (hw _ (List.mem_of_getElem? (i := 1) rfl)) (by decide) (by decide)) q6a q6c (g := (mkF m 75 #[.val (.int p0), .val (.int (1 : Int32)), .val (.ref wP), .val (.ref wD), .val (.ref wD)] [(.ref wD)])) rfl (by rw [hml]; rfl) (Steps.refl _) (argsL := []) (rest := []) (lenOf pd_1 rfl) rfl (by show 2 * 0 + _ ≤ _; exact Nat.le_of_eq rfl) (hb hby at_75) (fun _ _ => ⟨rfl, e5, (by decide : 0 + 0 ≤ _), (by decide : 0 + 0 ≤ _)⟩)
    dsimp only [Pt.U, Pt.locs, Pt.cells, Pt.slots] at X6 l6 y6 z6 st6 hQ6
    subst l6 y6 z6
    obtain ⟨rfl, Nq6, e6⟩ := hQ6
    have N6 := Fr.app N5 Nq6
    refine own_via st6 ?_
    show own_Go p e below s _ _ (T6.setTop (mkF m 78 #[.val (.int p0), .val (.int (1 : Int32)), .val (.ref wP), .val (.ref wD), .val (.ref wD)] [(.ref dD)]))
    refine own_by (fun tz kz => XS.aloadN X6.here hx rfl (hb hby at_78) rfl rfl kz) ?_
    show own_Go p e below s _ _ (T6.setTop (mkF m 79 #[.val (.int p0), .val (.int (1 : Int32)), .val (.ref wP), .val (.ref wD), .val (.ref wD)] [(.ref wP), (.ref dD)]))
    obtain ⟨cq7, kq7, q7a, q7b, q7c⟩ := isOf hZ e6 E_P
    obtain ⟨_, _, ⟨T7, L7, k7, n7⟩, -, X7, ⟨Lc7, hQ7, l7, y7, z7⟩, st7⟩ := X6.virtualBack hx (y := (⟨"com/example/covenant/covenant/policy/Effect", "decision", "()Lcom/example/covenant/covenant/Decision;"⟩ : MethodName)) (z := (⟨"com/example/covenant/covenant/policy/Effect", "decision", "()Lcom/example/covenant/covenant/Decision;"⟩ : MethodName)) hown (mvT hZ (hw _ (List.mem_of_getElem? (i := 12) rfl))) (mvT hZ (hw _ (List.mem_of_getElem? (i := 13) rfl))) (notFace_of_selects (args := #[]) (mvT hZ (hw _ (List.mem_of_getElem? (i := 15) rfl)))) (mvT hZ (hw _ (List.mem_of_getElem? (i := 15) rfl))) (mvT hZ (hw _ (List.mem_of_getElem? (i := 14) rfl))) (by decide) (backOf (W := 1) (rm_dec l Z a0 hw [] wP dP h0 n0 F_P) hZ (hw _ (List.mem_of_getElem? (i := 16) rfl)) (hw _ (List.mem_of_getElem? (i := 1) rfl)) (by decide) (by decide)) q7a q7c (g := (mkF m 79 #[.val (.int p0), .val (.int (1 : Int32)), .val (.ref wP), .val (.ref wD), .val (.ref wD)] [(.ref wP), (.ref dD)])) rfl (by rw [hml]; rfl) (Steps.refl _) (argsL := []) (rest := [(.ref dD)]) (lenOf pd_1 rfl) rfl (by show 2 * 0 + _ ≤ _; exact Nat.le_of_eq rfl) (hb hby at_79) (fun _ _ => ⟨rfl, e6, (by decide : 0 + 0 ≤ _), (by decide : 0 + 0 ≤ _)⟩)
    dsimp only [Pt.U, Pt.locs, Pt.cells, Pt.slots] at X7 l7 y7 z7 st7 hQ7
    subst l7 y7 z7
    obtain ⟨rfl, Nq7, e7⟩ := hQ7
    have N7 := Fr.app N6 Nq7
    refine own_via st7 ?_
    show own_Go p e below s _ _ (T7.setTop (mkF m 82 #[.val (.int p0), .val (.int (1 : Int32)), .val (.ref wP), .val (.ref wD), .val (.ref wD)] [(.ref dP), (.ref dD)]))
    refine own_by (fun tz kz => Jvm.RoadKit.acmp (g := (mkF m 82 #[.val (.int p0), .val (.int (1 : Int32)), .val (.ref wP), .val (.ref wD), .val (.ref wD)] [(.ref dP), (.ref dD)])) X7 hx rfl rfl rfl (pc0 := 82) (pc' := 85) (same := false) rfl (hb hby at_82) rfl (decide_eq_false fun q => hned.symm (Value.ref.inj q)) (by decide) (by decide) kz) ?_
    show own_Go p e below s _ _ (T7.setTop (mkF m 85 #[.val (.int p0), .val (.int (1 : Int32)), .val (.ref wP), .val (.ref wD), .val (.ref wD)] []))
    refine own_by (fun tz kz => XS.iconst X7.here hx rfl (hb hby at_85) kz) ?_
    show own_Go p e below s _ _ (T7.setTop (mkF m 86 #[.val (.int p0), .val (.int (1 : Int32)), .val (.ref wP), .val (.ref wD), .val (.ref wD)] [(.int (1 : Int32))]))
    refine own_by (fun tz kz => XS.goto X7.here hx rfl (pc0 := 86) (pc' := 90) rfl (hb hby at_86) (by decide) (by decide) kz) ?_
    show own_Go p e below s _ _ (T7.setTop (mkF m 90 #[.val (.int p0), .val (.int (1 : Int32)), .val (.ref wP), .val (.ref wD), .val (.ref wD)] [(.int (1 : Int32))]))
    refine own_retI X7 hx hlk (t := .boolean) hret (by simp) rfl (hb hby at_90) ?_ (by decide) (by decide)
    exact ⟨rfl, N7⟩
  · refine own_by (fun tz kz => XS.ifYes X0.here hx rfl (pc0 := 3) (pc' := 10) rfl (hb hby at_3) rfl ((if0 _ _).trans (feq hc3_1).2) (by decide) (by decide) kz) ?_
    show own_Go p e below s _ _ (s₁.setTop (mkF m 10 #[.val (.int p0), .unset, .unset, .unset, .unset] []))
    refine own_by (fun tz kz => XS.iconst X0.here hx rfl (hb hby at_10) kz) ?_
    show own_Go p e below s _ _ (s₁.setTop (mkF m 11 #[.val (.int p0), .unset, .unset, .unset, .unset] [(.int (0 : Int32))]))
    refine own_by (fun tz kz => XS.istoreN X0.here hx rfl (hb hby at_11) rfl (l' := #[.val (.int p0), .val (.int (0 : Int32)), .unset, .unset, .unset]) rfl kz) ?_
    show own_Go p e below s _ _ (s₁.setTop (mkF m 12 #[.val (.int p0), .val (.int (0 : Int32)), .unset, .unset, .unset] []))
    refine own_by (fun tz kz => XS.iloadN X0.here hx rfl (hb hby at_12) rfl  kz) ?_
    show own_Go p e below s _ _ (s₁.setTop (mkF m 13 #[.val (.int p0), .val (.int (0 : Int32)), .unset, .unset, .unset] [(.int (0 : Int32))]))
    refine own_by (fun tz kz => XS.ifYes X0.here hx rfl (pc0 := 13) (pc' := 22) rfl (hb hby at_13) rfl ((if0 _ _).trans (teq (by decide : (0 : Int32) = (0 : Int32))).1) (by decide) (by decide) kz) ?_
    show own_Go p e below s _ _ (s₁.setTop (mkF m 22 #[.val (.int p0), .val (.int (0 : Int32)), .unset, .unset, .unset] []))
    obtain ⟨T8, X8, e8, st8⟩ := getS2 X0 hx hZ hown (host := "") (Or.inl (hw _ (List.mem_of_getElem? (i := 3) rfl))) Via.refl e0 S_D (g := (mkF m 22 #[.val (.int p0), .val (.int (0 : Int32)), .unset, .unset, .unset] [])) rfl (hb hby at_22)
    refine own_by st8 ?_
    show own_Go p e below s _ _ (T8.setTop (mkF m 25 #[.val (.int p0), .val (.int (0 : Int32)), .unset, .unset, .unset] [(.ref wD)]))
    refine own_by (fun tz kz => XS.astoreN X8.here hx rfl (hb hby at_25) rfl rfl (l' := #[.val (.int p0), .val (.int (0 : Int32)), .val (.ref wD), .unset, .unset]) rfl kz) ?_
    show own_Go p e below s _ _ (T8.setTop (mkF m 26 #[.val (.int p0), .val (.int (0 : Int32)), .val (.ref wD), .unset, .unset] []))
    refine own_by (fun tz kz => XS.iloadN X8.here hx rfl (hb hby at_26) rfl  kz) ?_
    show own_Go p e below s _ _ (T8.setTop (mkF m 27 #[.val (.int p0), .val (.int (0 : Int32)), .val (.ref wD), .unset, .unset] [(.int (0 : Int32))]))
    refine own_by (fun tz kz => XS.ifYes X8.here hx rfl (pc0 := 27) (pc' := 36) rfl (hb hby at_27) rfl ((if0 _ _).trans (teq (by decide : (0 : Int32) = (0 : Int32))).1) (by decide) (by decide) kz) ?_
    show own_Go p e below s _ _ (T8.setTop (mkF m 36 #[.val (.int p0), .val (.int (0 : Int32)), .val (.ref wD), .unset, .unset] []))
    obtain ⟨T9, X9, e9, st9⟩ := getS2 X8 hx hZ hown (host := "") (Or.inl (hw _ (List.mem_of_getElem? (i := 0) rfl))) Via.refl e8 S_P (g := (mkF m 36 #[.val (.int p0), .val (.int (0 : Int32)), .val (.ref wD), .unset, .unset] [])) rfl (hb hby at_36)
    refine own_by st9 ?_
    show own_Go p e below s _ _ (T9.setTop (mkF m 39 #[.val (.int p0), .val (.int (0 : Int32)), .val (.ref wD), .unset, .unset] [(.ref wP)]))
    refine own_by (fun tz kz => XS.astoreN X9.here hx rfl (hb hby at_39) rfl rfl (l' := #[.val (.int p0), .val (.int (0 : Int32)), .val (.ref wD), .val (.ref wP), .unset]) rfl kz) ?_
    show own_Go p e below s _ _ (T9.setTop (mkF m 40 #[.val (.int p0), .val (.int (0 : Int32)), .val (.ref wD), .val (.ref wP), .unset] []))
    refine own_by (fun tz kz => XS.aloadN X9.here hx rfl (hb hby at_40) rfl rfl kz) ?_
    show own_Go p e below s _ _ (T9.setTop (mkF m 41 #[.val (.int p0), .val (.int (0 : Int32)), .val (.ref wD), .val (.ref wP), .unset] [(.ref wD)]))
    obtain ⟨cq10, kq10, q10a, q10b, q10c⟩ := isOf hZ e9 E_D
    obtain ⟨_, _, ⟨T10, L10, k10, n10⟩, -, X10, ⟨Lc10, hQ10, l10, y10, z10⟩, st10⟩ := X9.virtualBack hx (y := (⟨"com/example/covenant/covenant/policy/Effect", "other", "()Lcom/example/covenant/covenant/policy/Effect;"⟩ : MethodName)) (z := (⟨"com/example/covenant/covenant/policy/Effect", "other", "()Lcom/example/covenant/covenant/policy/Effect;"⟩ : MethodName)) hown (mvT hZ (hw _ (List.mem_of_getElem? (i := 5) rfl))) (mvT hZ (hw _ (List.mem_of_getElem? (i := 6) rfl))) (notFace_of_selects (args := #[]) (mvT hZ (hw _ (List.mem_of_getElem? (i := 8) rfl)))) (mvT hZ (hw _ (List.mem_of_getElem? (i := 8) rfl))) (mvT hZ (hw _ (List.mem_of_getElem? (i := 7) rfl))) (by decide) (backOf (W := 0) (rm_other l Z a0 hw [] wD wP wD wP h0 n0 S_P S_D (by simp [hne, hne.symm])) hZ (hw _ (List.mem_of_getElem? (i := 9) rfl)) (hw _ (List.mem_of_getElem? (i := 1) rfl)) (by decide) (by decide)) q10a q10c (g := (mkF m 41 #[.val (.int p0), .val (.int (0 : Int32)), .val (.ref wD), .val (.ref wP), .unset] [(.ref wD)])) rfl (by rw [hml]; rfl) (Steps.refl _) (argsL := []) (rest := []) (lenOf pd_0 rfl) rfl (by show 2 * 0 + _ ≤ _; exact Nat.le_of_eq rfl) (hb hby at_41) (fun _ _ => ⟨rfl, e9, (by decide : 0 + 0 ≤ _), (by decide : 0 + 0 ≤ _)⟩)
    dsimp only [Pt.U, Pt.locs, Pt.cells, Pt.slots] at X10 l10 y10 z10 st10 hQ10
    subst l10 y10 z10
    obtain ⟨rfl, Nq10, e10⟩ := hQ10
    have N10 := Fr.app N0 Nq10
    refine own_via st10 ?_
    show own_Go p e below s _ _ (T10.setTop (mkF m 44 #[.val (.int p0), .val (.int (0 : Int32)), .val (.ref wD), .val (.ref wP), .unset] [(.ref wP)]))
    refine own_by (fun tz kz => XS.astore X10.here hx rfl (hb hby at_44) rfl rfl (l' := #[.val (.int p0), .val (.int (0 : Int32)), .val (.ref wD), .val (.ref wP), .val (.ref wP)]) rfl kz) ?_
    show own_Go p e below s _ _ (T10.setTop (mkF m 46 #[.val (.int p0), .val (.int (0 : Int32)), .val (.ref wD), .val (.ref wP), .val (.ref wP)] []))
    refine own_by (fun tz kz => XS.aload X10.here hx rfl (hb hby at_46) rfl rfl kz) ?_
    show own_Go p e below s _ _ (T10.setTop (mkF m 48 #[.val (.int p0), .val (.int (0 : Int32)), .val (.ref wD), .val (.ref wP), .val (.ref wP)] [(.ref wP)]))
    refine own_by (fun tz kz => XS.aloadN X10.here hx rfl (hb hby at_48) rfl rfl kz) ?_
    show own_Go p e below s _ _ (T10.setTop (mkF m 49 #[.val (.int p0), .val (.int (0 : Int32)), .val (.ref wD), .val (.ref wP), .val (.ref wP)] [(.ref wP), (.ref wP)]))
    refine own_by (fun tz kz => Jvm.RoadKit.acmp (g := (mkF m 49 #[.val (.int p0), .val (.int (0 : Int32)), .val (.ref wD), .val (.ref wP), .val (.ref wP)] [(.ref wP), (.ref wP)])) X10 hx rfl rfl rfl (pc0 := 49) (pc' := 54) (same := true) rfl (hb hby at_49) rfl (decide_eq_true rfl) (by decide) (by decide) kz) ?_
    show own_Go p e below s _ _ (T10.setTop (mkF m 54 #[.val (.int p0), .val (.int (0 : Int32)), .val (.ref wD), .val (.ref wP), .val (.ref wP)] []))
    refine own_by (fun tz kz => XS.aload X10.here hx rfl (hb hby at_54) rfl rfl kz) ?_
    show own_Go p e below s _ _ (T10.setTop (mkF m 56 #[.val (.int p0), .val (.int (0 : Int32)), .val (.ref wD), .val (.ref wP), .val (.ref wP)] [(.ref wP)]))
    refine own_by (fun tz kz => XS.aloadN X10.here hx rfl (hb hby at_56) rfl rfl kz) ?_
    show own_Go p e below s _ _ (T10.setTop (mkF m 57 #[.val (.int p0), .val (.int (0 : Int32)), .val (.ref wD), .val (.ref wP), .val (.ref wP)] [(.ref wD), (.ref wP)]))
    refine own_by (fun tz kz => Jvm.RoadKit.acmp (g := (mkF m 57 #[.val (.int p0), .val (.int (0 : Int32)), .val (.ref wD), .val (.ref wP), .val (.ref wP)] [(.ref wD), (.ref wP)])) X10 hx rfl rfl rfl (pc0 := 57) (pc' := 62) (same := false) rfl (hb hby at_57) rfl (decide_eq_false fun q => hne (Value.ref.inj q)) (by decide) (by decide) kz) ?_
    show own_Go p e below s _ _ (T10.setTop (mkF m 62 #[.val (.int p0), .val (.int (0 : Int32)), .val (.ref wD), .val (.ref wP), .val (.ref wP)] []))
    refine own_by (fun tz kz => XS.aload X10.here hx rfl (hb hby at_62) rfl rfl kz) ?_
    show own_Go p e below s _ _ (T10.setTop (mkF m 64 #[.val (.int p0), .val (.int (0 : Int32)), .val (.ref wD), .val (.ref wP), .val (.ref wP)] [(.ref wP)]))
    obtain ⟨cq11, kq11, q11a, q11b, q11c⟩ := isOf hZ e10 E_P
    obtain ⟨_, _, ⟨T11, L11, k11, n11⟩, -, X11, ⟨Lc11, hQ11, l11, y11, z11⟩, st11⟩ := X10.virtualBack hx (y := (⟨"com/example/covenant/covenant/policy/Effect", "other", "()Lcom/example/covenant/covenant/policy/Effect;"⟩ : MethodName)) (z := (⟨"com/example/covenant/covenant/policy/Effect", "other", "()Lcom/example/covenant/covenant/policy/Effect;"⟩ : MethodName)) hown (mvT hZ (hw _ (List.mem_of_getElem? (i := 5) rfl))) (mvT hZ (hw _ (List.mem_of_getElem? (i := 6) rfl))) (notFace_of_selects (args := #[]) (mvT hZ (hw _ (List.mem_of_getElem? (i := 8) rfl)))) (mvT hZ (hw _ (List.mem_of_getElem? (i := 8) rfl))) (mvT hZ (hw _ (List.mem_of_getElem? (i := 7) rfl))) (by decide) (backOf (W := 0) (rm_other l Z a0 hw [] wP wP wD wD h0 n0 S_P S_D (by simp [hne, hne.symm])) hZ (hw _ (List.mem_of_getElem? (i := 9) rfl)) (hw _ (List.mem_of_getElem? (i := 1) rfl)) (by decide) (by decide)) q11a q11c (g := (mkF m 64 #[.val (.int p0), .val (.int (0 : Int32)), .val (.ref wD), .val (.ref wP), .val (.ref wP)] [(.ref wP)])) rfl (by rw [hml]; rfl) (Steps.refl _) (argsL := []) (rest := []) (lenOf pd_0 rfl) rfl (by show 2 * 0 + _ ≤ _; exact Nat.le_of_eq rfl) (hb hby at_64) (fun _ _ => ⟨rfl, e10, (by decide : 0 + 0 ≤ _), (by decide : 0 + 0 ≤ _)⟩)
    dsimp only [Pt.U, Pt.locs, Pt.cells, Pt.slots] at X11 l11 y11 z11 st11 hQ11
    subst l11 y11 z11
    obtain ⟨rfl, Nq11, e11⟩ := hQ11
    have N11 := Fr.app N10 Nq11
    refine own_via st11 ?_
    show own_Go p e below s _ _ (T11.setTop (mkF m 67 #[.val (.int p0), .val (.int (0 : Int32)), .val (.ref wD), .val (.ref wP), .val (.ref wP)] [(.ref wD)]))
    refine own_by (fun tz kz => XS.aloadN X11.here hx rfl (hb hby at_67) rfl rfl kz) ?_
    show own_Go p e below s _ _ (T11.setTop (mkF m 68 #[.val (.int p0), .val (.int (0 : Int32)), .val (.ref wD), .val (.ref wP), .val (.ref wP)] [(.ref wD), (.ref wD)]))
    refine own_by (fun tz kz => Jvm.RoadKit.acmp (g := (mkF m 68 #[.val (.int p0), .val (.int (0 : Int32)), .val (.ref wD), .val (.ref wP), .val (.ref wP)] [(.ref wD), (.ref wD)])) X11 hx rfl rfl rfl (pc0 := 68) (pc' := 73) (same := true) rfl (hb hby at_68) rfl (decide_eq_true rfl) (by decide) (by decide) kz) ?_
    show own_Go p e below s _ _ (T11.setTop (mkF m 73 #[.val (.int p0), .val (.int (0 : Int32)), .val (.ref wD), .val (.ref wP), .val (.ref wP)] []))
    refine own_by (fun tz kz => XS.aload X11.here hx rfl (hb hby at_73) rfl rfl kz) ?_
    show own_Go p e below s _ _ (T11.setTop (mkF m 75 #[.val (.int p0), .val (.int (0 : Int32)), .val (.ref wD), .val (.ref wP), .val (.ref wP)] [(.ref wP)]))
    obtain ⟨cq12, kq12, q12a, q12b, q12c⟩ := isOf hZ e11 E_P
    obtain ⟨_, _, ⟨T12, L12, k12, n12⟩, -, X12, ⟨Lc12, hQ12, l12, y12, z12⟩, st12⟩ := X11.virtualBack hx (y := (⟨"com/example/covenant/covenant/policy/Effect", "decision", "()Lcom/example/covenant/covenant/Decision;"⟩ : MethodName)) (z := (⟨"com/example/covenant/covenant/policy/Effect", "decision", "()Lcom/example/covenant/covenant/Decision;"⟩ : MethodName)) hown (mvT hZ (hw _ (List.mem_of_getElem? (i := 12) rfl))) (mvT hZ (hw _ (List.mem_of_getElem? (i := 13) rfl))) (notFace_of_selects (args := #[]) (mvT hZ (hw _ (List.mem_of_getElem? (i := 15) rfl)))) (mvT hZ (hw _ (List.mem_of_getElem? (i := 15) rfl))) (mvT hZ (hw _ (List.mem_of_getElem? (i := 14) rfl))) (by decide) (backOf (W := 0) (rm_dec l Z a0 hw [] wP dP h0 n0 F_P) hZ (hw _ (List.mem_of_getElem? (i := 16) rfl)) (hw _ (List.mem_of_getElem? (i := 1) rfl)) (by decide) (by decide)) q12a q12c (g := (mkF m 75 #[.val (.int p0), .val (.int (0 : Int32)), .val (.ref wD), .val (.ref wP), .val (.ref wP)] [(.ref wP)])) rfl (by rw [hml]; rfl) (Steps.refl _) (argsL := []) (rest := []) (lenOf pd_1 rfl) rfl (by show 2 * 0 + _ ≤ _; exact Nat.le_of_eq rfl) (hb hby at_75) (fun _ _ => ⟨rfl, e11, (by decide : 0 + 0 ≤ _), (by decide : 0 + 0 ≤ _)⟩)
    dsimp only [Pt.U, Pt.locs, Pt.cells, Pt.slots] at X12 l12 y12 z12 st12 hQ12
    subst l12 y12 z12
    obtain ⟨rfl, Nq12, e12⟩ := hQ12
    have N12 := Fr.app N11 Nq12
    refine own_via st12 ?_
    show own_Go p e below s _ _ (T12.setTop (mkF m 78 #[.val (.int p0), .val (.int (0 : Int32)), .val (.ref wD), .val (.ref wP), .val (.ref wP)] [(.ref dP)]))
    refine own_by (fun tz kz => XS.aloadN X12.here hx rfl (hb hby at_78) rfl rfl kz) ?_
    show own_Go p e below s _ _ (T12.setTop (mkF m 79 #[.val (.int p0), .val (.int (0 : Int32)), .val (.ref wD), .val (.ref wP), .val (.ref wP)] [(.ref wD), (.ref dP)]))
    obtain ⟨cq13, kq13, q13a, q13b, q13c⟩ := isOf hZ e12 E_D
    obtain ⟨_, _, ⟨T13, L13, k13, n13⟩, -, X13, ⟨Lc13, hQ13, l13, y13, z13⟩, st13⟩ := X12.virtualBack hx (y := (⟨"com/example/covenant/covenant/policy/Effect", "decision", "()Lcom/example/covenant/covenant/Decision;"⟩ : MethodName)) (z := (⟨"com/example/covenant/covenant/policy/Effect", "decision", "()Lcom/example/covenant/covenant/Decision;"⟩ : MethodName)) hown (mvT hZ (hw _ (List.mem_of_getElem? (i := 12) rfl))) (mvT hZ (hw _ (List.mem_of_getElem? (i := 13) rfl))) (notFace_of_selects (args := #[]) (mvT hZ (hw _ (List.mem_of_getElem? (i := 15) rfl)))) (mvT hZ (hw _ (List.mem_of_getElem? (i := 15) rfl))) (mvT hZ (hw _ (List.mem_of_getElem? (i := 14) rfl))) (by decide) (backOf (W := 1) (rm_dec l Z a0 hw [] wD dD h0 n0 F_D) hZ (hw _ (List.mem_of_getElem? (i := 16) rfl)) (hw _ (List.mem_of_getElem? (i := 1) rfl)) (by decide) (by decide)) q13a q13c (g := (mkF m 79 #[.val (.int p0), .val (.int (0 : Int32)), .val (.ref wD), .val (.ref wP), .val (.ref wP)] [(.ref wD), (.ref dP)])) rfl (by rw [hml]; rfl) (Steps.refl _) (argsL := []) (rest := [(.ref dP)]) (lenOf pd_1 rfl) rfl (by show 2 * 0 + _ ≤ _; exact Nat.le_of_eq rfl) (hb hby at_79) (fun _ _ => ⟨rfl, e12, (by decide : 0 + 0 ≤ _), (by decide : 0 + 0 ≤ _)⟩)
    dsimp only [Pt.U, Pt.locs, Pt.cells, Pt.slots] at X13 l13 y13 z13 st13 hQ13
    subst l13 y13 z13
    obtain ⟨rfl, Nq13, e13⟩ := hQ13
    have N13 := Fr.app N12 Nq13
    refine own_via st13 ?_
    show own_Go p e below s _ _ (T13.setTop (mkF m 82 #[.val (.int p0), .val (.int (0 : Int32)), .val (.ref wD), .val (.ref wP), .val (.ref wP)] [(.ref dD), (.ref dP)]))
    refine own_by (fun tz kz => Jvm.RoadKit.acmp (g := (mkF m 82 #[.val (.int p0), .val (.int (0 : Int32)), .val (.ref wD), .val (.ref wP), .val (.ref wP)] [(.ref dD), (.ref dP)])) X13 hx rfl rfl rfl (pc0 := 82) (pc' := 85) (same := false) rfl (hb hby at_82) rfl (decide_eq_false fun q => hned (Value.ref.inj q)) (by decide) (by decide) kz) ?_
    show own_Go p e below s _ _ (T13.setTop (mkF m 85 #[.val (.int p0), .val (.int (0 : Int32)), .val (.ref wD), .val (.ref wP), .val (.ref wP)] []))
    refine own_by (fun tz kz => XS.iconst X13.here hx rfl (hb hby at_85) kz) ?_
    show own_Go p e below s _ _ (T13.setTop (mkF m 86 #[.val (.int p0), .val (.int (0 : Int32)), .val (.ref wD), .val (.ref wP), .val (.ref wP)] [(.int (1 : Int32))]))
    refine own_by (fun tz kz => XS.goto X13.here hx rfl (pc0 := 86) (pc' := 90) rfl (hb hby at_86) (by decide) (by decide) kz) ?_
    show own_Go p e below s _ _ (T13.setTop (mkF m 90 #[.val (.int p0), .val (.int (0 : Int32)), .val (.ref wD), .val (.ref wP), .val (.ref wP)] [(.int (1 : Int32))]))
    refine own_retI X13 hx hlk (t := .boolean) hret (by simp) rfl (hb hby at_90) ?_ (by decide) (by decide)
    exact ⟨rfl, N13⟩
set_option maxRecDepth 65536 in
set_option maxHeartbeats 40000000 in
theorem comes_1 {Post : Tables → Env → Array Value → State → Outcome → State → Prop} (hpost : ∀ tb e args s v u, (limb_1_1.after args s (.returned v) u = true ∧ limb_1_2.after args s (.returned v) u = true ∧ True) → FrameEnd s (.returned v) u (Jvm.fieldLocs frame_1_writes args s ++ Jvm.arrayLocs frame_1_arrays args s ++ Jvm.staticLocs frame_1_statics s) 0 0 → Post tb e args s (.returned v) u) :
    ArmFor flags0 classFile x code maxLocals ret World_1 tables_1 room_1 Calls_1 rest_1 Pre_1 Post := by
  intro l hfl _ _ p e ha hc hk s m args below hf hA hF happ hP
  obtain ⟨hcalls, hrest, hpre⟩ := hP
  obtain ⟨-, -, -, hnamed, -, -, -, hat⟩ := (Spec.applies_iff hf).mp happ
  obtain ⟨hg, hn⟩ := and_e (Cond.before_iff.mp (show (Jvm.Cond.and given_1 narrow_1).before args s = true from hpre))
  obtain ⟨g1a, g1b⟩ := and_e hg
  obtain ⟨w0, rfl⟩ : ∃ w0 : Value, args = #[w0] := by
    have hs : args.size = 1 := by simpa [Cond.value, given_1] using g1a
    obtain ⟨L⟩ := args
    match L, hs with
    | [w0], _ => exact ⟨w0, rfl⟩
  have hw := fun d (hd : d ∈ tables_1) => atoms_spec (ws := Jvm.Cond.code x code maxLocals ret :: tables_1) hat d (List.mem_cons_of_mem _ hd)
  have hfit : Fit s := fun {y c} hc i hi => by
    obtain ⟨ha, rfl⟩ := Array.getElem?_eq_some_iff.mp hc
    have q := List.all_eq_true.mp ((Array.all_eq_true_iff_forall_mem.mp hF) _ (Array.getElem_mem ha)) i (List.mem_range.mpr hi)
    simpa [Array.getElem?_eq_getElem hi] using q
  obtain ⟨i0, ei0⟩ := is_v g1b
  obtain rfl : w0 = (.int i0) := Option.some.inj ei0
  obtain ⟨m2a, m2b⟩ := and_e hn
  obtain ⟨m3a, m3b⟩ := and_e m2b
  obtain ⟨m4a, m4b⟩ := and_e m3b
  obtain ⟨m5a, m5b⟩ := and_e m4b
  obtain ⟨m6a, m6b⟩ := and_e m5b
  obtain ⟨m7a, m7b⟩ := and_e m6b
  obtain ⟨m8a, m8b⟩ := and_e m7b
  obtain ⟨m9a, m9b⟩ := and_e m8b
  obtain ⟨m10a, m10b⟩ := and_e m9b
  obtain ⟨Effect_PERMIT, ev_Effect_PERMIT⟩ := exa_v m2a
  have E_Effect_PERMIT : Exa s s.heap Effect_PERMIT "com/example/covenant/covenant/policy/Effect" := Exa.start ev_Effect_PERMIT m2a
  have S_Effect_PERMIT : Sta s s.heap "com/example/covenant/covenant/policy/Effect" "PERMIT" "Lcom/example/covenant/covenant/policy/Effect;" (.ref Effect_PERMIT) := Sta.start ev_Effect_PERMIT (Or.inr ⟨(hw _ (List.mem_of_getElem? (i := 1) rfl)), (hw _ (List.mem_of_getElem? (i := 2) rfl))⟩)
  obtain ⟨Effect_DENY, ev_Effect_DENY⟩ := exa_v m3a
  have E_Effect_DENY : Exa s s.heap Effect_DENY "com/example/covenant/covenant/policy/Effect" := Exa.start ev_Effect_DENY m3a
  have S_Effect_DENY : Sta s s.heap "com/example/covenant/covenant/policy/Effect" "DENY" "Lcom/example/covenant/covenant/policy/Effect;" (.ref Effect_DENY) := Sta.start ev_Effect_DENY (Or.inr ⟨(hw _ (List.mem_of_getElem? (i := 1) rfl)), (hw _ (List.mem_of_getElem? (i := 4) rfl))⟩)
  obtain ⟨Decision_DENY, ev_Decision_DENY⟩ := exa_v m6a
  have E_Decision_DENY : Exa s s.heap Decision_DENY "com/example/covenant/covenant/Decision" := Exa.start ev_Decision_DENY m6a
  have S_Decision_DENY : Sta s s.heap "com/example/covenant/covenant/Decision" "DENY" "Lcom/example/covenant/covenant/Decision;" (.ref Decision_DENY) := Sta.start ev_Decision_DENY (Or.inr ⟨(hw _ (List.mem_of_getElem? (i := 19) rfl)), (hw _ (List.mem_of_getElem? (i := 20) rfl))⟩)
  obtain ⟨Decision_PERMIT, ev_Decision_PERMIT⟩ := exa_v m8a
  have E_Decision_PERMIT : Exa s s.heap Decision_PERMIT "com/example/covenant/covenant/Decision" := Exa.start ev_Decision_PERMIT m8a
  have S_Decision_PERMIT : Sta s s.heap "com/example/covenant/covenant/Decision" "PERMIT" "Lcom/example/covenant/covenant/Decision;" (.ref Decision_PERMIT) := Sta.start ev_Decision_PERMIT (Or.inr ⟨(hw _ (List.mem_of_getElem? (i := 19) rfl)), (hw _ (List.mem_of_getElem? (i := 21) rfl))⟩)
  have F_Effect_DENY_ordinal : Fld s s.heap Effect_DENY "java/lang/Enum" "ordinal" "I" (.int (1 : Int32)) := Fld.start ((fld_at ev_Effect_DENY).symm.trans (eqv_i (Term.int_eval (1)) m4a))
  have F_Effect_PERMIT_ordinal : Fld s s.heap Effect_PERMIT "java/lang/Enum" "ordinal" "I" (.int (0 : Int32)) := Fld.start ((fld_at ev_Effect_PERMIT).symm.trans (eqv_i (Term.int_eval (0)) m5a))
  have F_Effect_DENY_decision : Fld s s.heap Effect_DENY "com/example/covenant/covenant/policy/Effect" "decision" "Lcom/example/covenant/covenant/Decision;" (.ref Decision_DENY) := Fld.start ((fld_at ev_Effect_DENY).symm.trans (own_eqr rfl ev_Decision_DENY m7a))
  have F_Effect_PERMIT_decision : Fld s s.heap Effect_PERMIT "com/example/covenant/covenant/policy/Effect" "decision" "Lcom/example/covenant/covenant/Decision;" (.ref Decision_PERMIT) := Fld.start ((fld_at ev_Effect_PERMIT).symm.trans (own_eqr rfl ev_Decision_PERMIT m9a))
  have F_Decision_DENY_ordinal : Fld s s.heap Decision_DENY "java/lang/Enum" "ordinal" "I" (.int (1 : Int32)) := Fld.start ((fld_at ev_Decision_DENY).symm.trans (eqv_i (Term.int_eval (1)) m10a))
  have F_Decision_PERMIT_ordinal : Fld s s.heap Decision_PERMIT "java/lang/Enum" "ordinal" "I" (.int (0 : Int32)) := Fld.start ((fld_at ev_Decision_PERMIT).symm.trans (eqv_i (Term.int_eval (0)) m10b))
  obtain ⟨n, o, h1, h2, h3, _, L, rfl, ⟨rfl, N⟩, hq⟩ := rm0 l s _ hw tables_1 i0 Effect_PERMIT Effect_DENY Decision_PERMIT Decision_DENY s.heap s.heap.size S_Effect_PERMIT S_Effect_DENY E_Effect_PERMIT E_Effect_DENY F_Effect_PERMIT_decision F_Effect_DENY_decision (Fld.ne F_Effect_PERMIT_ordinal F_Effect_DENY_ordinal (by simp)) (Fld.ne F_Decision_PERMIT_ordinal F_Decision_DENY_ordinal (by simp)) p e ha hc hk s m _ below hf ((Spec.applies_iff_loose hf).mp happ).1 ⟨rfl, State.Warmed39.refl s, rfl⟩ trivial
  refine ⟨n, _, h1, h2, h3, hpost _ _ _ _ _ _ ⟨Cond.after_iff.mpr rfl, Cond.after_iff.mpr (eq_i res_at (Term.int_eval (1)) rfl), trivial⟩ ⟨hq.1, hq.2.1, (hq.2.2.sift fun y hy => Or.inr (N y hy)).mono (by decide) (by decide)⟩⟩
theorem main_1_1 : Claimed_1_1 := comes_1 fun _ _ _ _ _ _ h hF => ⟨h.1, hF⟩
theorem main_1_2 : Claimed_1_2 := comes_1 fun _ _ _ _ _ _ h hF => ⟨h.2.1, hF⟩
end Jvm.Pilot.@@N@@
namespace Jvm.Pilot.@@N@@
open Jvm Jvm.ClassFile Sem Op Lib Jvm.Free Jvm.Stand Jvm.Pilot.@@N@@.Jvm.D
/-! MADE BY PROGRAM (witnessworld.py) out of the Statement's table words and the real class files: 13 classes; the members and pool entries that the words name. The judged class is class 1, her method 1. -/
namespace start1
open Jvm.ClassFile
def u (s : String) : CpInfo := .utf8 (stringToUtf16 s)
/-- a pool by its gaps: so many unusable entries, then the entry; so many at the end -/
def gap : Nat → List CpInfo → List CpInfo
  | 0, r => r
  | n + 1, r => .unusable :: gap n r
def poolList (es : List (Nat × CpInfo)) (last : Nat) : List CpInfo := es.foldr (fun e r => gap e.1 (e.2 :: r)) (gap last [])
def pool (es : List (Nat × CpInfo)) (last : Nat) : Array CpInfo := ⟨poolList es last⟩
def fileOf (pool : Array CpInfo) (this : Nat) (attrs : Array Attribute := #[]) (ms : Array MethodInfo := #[]) (fl : Nat := 33) (sup : Nat := 0) (ifs : Array Nat := #[]) (fds : Array FieldInfo := #[]) : ClassFile where
  minorVersion := 0
  majorVersion := 65
  constantPool := pool
  accessFlags := fl
  thisClass := this
  superClass := sup
  interfaces := ifs
  fields := fds
  methods := ms
  attributes := attrs
def plain (name : String) (sup : Option ClassId) : Class where
  name := name
  kind := .ordinary
  loader := none
  accessFlags := 33
  super := sup
  interfaces := #[]
  cf := none
  fields := #[]
  methods := #[]
  instanceTypes := #[]
  staticTypes := #[]
  resolved := #[]
  callSites := []
  init := .initialized
  statics := none
  mirror := none

def pool0 : Array CpInfo := pool [(5, u "<init>"), (0, u "()V"), (1, .class_ 10), (1, u "java/lang/Object")] 113

def k0m0 : Method := { name := "<init>", desc := "()V", sig := { parameters := [], returnType := none }, accessFlags := 1, code := none }
/-- java/lang/Object -/
def k0 : Class := { plain "java/lang/Object" none with
  accessFlags := 33
  interfaces := #[]
  cf := some (fileOf pool0 8 #[] #[{ accessFlags := 1, nameIndex := 5, descriptorIndex := 6, attributes := #[] }] 33 0 #[] #[])
  fields := #[]
  methods := #[k0m0]
  instanceTypes := #[]
  staticTypes := #[]
  resolved := Array.replicate 124 none
  statics := none }

def pool1 : Array CpInfo := pool [(2, .class_ 4), (1, u "java/lang/Object"), (0, u "<init>"), (0, u "()V"), (0, .fieldref 8 9), (0, .class_ 10), (0, .nameAndType 11 12), (0, u "com/example/covenant/covenant/policy/Effect"), (0, u "PERMIT"), (0, u "Lcom/example/covenant/covenant/policy/Effect;"), (0, .fieldref 8 14), (0, .nameAndType 15 12), (0, u "DENY"), (0, .methodref 8 17), (0, .nameAndType 18 19), (0, u "other"), (0, u "()Lcom/example/covenant/covenant/policy/Effect;"), (0, .methodref 8 21), (0, .nameAndType 22 23), (0, u "decision"), (0, u "()Lcom/example/covenant/covenant/Decision;"), (0, .class_ 25), (0, u "com/example/covenant/covenant/policy/EffectOtherPinLaw"), (2, u "law"), (0, u "(I)Z")] 3

def k1m0 : Method := { name := "<init>", desc := "()V", sig := { parameters := [], returnType := none }, accessFlags := 1, code := none }
def k1c1 : Code := { maxStack := 2, maxLocals := 5, code := code, exceptionTable := #[], attributes := #[] }
def k1m1 : Method := { name := "law", desc := "(I)Z", sig := { parameters := [.int], returnType := some .boolean }, accessFlags := 9, code := some k1c1 }
/-- com/example/covenant/covenant/policy/EffectOtherPinLaw -/
def k1 : Class := { plain "com/example/covenant/covenant/policy/EffectOtherPinLaw" (some 0) with
  accessFlags := 49
  interfaces := #[]
  cf := some (fileOf pool1 24 #[] #[{ accessFlags := 1, nameIndex := 5, descriptorIndex := 6, attributes := #[] }, { accessFlags := 9, nameIndex := 28, descriptorIndex := 29, attributes := #[] }] 49 2 #[] #[])
  fields := #[]
  methods := #[k1m0, k1m1]
  instanceTypes := #[]
  staticTypes := #[]
  resolved := Array.replicate 33 none
  statics := none }

def pool2 : Array CpInfo := pool [(1, .class_ 2), (0, u "java/lang/constant/Constable"), (0, .class_ 4), (0, u "java/lang/Object")] 6

/-- java/lang/constant/Constable -/
def k2 : Class := { plain "java/lang/constant/Constable" (some 0) with
  accessFlags := 1537
  interfaces := #[]
  cf := some (fileOf pool2 1 #[] #[] 1537 3 #[] #[])
  fields := #[]
  methods := #[]
  instanceTypes := #[]
  staticTypes := #[]
  resolved := Array.replicate 11 none
  statics := none }

def pool3 : Array CpInfo := pool [(1, .class_ 2), (0, u "java/lang/Comparable"), (0, .class_ 4), (0, u "java/lang/Object")] 7

/-- java/lang/Comparable -/
def k3 : Class := { plain "java/lang/Comparable" (some 0) with
  accessFlags := 1537
  interfaces := #[]
  cf := some (fileOf pool3 1 #[] #[] 1537 3 #[] #[])
  fields := #[]
  methods := #[]
  instanceTypes := #[]
  staticTypes := #[]
  resolved := Array.replicate 12 none
  statics := none }

def pool4 : Array CpInfo := pool [(1, .class_ 2), (0, u "java/io/Serializable"), (0, .class_ 4), (0, u "java/lang/Object")] 2

/-- java/io/Serializable -/
def k4 : Class := { plain "java/io/Serializable" (some 0) with
  accessFlags := 1537
  interfaces := #[]
  cf := some (fileOf pool4 1 #[] #[] 1537 3 #[] #[])
  fields := #[]
  methods := #[]
  instanceTypes := #[]
  staticTypes := #[]
  resolved := Array.replicate 7 none
  statics := none }

def pool5 : Array CpInfo := pool [(2, .class_ 4), (1, u "java/lang/Enum"), (0, u "name"), (0, u "Ljava/lang/String;"), (2, u "ordinal"), (0, u "I"), (1, .class_ 14), (1, u "java/lang/Object"), (4, u "hash"), (86, .class_ 108), (1, u "java/lang/Enum$EnumDesc"), (2, .class_ 112), (0, u "java/lang/constant/Constable"), (0, .class_ 114), (0, u "java/lang/Comparable"), (0, .class_ 116), (0, u "java/io/Serializable")] 87

/-- java/lang/Enum -/
def k5 : Class := { plain "java/lang/Enum" (some 0) with
  accessFlags := 1057
  interfaces := #[2, 3, 4]
  cf := some (fileOf pool5 2 #[.nestMembers #[106]] #[] 1057 12 #[111, 113, 115] #[{ accessFlags := 18, nameIndex := 5, descriptorIndex := 6, attributes := #[] }, { accessFlags := 18, nameIndex := 9, descriptorIndex := 10, attributes := #[] }, { accessFlags := 2, nameIndex := 19, descriptorIndex := 10, attributes := #[] }])
  fields := #[{ name := "name", type := (.object "java/lang/String"), accessFlags := 18, slot := 0, constantValue := 0 }, { name := "ordinal", type := .int, accessFlags := 18, slot := 1, constantValue := 0 }, { name := "hash", type := .int, accessFlags := 2, slot := 2, constantValue := 0 }]
  methods := #[]
  instanceTypes := #[(.object "java/lang/String"), .int, .int]
  staticTypes := #[]
  resolved := Array.replicate 204 none
  statics := none }

def pool6 : Array CpInfo := pool [(1, .class_ 2), (0, u "com/example/covenant/covenant/policy/Effect"), (0, .fieldref 1 4), (0, .nameAndType 5 6), (0, u "PERMIT"), (0, u "Lcom/example/covenant/covenant/policy/Effect;"), (0, .fieldref 1 8), (0, .nameAndType 9 6), (0, u "DENY"), (2, u "$VALUES"), (0, u "[Lcom/example/covenant/covenant/policy/Effect;"), (6, .class_ 22), (1, u "java/lang/Enum"), (6, .fieldref 1 30), (0, .nameAndType 31 32), (0, u "decision"), (0, u "Lcom/example/covenant/covenant/Decision;"), (22, u "()Lcom/example/covenant/covenant/Decision;"), (0, u "other"), (0, u "()Lcom/example/covenant/covenant/policy/Effect;")] 6

def k6c0 : Code := { maxStack := 1, maxLocals := 1, code := prog_66_method_4_code, exceptionTable := #[], attributes := #[] }
def k6m0 : Method := { name := "decision", desc := "()Lcom/example/covenant/covenant/Decision;", sig := { parameters := [], returnType := some (.object "com/example/covenant/covenant/Decision") }, accessFlags := 1, code := some k6c0 }
def k6c1 : Code := { maxStack := 2, maxLocals := 1, code := prog_66_method_5_code, exceptionTable := #[], attributes := #[] }
def k6m1 : Method := { name := "other", desc := "()Lcom/example/covenant/covenant/policy/Effect;", sig := { parameters := [], returnType := some (.object "com/example/covenant/covenant/policy/Effect") }, accessFlags := 1, code := some k6c1 }
/-- com/example/covenant/covenant/policy/Effect -/
def k6 : Class := { plain "com/example/covenant/covenant/policy/Effect" (some 5) with
  accessFlags := 16433
  interfaces := #[]
  cf := some (fileOf pool6 1 #[] #[{ accessFlags := 1, nameIndex := 31, descriptorIndex := 55, attributes := #[] }, { accessFlags := 1, nameIndex := 56, descriptorIndex := 57, attributes := #[] }] 16433 20 #[] #[{ accessFlags := 16409, nameIndex := 5, descriptorIndex := 6, attributes := #[] }, { accessFlags := 16409, nameIndex := 9, descriptorIndex := 6, attributes := #[] }, { accessFlags := 18, nameIndex := 31, descriptorIndex := 32, attributes := #[] }, { accessFlags := 4122, nameIndex := 12, descriptorIndex := 13, attributes := #[] }])
  fields := #[{ name := "PERMIT", type := (.object "com/example/covenant/covenant/policy/Effect"), accessFlags := 16409, slot := 0, constantValue := 0 }, { name := "DENY", type := (.object "com/example/covenant/covenant/policy/Effect"), accessFlags := 16409, slot := 1, constantValue := 0 }, { name := "decision", type := (.object "com/example/covenant/covenant/Decision"), accessFlags := 18, slot := 3, constantValue := 0 }, { name := "$VALUES", type := (.array (.object "com/example/covenant/covenant/policy/Effect")), accessFlags := 4122, slot := 2, constantValue := 0 }]
  methods := #[k6m0, k6m1]
  instanceTypes := #[(.object "java/lang/String"), .int, .int, (.object "com/example/covenant/covenant/Decision")]
  staticTypes := #[(.object "com/example/covenant/covenant/policy/Effect"), (.object "com/example/covenant/covenant/policy/Effect"), (.array (.object "com/example/covenant/covenant/policy/Effect"))]
  resolved := Array.replicate 64 none
  statics := some 0 }

def pool7 : Array CpInfo := pool [(1, .class_ 2), (0, u "com/example/covenant/covenant/Decision"), (2, u "PERMIT"), (0, u "Lcom/example/covenant/covenant/Decision;"), (2, u "DENY"), (2, u "NOT_APPLICABLE"), (2, u "INDETERMINATE"), (2, u "$VALUES"), (0, u "[Lcom/example/covenant/covenant/Decision;"), (6, .class_ 28), (1, u "java/lang/Enum"), (8, u "text"), (0, u "Ljava/lang/String;")] 50

/-- com/example/covenant/covenant/Decision -/
def k7 : Class := { plain "com/example/covenant/covenant/Decision" (some 5) with
  accessFlags := 16433
  interfaces := #[]
  cf := some (fileOf pool7 1 #[] #[] 16433 26 #[] #[{ accessFlags := 16409, nameIndex := 5, descriptorIndex := 6, attributes := #[] }, { accessFlags := 16409, nameIndex := 9, descriptorIndex := 6, attributes := #[] }, { accessFlags := 16409, nameIndex := 12, descriptorIndex := 6, attributes := #[] }, { accessFlags := 16409, nameIndex := 15, descriptorIndex := 6, attributes := #[] }, { accessFlags := 18, nameIndex := 37, descriptorIndex := 38, attributes := #[] }, { accessFlags := 4122, nameIndex := 18, descriptorIndex := 19, attributes := #[] }])
  fields := #[{ name := "PERMIT", type := (.object "com/example/covenant/covenant/Decision"), accessFlags := 16409, slot := 0, constantValue := 0 }, { name := "DENY", type := (.object "com/example/covenant/covenant/Decision"), accessFlags := 16409, slot := 1, constantValue := 0 }, { name := "NOT_APPLICABLE", type := (.object "com/example/covenant/covenant/Decision"), accessFlags := 16409, slot := 2, constantValue := 0 }, { name := "INDETERMINATE", type := (.object "com/example/covenant/covenant/Decision"), accessFlags := 16409, slot := 3, constantValue := 0 }, { name := "text", type := (.object "java/lang/String"), accessFlags := 18, slot := 3, constantValue := 0 }, { name := "$VALUES", type := (.array (.object "com/example/covenant/covenant/Decision")), accessFlags := 4122, slot := 4, constantValue := 0 }]
  methods := #[]
  instanceTypes := #[(.object "java/lang/String"), .int, .int, (.object "java/lang/String")]
  staticTypes := #[(.object "com/example/covenant/covenant/Decision"), (.object "com/example/covenant/covenant/Decision"), (.object "com/example/covenant/covenant/Decision"), (.object "com/example/covenant/covenant/Decision"), (.array (.object "com/example/covenant/covenant/Decision"))]
  resolved := Array.replicate 89 none
  statics := some 1 }

def pool8 : Array CpInfo := pool [(1, u "java/lang/Cloneable"), (0, .class_ 1), (0, u "java/lang/Object"), (0, .class_ 3)] 3

/-- java/lang/Cloneable -/
def k8 : Class := { plain "java/lang/Cloneable" (some 0) with
  accessFlags := 1537
  interfaces := #[]
  cf := some (fileOf pool8 2 #[] #[] 1537 4 #[] #[])
  fields := #[]
  methods := #[]
  instanceTypes := #[]
  staticTypes := #[]
  resolved := Array.replicate 8 none
  statics := none }

/-- the primitive byte -/
def k9 : Class := { plain "byte" none with kind := .primitive 'B', accessFlags := 0x411 }
/-- [B -/
def k10 : Class := { plain "[B" (some 0) with kind := .array 9 .byte, interfaces := #[8, 4], accessFlags := 1041 }

/-- the primitive int -/
def k11 : Class := { plain "int" none with kind := .primitive 'I', accessFlags := 0x411 }
/-- [I -/
def k12 : Class := { plain "[I" (some 0) with kind := .array 11 .int, interfaces := #[8, 4], accessFlags := 1041 }

def heap : Heap := #[{ cls := 6, slots := #[.ref 2, .ref 3, .null], vm := .statics 6 },
  { cls := 7, slots := #[.ref 5, .ref 4, .null, .null, .null], vm := .statics 7 },
  { cls := 6, slots := #[.null, .int 0, .int 0, .ref 5], vm := .none },
  { cls := 6, slots := #[.null, .int 1, .int 0, .ref 4], vm := .none },
  { cls := 7, slots := #[.null, .int 1, .int 0, .null], vm := .none },
  { cls := 7, slots := #[.null, .int 0, .int 0, .null], vm := .none }]
def classes : Array Class := #[k0, k1, k2, k3, k4, k5, k6, k7, k8, k9, k10, k11, k12]
def interned : List (Array UInt16 × Addr) := []
def slotsUsed : Nat := 24
def theMethod : MethodId := ⟨1, 1⟩
def args0 : Array Value := #[.int 5]
def aboutOver (below : List Frame) : State where
  vm := { classes := classes, interned := interned.toArray }
  heap := heap
  slotsUsed := slotsUsed
  threads := #[{ frames := .invoking theMethod args0 :: below }]
def below0 : List Frame := [.native { method := ⟨0, 0⟩, args := #[] }]
def about1 : State := aboutOver below0
def p0 : Program := .bare "" "" ""
def e0 : Env := launch0.env 0 0 0
theorem w_frames : about1.frames = Frame.invoking theMethod args0 :: below0 := rfl
set_option maxRecDepth 65536 in
theorem w_args : argsFit about1.vm theMethod args0 = true := by decide +kernel
set_option maxRecDepth 65536 in
theorem w_heap : heapFits about1 = true := by decide +kernel
set_option maxRecDepth 65536 in
theorem w_runnable : about1.curStatus? = some .runnable := by decide +kernel
set_option maxRecDepth 65536 in
theorem w_alone : about1.alone = true := by decide +kernel
set_option maxRecDepth 65536 in
theorem w_named : about1.methodNamed? x = some theMethod := by decide +kernel
set_option maxRecDepth 65536 in
theorem w_hears : about1.hears theMethod below0 = true := by decide +kernel
set_option maxRecDepth 65536 in
theorem w_ripe : about1.ripe theMethod args0 below0 = true := by decide +kernel
theorem w_running : about1.status = .running := rfl
set_option maxRecDepth 65536 in
theorem w_room : about1.hasRoom e0.platform room_1 = true :=
  launch0.hasRoom_least _ room_1 (by decide +kernel) (by decide +kernel) (by decide +kernel) (by decide +kernel) (by decide +kernel) (by decide +kernel)
theorem allAtoms_all (ts : List Jvm.Cond) (a : Array Jvm.Value) (st : Jvm.State) : (allAtoms ts).before a st = ts.all (fun c => c.before a st) := by
  induction ts with
  | nil => rfl
  | cons c t ih =>
    show (Jvm.Cond.and c (allAtoms t)).before a st = _
    rw [Jvm.Cond.before_and, ih, List.all_cons]
def words1 : List Jvm.Cond := Jvm.Cond.code x code maxLocals ret :: tables_1
/-- a 'code' word, met by the world's own term for the bytes: nothing is compared byte by byte -/
theorem code_word {y : MethodName} {bytes : ByteArray} {mx : Nat} {rt : Option FieldType} {a : Array Value} {s : State} {m : MethodId} {meth : Method} {c : Code} (h1 : s.methodNamed? y = some m) (h2 : s.vm.method? m = some meth) (h3 : meth.code = some c) (h4 : c.code = bytes)
    (h5 : (c.maxLocals == mx && c.exceptionTable.isEmpty && decide (c.maxStack ≤ mostOperands) && decide (meth.sig.returnType = rt) && !meth.locks && decide (parseMethodDescriptor y.desc = some meth.sig)) = true) : (Jvm.Cond.code y bytes mx rt).before a s = true := by
  simp only [Bool.and_eq_true, beq_iff_eq, Bool.not_eq_true', decide_eq_true_eq] at h5
  obtain ⟨⟨⟨⟨⟨g1, g2⟩, g3⟩, g4⟩, g5⟩, g6⟩ := h5
  simp [Cond.before, Cond.holds, Cond.value, h1, h2, h3, h4, g1, g2, g3, g4, g5, g6]
def isCode : Jvm.Cond → Bool
  | .code _ _ _ _ => true
  | _ => false
theorem all_split {L : List Jvm.Cond} {P : Jvm.Cond → Bool} (h1 : L.all (fun c => isCode c || P c) = true) (h2 : ∀ c ∈ L.filter isCode, P c = true) : L.all P = true := by
  refine List.all_eq_true.mpr fun c hc => ?_
  have h := List.all_eq_true.mp h1 c hc
  rcases Bool.eq_false_or_eq_true (isCode c) with hi | hi
  · exact h2 c (List.mem_filter.mpr ⟨hc, hi⟩)
  · simpa [hi] using h
set_option maxRecDepth 65536 in
theorem w_c0 : (Jvm.Cond.code x code maxLocals ret).before args0 about1 = true := code_word (m := ⟨1, 1⟩) (meth := k1m1) (c := k1c1) (by decide +kernel) rfl rfl rfl (by decide +kernel)
set_option maxRecDepth 65536 in
theorem w_c1 : (Jvm.Cond.code ({ cls := "com/example/covenant/covenant/policy/Effect", name := "other", desc := "()Lcom/example/covenant/covenant/policy/Effect;" } : Jvm.MethodName) prog_66_method_5_code (1 : Nat) (Option.some (Jvm.ClassFile.FieldType.object "com/example/covenant/covenant/policy/Effect"))).before args0 about1 = true := code_word (m := ⟨6, 1⟩) (meth := k6m1) (c := k6c1) (by decide +kernel) rfl rfl rfl (by decide +kernel)
set_option maxRecDepth 65536 in
theorem w_c2 : (Jvm.Cond.code ({ cls := "com/example/covenant/covenant/policy/Effect", name := "decision", desc := "()Lcom/example/covenant/covenant/Decision;" } : Jvm.MethodName) prog_66_method_4_code (1 : Nat) (Option.some (Jvm.ClassFile.FieldType.object "com/example/covenant/covenant/Decision"))).before args0 about1 = true := code_word (m := ⟨6, 0⟩) (meth := k6m0) (c := k6c0) (by decide +kernel) rfl rfl rfl (by decide +kernel)
def codes1 : List Jvm.Cond := [Jvm.Cond.code x code maxLocals ret, Jvm.Cond.code ({ cls := "com/example/covenant/covenant/policy/Effect", name := "other", desc := "()Lcom/example/covenant/covenant/policy/Effect;" } : Jvm.MethodName) prog_66_method_5_code (1 : Nat) (Option.some (Jvm.ClassFile.FieldType.object "com/example/covenant/covenant/policy/Effect")), Jvm.Cond.code ({ cls := "com/example/covenant/covenant/policy/Effect", name := "decision", desc := "()Lcom/example/covenant/covenant/Decision;" } : Jvm.MethodName) prog_66_method_4_code (1 : Nat) (Option.some (Jvm.ClassFile.FieldType.object "com/example/covenant/covenant/Decision"))]
set_option maxRecDepth 65536 in
theorem codes_eq : words1.filter isCode = codes1 := rfl
theorem w_codes : ∀ c ∈ words1.filter isCode, c.before args0 about1 = true := by
  rw [codes_eq]
  intro c hc
  simp only [codes1, List.mem_cons, List.not_mem_nil, or_false] at hc
  rcases hc with rfl | rfl | rfl
  · exact w_c0
  · exact w_c1
  · exact w_c2
set_option maxRecDepth 65536 in
theorem w_t1 : words1.all (fun c => isCode c || c.before args0 about1) = true := by decide +kernel
theorem w_tables : (allAtoms (Jvm.Cond.code x code maxLocals ret :: tables_1)).before args0 about1 = true := by
  rw [allAtoms_all]
  show words1.all (fun c => c.before args0 about1) = true
  refine all_split ?_ w_codes
  rw [w_t1]
set_option maxRecDepth 65536 in
theorem w_case : (Jvm.Cond.and given_1 narrow_1).before args0 about1 = true := by decide +kernel
theorem w_applies : (headSpec (Jvm.Cond.code x code maxLocals ret :: tables_1) room_1).applies x e0.platform about1 = true :=
  (Spec.applies_iff w_frames).mpr ⟨w_running, w_runnable, w_alone, w_named, w_hears, w_ripe, w_room, w_tables⟩
theorem atStart : AtStart classFile x code maxLocals ret World_1 tables_1 room_1 Calls_1 rest_1 Pre_1 launch0 p0 e0 about1 theMethod args0 below0 :=
  ⟨lists_1, trivial, launch0.admits_env _ _ _, launch0.least_env, fairChoices_fair.cas, fairChoices_fair.clock, w_frames, w_args, w_heap, w_applies, trivial, trivial, w_case⟩
end start1
theorem witness_1 : WitnessClaimed_1 := ⟨start1.p0, start1.e0, start1.about1, start1.theMethod, start1.args0, start1.below0, start1.atStart⟩
end Jvm.Pilot.@@N@@
