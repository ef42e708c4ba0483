import JvmDerived
import JvmDerived.Pilot.@@N@@Statement
import JvmDerived.Pilot.@@N@@Code
set_option linter.unusedVariables false
set_option linter.unusedSimpArgs false
namespace Jvm.Pilot.@@N@@
open Jvm Jvm.ClassFile Sem Op Lib Jvm.Free Jvm.Stand Jvm.LawKit Jvm.RoadKit Bundle Jvm.Pilot.@@N@@.Jvm.D
/-- from S the run goes on to an end that answers Q -/
def own_Go (p : Program) (e : Env) (below : List Frame) (s : State) (Q : Option Value → Heap → List Loc → Prop) (rm : Room) (S : State) : Prop :=
  ∃ t o, Steps p.tables e below S t ∧ t.status = .running ∧ Ended t below o ∧ ∃ v L, o = .returned v ∧ Q v t.heap L ∧ FrameEnd s o t L rm.cells rm.slots
section OwnKit
variable {p : Program} {l : Launch} {e : Env} {R rm : Room} {s S S' : State} {m : MethodId} {args : Array Value} {below : List Frame} {meth : Method} {c : Code} {T : State} {locs : List Loc} {cells slots : Nat} {Q : Option Value → Heap → List Loc → Prop}
theorem own_by (st : ∀ t, Steps p.tables e below S' t → Steps p.tables e below S t) (k : own_Go p e below s Q rm S') : own_Go p e below s Q rm S := by
  obtain ⟨t, o, h, r⟩ := k
  exact ⟨t, o, st _ h, r⟩
theorem own_via (st : Steps p.tables e below S S') (k : own_Go p e below s Q rm S') : own_Go p e below s Q rm S := own_by (fun _ h => st.trans h) k
theorem own_out {v : Option Value} {pc : Nat} {Ls : Array Slot} {st : List Value} (X : Stand p l e rm s m args below meth c T locs cells slots) (hlk : meth.locks = false) (hv : meth.sig.returnType = none → v = none) (hc : cells ≤ rm.cells) (hs : slots ≤ rm.slots)
    (step : ∀ fs, (∀ (f : JFrame) (acts : List Action), f.method = m → f.locked = none → f.entered = [] → (doReturn e (T.setTop f) acts v).1 = T.setFrames fs) → Steps p.tables e below (T.setTop (mkF m pc Ls st)) (T.setFrames fs)) (hQ : Q v T.heap locs) : own_Go p e below s Q rm (T.setTop (mkF m pc Ls st)) := by
  obtain ⟨fs, hr, hrun, hended, hW, hsame⟩ := X.leave (v := v) hv hlk
  exact ⟨_, _, step fs hr, hrun, hended, v, locs, rfl, hQ, ⟨_, rfl⟩, hW, hsame.mono hc hs⟩
theorem own_retV (X : Stand p l e rm s m args below meth c T locs cells slots) (hx : p.tables.exec = Jvm.exec) (hlk : meth.locks = false) {pc : Nat} {Ls : Array Slot} (hret : meth.sig.returnType = none) (hd : decode c.code pc = .ok (.return_, 1)) (hQ : Q none T.heap locs) (hc : cells ≤ rm.cells) (hs : slots ≤ rm.slots) :
    own_Go p e below s Q rm (T.setTop (mkF m pc Ls [])) := own_out X hlk (fun _ => rfl) hc hs (fun fs hr => X.returnOut hx hret hd hr) hQ
theorem own_retI (X : Stand p l e rm s m args below meth c T locs cells slots) (hx : p.tables.exec = Jvm.exec) (hlk : meth.locks = false) {pc : Nat} {Ls : Array Slot} {z : Int32} {t : FieldType} {rest : List Value} (hret : meth.sig.returnType = some t) (ht : t = .int ∨ t = .boolean ∨ t = .byte ∨ t = .char ∨ t = .short) (hn : narrow t (.int z) = .int z) (hd : decode c.code pc = .ok (.ireturn, 1)) (hQ : Q (some (.int z)) T.heap locs) (hc : cells ≤ rm.cells) (hs : slots ≤ rm.slots) :
    own_Go p e below s Q rm (T.setTop (mkF m pc Ls (.int z :: rest))) := own_out X hlk (fun h => by rw [hret] at h; cases h) hc hs (fun fs hr => retOut X hx hret hn (Or.inl ⟨rfl, ht, z, rfl⟩) hd hr) hQ
theorem own_retL (X : Stand p l e rm s m args below meth c T locs cells slots) (hx : p.tables.exec = Jvm.exec) (hlk : meth.locks = false) {pc : Nat} {Ls : Array Slot} {z : Int64} {rest : List Value} (hret : meth.sig.returnType = some .long) (hd : decode c.code pc = .ok (.lreturn, 1)) (hQ : Q (some (.long z)) T.heap locs) (hc : cells ≤ rm.cells) (hs : slots ≤ rm.slots) :
    own_Go p e below s Q rm (T.setTop (mkF m pc Ls (.long z :: rest))) := own_out X hlk (fun h => by rw [hret] at h; cases h) hc hs (fun fs hr => retOut X hx hret rfl (Or.inr (Or.inl ⟨rfl, rfl, z, rfl⟩)) hd hr) hQ
theorem own_retA (X : Stand p l e rm s m args below meth c T locs cells slots) (hx : p.tables.exec = Jvm.exec) (hlk : meth.locks = false) {pc : Nat} {Ls : Array Slot} {w : Value} {t : FieldType} {rest : List Value} (hret : meth.sig.returnType = some t) (ht : t.isReference = true) (hw : w.isRef = true) (hd : decode c.code pc = .ok (.areturn, 1)) (hQ : Q (some w) T.heap locs) (hc : cells ≤ rm.cells) (hs : slots ≤ rm.slots) :
    own_Go p e below s Q rm (T.setTop (mkF m pc Ls (w :: rest))) := by
  have hn : narrow t w = w := by cases w <;> first | (simp [Value.isRef] at hw; done) | (cases t <;> first | (simp [FieldType.isReference] at ht; done) | rfl)
  exact own_out X hlk (fun h => by rw [hret] at h; cases h) hc hs (fun fs hr => retOut X hx hret hn (Or.inr (Or.inr (Or.inr (Or.inr ⟨rfl, ht, hw⟩)))) hd hr) hQ
theorem own_enter {Z : State} {h0 : Heap} {y : MethodName} {bytes : ByteArray} {maxL : Nat} {ret : Option FieldType} {ws : List Jvm.Cond} {as : Array Value} (hp : plainFor y = true)
    (body : ∀ p e s m below meth c s₁, Stand p l e rm s m as below meth c s₁ [] 0 0 → p.tables.exec = Jvm.exec → Z.Warmed39 s.vm → c.code = bytes → c.maxLocals = maxL → s.vm.findClass y.cls = some m.cls → meth.name = y.name → meth.sig.returnType = ret → meth.locks = false → s₁.heap = h0 →
      own_Go p e below s Q rm (s₁.setTop (entryFrame m as maxL))) :
    MetFree l y (head1 (Jvm.Cond.code y bytes maxL ret :: ws) rm) (fun a U => a = as ∧ Z.Warmed39 U.vm ∧ U.heap = h0) (fun _ _ _ _ _ => True) (fun _ U o U' => ∃ v L, o = .returned v ∧ Q v U'.heap L ∧ FrameEnd U o U' L rm.cells rm.slots) := by
  refine MetFree.of_bodySF hp hisR ?_
  intro p e s m args below meth c s₁ Bd hml0 hP hK
  obtain ⟨rfl, hZ, hh⟩ := hP
  have X0 : Stand p l e rm s m args below meth c s₁ [] 0 0 := Stand.of_body Bd
  exact body p e s m below meth c s₁ X0 Bd.exec hZ Bd.bytes hml0 (findClass_of_methodNamed Bd.named) (name_of_methodNamed Bd.named Bd.method).1 Bd.returns (BodyLoose.notSynchronized Bd) (by rw [← hh, Bd.state]; rfl)
end OwnKit
theorem own_len31 {Z : State} {args : Array Value} {t : Term} {v : Value} {a : Addr} {cl : Cell} (h : (Term.length t).eval args Z none [] Z = some v) (ht : t.eval args Z none [] Z = some (.ref a)) (hc : Z.heap[a]? = some cl) : cl.slots.size < 2 ^ 31 := by
  simp only [Term.eval, ht, Option.bind_eq_bind, Option.bind_some] at h
  cases ha : Z.arrayAt? a with
  | none => simp [ha] at h
  | some c2 =>
    cases (State.arrayAt?_spec ha).1.symm.trans hc
    by_cases q : cl.slots.size < 2 ^ 31
    · exact q
    · simp [ha, q] at h
theorem own_eqr {Z : State} {args : Array Value} {X F : Term} {y : Value} (hy : y.isRef = true) (hF : F.eval args Z none [] Z = some y) (h : (Jvm.Cond.eq X F).value args Z none Z [] = some true) : X.eval args Z none [] Z = some y := by
  obtain ⟨x, y', e1, e2, k1, k2⟩ := cmp_v (Or.inl h)
  cases hF.symm.trans e2
  have hx : x.isRef = true := by
    rcases ref_cases hy with rfl | ⟨a, rfl⟩
    · exact k2.2
    · exact k2.2
  exact e1.trans (congrArg some (gotT (eq_R e1 hF hx hy) h))
theorem pl_0 : plainFor x = true := plainFor_of_name (by first | (simp [plainName, overriddenIn]; done) | decide +kernel)
theorem d1_0 : decode prog_35_method_19_code 0 = .ok (.aload_n 0, 1) := by decide +kernel
theorem d1_1 : decode prog_35_method_19_code 1 = .ok (.getfield 69, 3) := by decide +kernel
theorem d1_4 : decode prog_35_method_19_code 4 = .ok (.ifnull 7, 3) := by decide +kernel
theorem d1_7 : decode prog_35_method_19_code 7 = .ok (.iconst 1, 1) := by decide +kernel
theorem d1_8 : decode prog_35_method_19_code 8 = .ok (.goto 4, 3) := by decide +kernel
theorem d1_11 : decode prog_35_method_19_code 11 = .ok (.iconst 0, 1) := by decide +kernel
theorem d1_12 : decode prog_35_method_19_code 12 = .ok (.ireturn, 1) := by decide +kernel
theorem pl_1 : plainFor (⟨"com/example/placerfill/placerfill/OrderAction", "reachesChildren", "()Z"⟩ : MethodName) = true := plainFor_of_name (by first | (simp [plainName, overriddenIn]; done) | decide +kernel)
theorem d2_0 : decode prog_37_method_2_code 0 = .ok (.iconst 1, 1) := by decide +kernel
theorem d2_1 : decode prog_37_method_2_code 1 = .ok (.ireturn, 1) := by decide +kernel
theorem pl_2 : plainFor (⟨"com/example/placerfill/placerfill/OrderAction$2", "reachesChildren", "()Z"⟩ : MethodName) = true := plainFor_of_name (by first | (simp [plainName, overriddenIn]; done) | decide +kernel)
theorem pd_0 : parseMethodDescriptor "()Z" = some ⟨[], some .boolean⟩ := by decide +kernel
theorem own_mod (x n : Int32) (hn : 0 < n.toInt) : 0 ≤ ((x &&& (2147483647 : Int32)) % n).toInt ∧ ((x &&& (2147483647 : Int32)) % n).toInt < n.toInt := by
  have h := (c_and x 2147483647 (by decide)).1
  have q := (c_iremV (x &&& 2147483647) n).1 h hn
  exact ⟨q.1, q.2.1⟩
theorem own_cases10 (k : Int32) (h : 0 ≤ k.toInt ∧ k.toInt < (10 : Int32).toInt) : k = (0 : Int32) ∨ k = (1 : Int32) ∨ k = (2 : Int32) ∨ k = (3 : Int32) ∨ k = (4 : Int32) ∨ k = (5 : Int32) ∨ k = (6 : Int32) ∨ k = (7 : Int32) ∨ k = (8 : Int32) ∨ k = (9 : Int32) := by
  have e : (10 : Int32).toInt = 10 := by decide
  have q : k.toInt = 0 ∨ k.toInt = 1 ∨ k.toInt = 2 ∨ k.toInt = 3 ∨ k.toInt = 4 ∨ k.toInt = 5 ∨ k.toInt = 6 ∨ k.toInt = 7 ∨ k.toInt = 8 ∨ k.toInt = 9 := by omega
  rcases q with q | q | q | q | q | q | q | q | q | q
  · exact Or.inl (Int32.toInt_inj.mp (q.trans (by decide)))
  · exact Or.inr (Or.inl (Int32.toInt_inj.mp (q.trans (by decide))))
  · exact Or.inr (Or.inr (Or.inl (Int32.toInt_inj.mp (q.trans (by decide)))))
  · exact Or.inr (Or.inr (Or.inr (Or.inl (Int32.toInt_inj.mp (q.trans (by decide))))))
  · exact Or.inr (Or.inr (Or.inr (Or.inr (Or.inl (Int32.toInt_inj.mp (q.trans (by decide)))))))
  · exact Or.inr (Or.inr (Or.inr (Or.inr (Or.inr (Or.inl (Int32.toInt_inj.mp (q.trans (by decide))))))))
  · exact Or.inr (Or.inr (Or.inr (Or.inr (Or.inr (Or.inr (Or.inl (Int32.toInt_inj.mp (q.trans (by decide)))))))))
  · exact Or.inr (Or.inr (Or.inr (Or.inr (Or.inr (Or.inr (Or.inr (Or.inl (Int32.toInt_inj.mp (q.trans (by decide))))))))))
  · exact Or.inr (Or.inr (Or.inr (Or.inr (Or.inr (Or.inr (Or.inr (Or.inr (Or.inl (Int32.toInt_inj.mp (q.trans (by decide)))))))))))
  · exact Or.inr (Or.inr (Or.inr (Or.inr (Or.inr (Or.inr (Or.inr (Or.inr (Or.inr ((Int32.toInt_inj.mp (q.trans (by decide))))))))))))
def Q_rm_null (Z : State) (a : Addr) (h0 : Heap) (n0 : Nat) (v : Option Value) (h : Heap) (L : List Loc) : Prop := v = some (.int (0 : Int32)) ∧ Fr n0 L ∧ h = h0
set_option maxRecDepth 65536 in
set_option maxHeartbeats 40000000 in
theorem rm_null (l : Launch) (Z : State) (a0 : Array Value) (hw : ∀ d ∈ tables_1, d.before a0 Z = true) (ws : List Jvm.Cond) (a : Addr) (h0 : Heap) (n0 : Nat) (F : Fld Z h0 a "com/example/placerfill/placerfill/OrderAction" "result" "Lcom/example/placerfill/placerfill/OrderStatus;" .null) :
    MetFree l (⟨"com/example/placerfill/placerfill/OrderAction", "reachesChildren", "()Z"⟩ : MethodName) (head1 (Jvm.Cond.code (⟨"com/example/placerfill/placerfill/OrderAction", "reachesChildren", "()Z"⟩ : MethodName) prog_35_method_19_code 1 (some .boolean) :: ws) ({ frames := 0, cells := 0, slots := 0, locals := 0 } : Room)) (fun ar U => ar = #[(.ref a)] ∧ Z.Warmed39 U.vm ∧ U.heap = h0) (fun _ _ _ _ _ => True) (fun _ U o U' => ∃ v L, o = .returned v ∧ Q_rm_null Z a h0 n0 v U'.heap L ∧ FrameEnd U o U' L ({ frames := 0, cells := 0, slots := 0, locals := 0 } : Room).cells ({ frames := 0, cells := 0, slots := 0, locals := 0 } : Room).slots) := by
  refine own_enter (Q := (Q_rm_null Z a h0 n0)) pl_1 ?_
  intro p e s m below meth c s₁ X0 hx hZ hby hml hown hnm hret hlk e0
  have N0 := Fr.nil n0
  refine own_by (fun tz kz => castTop (g' := (mkF m 0 #[.val (.ref a)] [])) (by first | rfl | (simp [entryFrame, mkF, argsToLocals, Value.category]; done)) kz) ?_
  show own_Go p e below s _ _ (s₁.setTop (mkF m 0 #[.val (.ref a)] []))
  refine own_by (fun tz kz => XS.aloadN X0.here hx rfl (hb hby d1_0) rfl rfl kz) ?_
  show own_Go p e below s _ _ (s₁.setTop (mkF m 1 #[.val (.ref a)] [(.ref a)]))
  obtain ⟨T1, X1, e1, st1⟩ := getF X0 hx hZ hown (host := "") (Or.inl (hw _ (List.mem_of_getElem? (i := 35) rfl))) Via.refl e0 F (g := (mkF m 1 #[.val (.ref a)] [(.ref a)])) rfl rfl (hb hby d1_1)
  refine own_by st1 ?_
  show own_Go p e below s _ _ (T1.setTop (mkF m 4 #[.val (.ref a)] [.null]))
  refine own_by (fun tz kz => XS.ifnullYes X1.here hx rfl (pc0 := 4) (pc' := 11) rfl (hb hby d1_4) rfl (by decide) (by decide) kz) ?_
  show own_Go p e below s _ _ (T1.setTop (mkF m 11 #[.val (.ref a)] []))
  refine own_by (fun tz kz => XS.iconst X1.here hx rfl (hb hby d1_11) kz) ?_
  show own_Go p e below s _ _ (T1.setTop (mkF m 12 #[.val (.ref a)] [(.int (0 : Int32))]))
  refine own_retI X1 hx hlk (t := .boolean) hret (by simp) rfl (hb hby d1_12) ?_ (by decide) (by decide)
  exact ⟨rfl, N0, e1⟩
def Q_rm_some (Z : State) (a : Addr) (b : Addr) (h0 : Heap) (n0 : Nat) (v : Option Value) (h : Heap) (L : List Loc) : Prop := v = some (.int (1 : Int32)) ∧ Fr n0 L ∧ h = h0
set_option maxRecDepth 65536 in
set_option maxHeartbeats 40000000 in
theorem rm_some (l : Launch) (Z : State) (a0 : Array Value) (hw : ∀ d ∈ tables_1, d.before a0 Z = true) (ws : List Jvm.Cond) (a : Addr) (b : Addr) (h0 : Heap) (n0 : Nat) (F : Fld Z h0 a "com/example/placerfill/placerfill/OrderAction" "result" "Lcom/example/placerfill/placerfill/OrderStatus;" (.ref b)) :
    MetFree l (⟨"com/example/placerfill/placerfill/OrderAction", "reachesChildren", "()Z"⟩ : MethodName) (head1 (Jvm.Cond.code (⟨"com/example/placerfill/placerfill/OrderAction", "reachesChildren", "()Z"⟩ : MethodName) prog_35_method_19_code 1 (some .boolean) :: ws) ({ frames := 0, cells := 0, slots := 0, locals := 0 } : Room)) (fun ar U => ar = #[(.ref a)] ∧ Z.Warmed39 U.vm ∧ U.heap = h0) (fun _ _ _ _ _ => True) (fun _ U o U' => ∃ v L, o = .returned v ∧ Q_rm_some Z a b h0 n0 v U'.heap L ∧ FrameEnd U o U' L ({ frames := 0, cells := 0, slots := 0, locals := 0 } : Room).cells ({ frames := 0, cells := 0, slots := 0, locals := 0 } : Room).slots) := by
  refine own_enter (Q := (Q_rm_some Z a b h0 n0)) pl_1 ?_
  intro p e s m below meth c s₁ X0 hx hZ hby hml hown hnm hret hlk e0
  have N0 := Fr.nil n0
  refine own_by (fun tz kz => castTop (g' := (mkF m 0 #[.val (.ref a)] [])) (by first | rfl | (simp [entryFrame, mkF, argsToLocals, Value.category]; done)) kz) ?_
  show own_Go p e below s _ _ (s₁.setTop (mkF m 0 #[.val (.ref a)] []))
  refine own_by (fun tz kz => XS.aloadN X0.here hx rfl (hb hby d1_0) rfl rfl kz) ?_
  show own_Go p e below s _ _ (s₁.setTop (mkF m 1 #[.val (.ref a)] [(.ref a)]))
  obtain ⟨T1, X1, e1, st1⟩ := getF X0 hx hZ hown (host := "") (Or.inl (hw _ (List.mem_of_getElem? (i := 35) rfl))) Via.refl e0 F (g := (mkF m 1 #[.val (.ref a)] [(.ref a)])) rfl rfl (hb hby d1_1)
  refine own_by st1 ?_
  show own_Go p e below s _ _ (T1.setTop (mkF m 4 #[.val (.ref a)] [(.ref b)]))
  refine own_by (fun tz kz => XS.ifnullNo X1.here hx rfl (hb hby d1_4) rfl kz) ?_
  show own_Go p e below s _ _ (T1.setTop (mkF m 7 #[.val (.ref a)] []))
  refine own_by (fun tz kz => XS.iconst X1.here hx rfl (hb hby d1_7) kz) ?_
  show own_Go p e below s _ _ (T1.setTop (mkF m 8 #[.val (.ref a)] [(.int (1 : Int32))]))
  refine own_by (fun tz kz => XS.goto X1.here hx rfl (pc0 := 8) (pc' := 12) rfl (hb hby d1_8) (by decide) (by decide) kz) ?_
  show own_Go p e below s _ _ (T1.setTop (mkF m 12 #[.val (.ref a)] [(.int (1 : Int32))]))
  refine own_retI X1 hx hlk (t := .boolean) hret (by simp) rfl (hb hby d1_12) ?_ (by decide) (by decide)
  exact ⟨rfl, N0, e1⟩
def Q_rm_two (Z : State) (a : Addr) (h0 : Heap) (n0 : Nat) (v : Option Value) (h : Heap) (L : List Loc) : Prop := v = some (.int (1 : Int32)) ∧ Fr n0 L ∧ h = h0
set_option maxRecDepth 65536 in
set_option maxHeartbeats 40000000 in
theorem rm_two (l : Launch) (Z : State) (a0 : Array Value) (hw : ∀ d ∈ tables_1, d.before a0 Z = true) (ws : List Jvm.Cond) (a : Addr) (h0 : Heap) (n0 : Nat)  :
    MetFree l (⟨"com/example/placerfill/placerfill/OrderAction$2", "reachesChildren", "()Z"⟩ : MethodName) (head1 (Jvm.Cond.code (⟨"com/example/placerfill/placerfill/OrderAction$2", "reachesChildren", "()Z"⟩ : MethodName) prog_37_method_2_code 1 (some .boolean) :: ws) ({ frames := 0, cells := 0, slots := 0, locals := 0 } : Room)) (fun ar U => ar = #[(.ref a)] ∧ Z.Warmed39 U.vm ∧ U.heap = h0) (fun _ _ _ _ _ => True) (fun _ U o U' => ∃ v L, o = .returned v ∧ Q_rm_two Z a h0 n0 v U'.heap L ∧ FrameEnd U o U' L ({ frames := 0, cells := 0, slots := 0, locals := 0 } : Room).cells ({ frames := 0, cells := 0, slots := 0, locals := 0 } : Room).slots) := by
  refine own_enter (Q := (Q_rm_two Z a h0 n0)) pl_2 ?_
  intro p e s m below meth c s₁ X0 hx hZ hby hml hown hnm hret hlk e0
  have N0 := Fr.nil n0
  refine own_by (fun tz kz => castTop (g' := (mkF m 0 #[.val (.ref a)] [])) (by first | rfl | (simp [entryFrame, mkF, argsToLocals, Value.category]; done)) kz) ?_
  show own_Go p e below s _ _ (s₁.setTop (mkF m 0 #[.val (.ref a)] []))
  refine own_by (fun tz kz => XS.iconst X0.here hx rfl (hb hby d2_0) kz) ?_
  show own_Go p e below s _ _ (s₁.setTop (mkF m 1 #[.val (.ref a)] [(.int (1 : Int32))]))
  refine own_retI X0 hx hlk (t := .boolean) hret (by simp) rfl (hb hby d2_1) ?_ (by decide) (by decide)
  exact ⟨rfl, N0, e0⟩
def Q_rm0 (Z : State) (p0 I : Int32) (w0 w1 w2 w3 w4 w5 w6 w7 w8 w9 r1 r2 r3 r4 r6 : Addr) (h0 : Heap) (n0 : Nat) (v : Option Value) (h : Heap) (L : List Loc) : Prop := v = some (.int 1) ∧ Fr n0 L
set_option maxRecDepth 65536 in
set_option maxHeartbeats 40000000 in
theorem rm0 (l : Launch) (Z : State) (a0 : Array Value) (hw : ∀ d ∈ tables_1, d.before a0 Z = true) (ws : List Jvm.Cond) (p0 I : Int32) (w0 w1 w2 w3 w4 w5 w6 w7 w8 w9 r1 r2 r3 r4 r6 : Addr) (h0 : Heap) (n0 : Nat) (O0 : Old Z n0 h0) (S_0 : Sta Z Z.heap "com/example/placerfill/placerfill/OrderAction" "NEW_ORDER" "Lcom/example/placerfill/placerfill/OrderAction;" (.ref w0)) (S_1 : Sta Z Z.heap "com/example/placerfill/placerfill/OrderAction" "CANCEL" "Lcom/example/placerfill/placerfill/OrderAction;" (.ref w1)) (S_2 : Sta Z Z.heap "com/example/placerfill/placerfill/OrderAction" "DISCONTINUE" "Lcom/example/placerfill/placerfill/OrderAction;" (.ref w2)) (S_3 : Sta Z Z.heap "com/example/placerfill/placerfill/OrderAction" "HOLD" "Lcom/example/placerfill/placerfill/OrderAction;" (.ref w3)) (S_4 : Sta Z Z.heap "com/example/placerfill/placerfill/OrderAction" "RELEASE" "Lcom/example/placerfill/placerfill/OrderAction;" (.ref w4)) (S_5 : Sta Z Z.heap "com/example/placerfill/placerfill/OrderAction" "CHANGE" "Lcom/example/placerfill/placerfill/OrderAction;" (.ref w5)) (S_6 : Sta Z Z.heap "com/example/placerfill/placerfill/OrderAction" "REPLACE" "Lcom/example/placerfill/placerfill/OrderAction;" (.ref w6)) (S_7 : Sta Z Z.heap "com/example/placerfill/placerfill/OrderAction" "REPLACEMENT" "Lcom/example/placerfill/placerfill/OrderAction;" (.ref w7)) (S_8 : Sta Z Z.heap "com/example/placerfill/placerfill/OrderAction" "STATUS" "Lcom/example/placerfill/placerfill/OrderAction;" (.ref w8)) (S_9 : Sta Z Z.heap "com/example/placerfill/placerfill/OrderAction" "NOT_ACTED_ON" "Lcom/example/placerfill/placerfill/OrderAction;" (.ref w9)) (E_0 : Exa Z Z.heap w0 "com/example/placerfill/placerfill/OrderAction$1") (E_1 : Exa Z Z.heap w1 "com/example/placerfill/placerfill/OrderAction") (E_2 : Exa Z Z.heap w2 "com/example/placerfill/placerfill/OrderAction") (E_3 : Exa Z Z.heap w3 "com/example/placerfill/placerfill/OrderAction") (E_4 : Exa Z Z.heap w4 "com/example/placerfill/placerfill/OrderAction") (E_5 : Exa Z Z.heap w5 "com/example/placerfill/placerfill/OrderAction$2") (E_6 : Exa Z Z.heap w6 "com/example/placerfill/placerfill/OrderAction") (E_7 : Exa Z Z.heap w7 "com/example/placerfill/placerfill/OrderAction$3") (E_8 : Exa Z Z.heap w8 "com/example/placerfill/placerfill/OrderAction") (E_9 : Exa Z Z.heap w9 "com/example/placerfill/placerfill/OrderAction$4") (F_0 : Fld Z Z.heap w0 "com/example/placerfill/placerfill/OrderAction" "result" "Lcom/example/placerfill/placerfill/OrderStatus;" .null) (F_1 : Fld Z Z.heap w1 "com/example/placerfill/placerfill/OrderAction" "result" "Lcom/example/placerfill/placerfill/OrderStatus;" (.ref r1)) (F_2 : Fld Z Z.heap w2 "com/example/placerfill/placerfill/OrderAction" "result" "Lcom/example/placerfill/placerfill/OrderStatus;" (.ref r2)) (F_3 : Fld Z Z.heap w3 "com/example/placerfill/placerfill/OrderAction" "result" "Lcom/example/placerfill/placerfill/OrderStatus;" (.ref r3)) (F_4 : Fld Z Z.heap w4 "com/example/placerfill/placerfill/OrderAction" "result" "Lcom/example/placerfill/placerfill/OrderStatus;" (.ref r4)) (F_5 : Fld Z Z.heap w5 "com/example/placerfill/placerfill/OrderAction" "result" "Lcom/example/placerfill/placerfill/OrderStatus;" .null) (F_6 : Fld Z Z.heap w6 "com/example/placerfill/placerfill/OrderAction" "result" "Lcom/example/placerfill/placerfill/OrderStatus;" (.ref r6)) (F_7 : Fld Z Z.heap w7 "com/example/placerfill/placerfill/OrderAction" "result" "Lcom/example/placerfill/placerfill/OrderStatus;" .null) (F_8 : Fld Z Z.heap w8 "com/example/placerfill/placerfill/OrderAction" "result" "Lcom/example/placerfill/placerfill/OrderStatus;" .null) (F_9 : Fld Z Z.heap w9 "com/example/placerfill/placerfill/OrderAction" "result" "Lcom/example/placerfill/placerfill/OrderStatus;" .null) (hI : I = (p0 &&& (2147483647 : Int32)) % (10 : Int32)) (hk : I = (0 : Int32) ∨ I = (1 : Int32) ∨ I = (2 : Int32) ∨ I = (3 : Int32) ∨ I = (4 : Int32) ∨ I = (5 : Int32) ∨ I = (6 : Int32) ∨ I = (7 : Int32) ∨ I = (8 : Int32) ∨ I = (9 : Int32)) :
    MetFree l x (head1 (Jvm.Cond.code x code maxLocals ret :: ws) room_1) (fun ar U => ar = #[(.int p0)] ∧ Z.Warmed39 U.vm ∧ U.heap = h0) (fun _ _ _ _ _ => True) (fun _ U o U' => ∃ v L, o = .returned v ∧ Q_rm0 Z p0 I w0 w1 w2 w3 w4 w5 w6 w7 w8 w9 r1 r2 r3 r4 r6 h0 n0 v U'.heap L ∧ FrameEnd U o U' L room_1.cells room_1.slots) := by
  refine own_enter (Q := (Q_rm0 Z p0 I w0 w1 w2 w3 w4 w5 w6 w7 w8 w9 r1 r2 r3 r4 r6 h0 n0)) pl_0 ?_
  intro p e s m below meth c s₁ X0 hx hZ hby hml hown hnm hret hlk e0
  have N0 := Fr.nil n0
  refine own_by (fun tz kz => castTop (g' := (mkF m 0 #[.val (.int p0), .unset, .unset, .unset] [])) (by first | rfl | (simp [entryFrame, mkF, argsToLocals, Value.category, maxLocals]; done)) kz) ?_
  have K0 := Keep.refl h0 []
  show own_Go p e below s _ _ (s₁.setTop (mkF m 0 #[.val (.int p0), .unset, .unset, .unset] []))
  refine own_by (fun tz kz => XS.bipush X0.here hx rfl (hb hby at_0) kz) ?_
  show own_Go p e below s _ _ (s₁.setTop (mkF m 2 #[.val (.int p0), .unset, .unset, .unset] [(.int (10 : Int32))]))
  obtain ⟨T1, h1, k1, X1, e1, E1, A1, Q1, st1⟩ := newR X0 hx hZ hown (hw _ (List.mem_of_getElem? (i := 0) rfl)) (hw _ (List.mem_of_getElem? (i := 1) rfl)) e0 (g := (mkF m 2 #[.val (.int p0), .unset, .unset, .unset] [(.int (10 : Int32))])) rfl (hb hby at_2) rfl (by decide) (cap := 10) (by decide) (by decide) (by decide) (by decide)
  obtain ⟨b1, g1⟩ : ∃ z, z = h0.size := ⟨_, rfl⟩
  rw [← g1] at A1 st1
  have g_b1 : n0 ≤ b1 := by rw [g1]; exact O0.1 ▸ O0.2.1
  have sz_b1 : h0.size ≤ b1 := by rw [g1]; exact K0.1
  have O1 := O0.ext E1
  have K1 := K0.ext E1
  refine own_by st1 ?_
  have V1 : Arv Z h1 b1 k1 (.object "com/example/placerfill/placerfill/OrderAction") (10 : Int32) [.null, .null, .null, .null, .null, .null, .null, .null, .null, .null] .null := (Arv.new A1 (by decide)).pad (pad_rep [] .null 10)
  show own_Go p e below s _ _ (T1.setTop (mkF m 5 #[.val (.int p0), .unset, .unset, .unset] [(.ref b1)]))
  refine own_by (fun tz kz => XS.dup X1.here hx rfl (hb hby at_5) rfl rfl kz) ?_
  show own_Go p e below s _ _ (T1.setTop (mkF m 6 #[.val (.int p0), .unset, .unset, .unset] [(.ref b1), (.ref b1)]))
  refine own_by (fun tz kz => XS.iconst X1.here hx rfl (hb hby at_6) kz) ?_
  show own_Go p e below s _ _ (T1.setTop (mkF m 7 #[.val (.int p0), .unset, .unset, .unset] [(.int (0 : Int32)), (.ref b1), (.ref b1)]))
  obtain ⟨T2, X2, e2, st2⟩ := getS2 X1 hx hZ hown (host := "") (Or.inl (hw _ (List.mem_of_getElem? (i := 2) rfl))) Via.refl e1 (S_0.ext O1.2) (g := (mkF m 7 #[.val (.int p0), .unset, .unset, .unset] [(.int (0 : Int32)), (.ref b1), (.ref b1)])) rfl (hb hby at_7)
  refine own_by st2 ?_
  show own_Go p e below s _ _ (T2.setTop (mkF m 10 #[.val (.int p0), .unset, .unset, .unset] [(.ref w0), (.int (0 : Int32)), (.ref b1), (.ref b1)]))
  obtain ⟨c3, Ar3, q3, S3, M3, Hh3, G3⟩ := id V1
  have hin3 : ¬ ((0 : Int32) < 0 ∨ c3.slots.size ≤ ((0 : Int32)).toNatClampNeg) := inb_of S3 ⟨by decide, by decide⟩
  obtain ⟨T3, h3, X3, e3, W3, st3⟩ := stR X2 hx hZ e2 Ar3 (j := (0 : Int32)) hin3 rfl (Sto.ofV Ar3 q3 Q1 (Ins.of_exa (E_0.ext O1.2) (hw _ (List.mem_of_getElem? (i := 5) rfl)))) (g := (mkF m 10 #[.val (.int p0), .unset, .unset, .unset] [(.ref w0), (.int (0 : Int32)), (.ref b1), (.ref b1)])) rfl rfl (hb hby at_10)
  have V3 : Arv Z h3 b1 k1 (.object "com/example/placerfill/placerfill/OrderAction") (10 : Int32) [(.ref w0), .null, .null, .null, .null, .null, .null, .null, .null, .null] .null := Arv.set Ar3 q3 S3 M3 Hh3 G3 rfl W3 0 (by decide) (Nat.le_of_ble_eq_true rfl)
  have O3 := O1.wr W3 g_b1
  have N3 := Fr.snoc X3 N0 g_b1
  have K3 := K1.wr W3 (Or.inr sz_b1)
  refine own_by st3 ?_
  show own_Go p e below s _ _ (T3.setTop (mkF m 11 #[.val (.int p0), .unset, .unset, .unset] [(.ref b1)]))
  refine own_by (fun tz kz => XS.dup X3.here hx rfl (hb hby at_11) rfl rfl kz) ?_
  show own_Go p e below s _ _ (T3.setTop (mkF m 12 #[.val (.int p0), .unset, .unset, .unset] [(.ref b1), (.ref b1)]))
  refine own_by (fun tz kz => XS.iconst X3.here hx rfl (hb hby at_12) kz) ?_
  show own_Go p e below s _ _ (T3.setTop (mkF m 13 #[.val (.int p0), .unset, .unset, .unset] [(.int (1 : Int32)), (.ref b1), (.ref b1)]))
  obtain ⟨T4, X4, e4, st4⟩ := getS2 X3 hx hZ hown (host := "") (Or.inl (hw _ (List.mem_of_getElem? (i := 6) rfl))) Via.refl e3 (S_1.ext O3.2) (g := (mkF m 13 #[.val (.int p0), .unset, .unset, .unset] [(.int (1 : Int32)), (.ref b1), (.ref b1)])) rfl (hb hby at_13)
  refine own_by st4 ?_
  show own_Go p e below s _ _ (T4.setTop (mkF m 16 #[.val (.int p0), .unset, .unset, .unset] [(.ref w1), (.int (1 : Int32)), (.ref b1), (.ref b1)]))
  obtain ⟨c5, Ar5, q5, S5, M5, Hh5, G5⟩ := id V3
  have hin5 : ¬ ((1 : Int32) < 0 ∨ c5.slots.size ≤ ((1 : Int32)).toNatClampNeg) := inb_of S5 ⟨by decide, by decide⟩
  obtain ⟨T5, h5, X5, e5, W5, st5⟩ := stR X4 hx hZ e4 Ar5 (j := (1 : Int32)) hin5 rfl (Sto.ofV Ar5 q5 Q1 (Ins.self (E_1.ext O3.2))) (g := (mkF m 16 #[.val (.int p0), .unset, .unset, .unset] [(.ref w1), (.int (1 : Int32)), (.ref b1), (.ref b1)])) rfl rfl (hb hby at_16)
  have V5 : Arv Z h5 b1 k1 (.object "com/example/placerfill/placerfill/OrderAction") (10 : Int32) [(.ref w0), (.ref w1), .null, .null, .null, .null, .null, .null, .null, .null] .null := Arv.set Ar5 q5 S5 M5 Hh5 G5 rfl W5 1 (by decide) (Nat.le_of_ble_eq_true rfl)
  have O5 := O3.wr W5 g_b1
  have N5 := Fr.snoc X5 N3 g_b1
  have K5 := K3.wr W5 (Or.inr sz_b1)
  refine own_by st5 ?_
  show own_Go p e below s _ _ (T5.setTop (mkF m 17 #[.val (.int p0), .unset, .unset, .unset] [(.ref b1)]))
  refine own_by (fun tz kz => XS.dup X5.here hx rfl (hb hby at_17) rfl rfl kz) ?_
  show own_Go p e below s _ _ (T5.setTop (mkF m 18 #[.val (.int p0), .unset, .unset, .unset] [(.ref b1), (.ref b1)]))
  refine own_by (fun tz kz => XS.iconst X5.here hx rfl (hb hby at_18) kz) ?_
  show own_Go p e below s _ _ (T5.setTop (mkF m 19 #[.val (.int p0), .unset, .unset, .unset] [(.int (2 : Int32)), (.ref b1), (.ref b1)]))
  obtain ⟨T6, X6, e6, st6⟩ := getS2 X5 hx hZ hown (host := "") (Or.inl (hw _ (List.mem_of_getElem? (i := 9) rfl))) Via.refl e5 (S_2.ext O5.2) (g := (mkF m 19 #[.val (.int p0), .unset, .unset, .unset] [(.int (2 : Int32)), (.ref b1), (.ref b1)])) rfl (hb hby at_19)
  refine own_by st6 ?_
  show own_Go p e below s _ _ (T6.setTop (mkF m 22 #[.val (.int p0), .unset, .unset, .unset] [(.ref w2), (.int (2 : Int32)), (.ref b1), (.ref b1)]))
  obtain ⟨c7, Ar7, q7, S7, M7, Hh7, G7⟩ := id V5
  have hin7 : ¬ ((2 : Int32) < 0 ∨ c7.slots.size ≤ ((2 : Int32)).toNatClampNeg) := inb_of S7 ⟨by decide, by decide⟩
  obtain ⟨T7, h7, X7, e7, W7, st7⟩ := stR X6 hx hZ e6 Ar7 (j := (2 : Int32)) hin7 rfl (Sto.ofV Ar7 q7 Q1 (Ins.self (E_2.ext O5.2))) (g := (mkF m 22 #[.val (.int p0), .unset, .unset, .unset] [(.ref w2), (.int (2 : Int32)), (.ref b1), (.ref b1)])) rfl rfl (hb hby at_22)
  have V7 : Arv Z h7 b1 k1 (.object "com/example/placerfill/placerfill/OrderAction") (10 : Int32) [(.ref w0), (.ref w1), (.ref w2), .null, .null, .null, .null, .null, .null, .null] .null := Arv.set Ar7 q7 S7 M7 Hh7 G7 rfl W7 2 (by decide) (Nat.le_of_ble_eq_true rfl)
  have O7 := O5.wr W7 g_b1
  have N7 := Fr.snoc X7 N5 g_b1
  have K7 := K5.wr W7 (Or.inr sz_b1)
  refine own_by st7 ?_
  show own_Go p e below s _ _ (T7.setTop (mkF m 23 #[.val (.int p0), .unset, .unset, .unset] [(.ref b1)]))
  refine own_by (fun tz kz => XS.dup X7.here hx rfl (hb hby at_23) rfl rfl kz) ?_
  show own_Go p e below s _ _ (T7.setTop (mkF m 24 #[.val (.int p0), .unset, .unset, .unset] [(.ref b1), (.ref b1)]))
  refine own_by (fun tz kz => XS.iconst X7.here hx rfl (hb hby at_24) kz) ?_
  show own_Go p e below s _ _ (T7.setTop (mkF m 25 #[.val (.int p0), .unset, .unset, .unset] [(.int (3 : Int32)), (.ref b1), (.ref b1)]))
  obtain ⟨T8, X8, e8, st8⟩ := getS2 X7 hx hZ hown (host := "") (Or.inl (hw _ (List.mem_of_getElem? (i := 11) rfl))) Via.refl e7 (S_3.ext O7.2) (g := (mkF m 25 #[.val (.int p0), .unset, .unset, .unset] [(.int (3 : Int32)), (.ref b1), (.ref b1)])) rfl (hb hby at_25)
  refine own_by st8 ?_
  show own_Go p e below s _ _ (T8.setTop (mkF m 28 #[.val (.int p0), .unset, .unset, .unset] [(.ref w3), (.int (3 : Int32)), (.ref b1), (.ref b1)]))
  obtain ⟨c9, Ar9, q9, S9, M9, Hh9, G9⟩ := id V7
  have hin9 : ¬ ((3 : Int32) < 0 ∨ c9.slots.size ≤ ((3 : Int32)).toNatClampNeg) := inb_of S9 ⟨by decide, by decide⟩
  obtain ⟨T9, h9, X9, e9, W9, st9⟩ := stR X8 hx hZ e8 Ar9 (j := (3 : Int32)) hin9 rfl (Sto.ofV Ar9 q9 Q1 (Ins.self (E_3.ext O7.2))) (g := (mkF m 28 #[.val (.int p0), .unset, .unset, .unset] [(.ref w3), (.int (3 : Int32)), (.ref b1), (.ref b1)])) rfl rfl (hb hby at_28)
  have V9 : Arv Z h9 b1 k1 (.object "com/example/placerfill/placerfill/OrderAction") (10 : Int32) [(.ref w0), (.ref w1), (.ref w2), (.ref w3), .null, .null, .null, .null, .null, .null] .null := Arv.set Ar9 q9 S9 M9 Hh9 G9 rfl W9 3 (by decide) (Nat.le_of_ble_eq_true rfl)
  have O9 := O7.wr W9 g_b1
  have N9 := Fr.snoc X9 N7 g_b1
  have K9 := K7.wr W9 (Or.inr sz_b1)
  refine own_by st9 ?_
  show own_Go p e below s _ _ (T9.setTop (mkF m 29 #[.val (.int p0), .unset, .unset, .unset] [(.ref b1)]))
  refine own_by (fun tz kz => XS.dup X9.here hx rfl (hb hby at_29) rfl rfl kz) ?_
  show own_Go p e below s _ _ (T9.setTop (mkF m 30 #[.val (.int p0), .unset, .unset, .unset] [(.ref b1), (.ref b1)]))
  refine own_by (fun tz kz => XS.iconst X9.here hx rfl (hb hby at_30) kz) ?_
  show own_Go p e below s _ _ (T9.setTop (mkF m 31 #[.val (.int p0), .unset, .unset, .unset] [(.int (4 : Int32)), (.ref b1), (.ref b1)]))
  obtain ⟨T10, X10, e10, st10⟩ := getS2 X9 hx hZ hown (host := "") (Or.inl (hw _ (List.mem_of_getElem? (i := 13) rfl))) Via.refl e9 (S_4.ext O9.2) (g := (mkF m 31 #[.val (.int p0), .unset, .unset, .unset] [(.int (4 : Int32)), (.ref b1), (.ref b1)])) rfl (hb hby at_31)
  refine own_by st10 ?_
  show own_Go p e below s _ _ (T10.setTop (mkF m 34 #[.val (.int p0), .unset, .unset, .unset] [(.ref w4), (.int (4 : Int32)), (.ref b1), (.ref b1)]))
  obtain ⟨c11, Ar11, q11, S11, M11, Hh11, G11⟩ := id V9
  have hin11 : ¬ ((4 : Int32) < 0 ∨ c11.slots.size ≤ ((4 : Int32)).toNatClampNeg) := inb_of S11 ⟨by decide, by decide⟩
  obtain ⟨T11, h11, X11, e11, W11, st11⟩ := stR X10 hx hZ e10 Ar11 (j := (4 : Int32)) hin11 rfl (Sto.ofV Ar11 q11 Q1 (Ins.self (E_4.ext O9.2))) (g := (mkF m 34 #[.val (.int p0), .unset, .unset, .unset] [(.ref w4), (.int (4 : Int32)), (.ref b1), (.ref b1)])) rfl rfl (hb hby at_34)
  have V11 : Arv Z h11 b1 k1 (.object "com/example/placerfill/placerfill/OrderAction") (10 : Int32) [(.ref w0), (.ref w1), (.ref w2), (.ref w3), (.ref w4), .null, .null, .null, .null, .null] .null := Arv.set Ar11 q11 S11 M11 Hh11 G11 rfl W11 4 (by decide) (Nat.le_of_ble_eq_true rfl)
  have O11 := O9.wr W11 g_b1
  have N11 := Fr.snoc X11 N9 g_b1
  have K11 := K9.wr W11 (Or.inr sz_b1)
  refine own_by st11 ?_
  show own_Go p e below s _ _ (T11.setTop (mkF m 35 #[.val (.int p0), .unset, .unset, .unset] [(.ref b1)]))
  refine own_by (fun tz kz => XS.dup X11.here hx rfl (hb hby at_35) rfl rfl kz) ?_
  show own_Go p e below s _ _ (T11.setTop (mkF m 36 #[.val (.int p0), .unset, .unset, .unset] [(.ref b1), (.ref b1)]))
  refine own_by (fun tz kz => XS.iconst X11.here hx rfl (hb hby at_36) kz) ?_
  show own_Go p e below s _ _ (T11.setTop (mkF m 37 #[.val (.int p0), .unset, .unset, .unset] [(.int (5 : Int32)), (.ref b1), (.ref b1)]))
  obtain ⟨T12, X12, e12, st12⟩ := getS2 X11 hx hZ hown (host := "") (Or.inl (hw _ (List.mem_of_getElem? (i := 15) rfl))) Via.refl e11 (S_5.ext O11.2) (g := (mkF m 37 #[.val (.int p0), .unset, .unset, .unset] [(.int (5 : Int32)), (.ref b1), (.ref b1)])) rfl (hb hby at_37)
  refine own_by st12 ?_
  show own_Go p e below s _ _ (T12.setTop (mkF m 40 #[.val (.int p0), .unset, .unset, .unset] [(.ref w5), (.int (5 : Int32)), (.ref b1), (.ref b1)]))
  obtain ⟨c13, Ar13, q13, S13, M13, Hh13, G13⟩ := id V11
  have hin13 : ¬ ((5 : Int32) < 0 ∨ c13.slots.size ≤ ((5 : Int32)).toNatClampNeg) := inb_of S13 ⟨by decide, by decide⟩
  obtain ⟨T13, h13, X13, e13, W13, st13⟩ := stR X12 hx hZ e12 Ar13 (j := (5 : Int32)) hin13 rfl (Sto.ofV Ar13 q13 Q1 (Ins.of_exa (E_5.ext O11.2) (hw _ (List.mem_of_getElem? (i := 17) rfl)))) (g := (mkF m 40 #[.val (.int p0), .unset, .unset, .unset] [(.ref w5), (.int (5 : Int32)), (.ref b1), (.ref b1)])) rfl rfl (hb hby at_40)
  have V13 : Arv Z h13 b1 k1 (.object "com/example/placerfill/placerfill/OrderAction") (10 : Int32) [(.ref w0), (.ref w1), (.ref w2), (.ref w3), (.ref w4), (.ref w5), .null, .null, .null, .null] .null := Arv.set Ar13 q13 S13 M13 Hh13 G13 rfl W13 5 (by decide) (Nat.le_of_ble_eq_true rfl)
  have O13 := O11.wr W13 g_b1
  have N13 := Fr.snoc X13 N11 g_b1
  have K13 := K11.wr W13 (Or.inr sz_b1)
  refine own_by st13 ?_
  show own_Go p e below s _ _ (T13.setTop (mkF m 41 #[.val (.int p0), .unset, .unset, .unset] [(.ref b1)]))
  refine own_by (fun tz kz => XS.dup X13.here hx rfl (hb hby at_41) rfl rfl kz) ?_
  show own_Go p e below s _ _ (T13.setTop (mkF m 42 #[.val (.int p0), .unset, .unset, .unset] [(.ref b1), (.ref b1)]))
  refine own_by (fun tz kz => XS.bipush X13.here hx rfl (hb hby at_42) kz) ?_
  show own_Go p e below s _ _ (T13.setTop (mkF m 44 #[.val (.int p0), .unset, .unset, .unset] [(.int (6 : Int32)), (.ref b1), (.ref b1)]))
  obtain ⟨T14, X14, e14, st14⟩ := getS2 X13 hx hZ hown (host := "") (Or.inl (hw _ (List.mem_of_getElem? (i := 18) rfl))) Via.refl e13 (S_6.ext O13.2) (g := (mkF m 44 #[.val (.int p0), .unset, .unset, .unset] [(.int (6 : Int32)), (.ref b1), (.ref b1)])) rfl (hb hby at_44)
  refine own_by st14 ?_
  show own_Go p e below s _ _ (T14.setTop (mkF m 47 #[.val (.int p0), .unset, .unset, .unset] [(.ref w6), (.int (6 : Int32)), (.ref b1), (.ref b1)]))
  obtain ⟨c15, Ar15, q15, S15, M15, Hh15, G15⟩ := id V13
  have hin15 : ¬ ((6 : Int32) < 0 ∨ c15.slots.size ≤ ((6 : Int32)).toNatClampNeg) := inb_of S15 ⟨by decide, by decide⟩
  obtain ⟨T15, h15, X15, e15, W15, st15⟩ := stR X14 hx hZ e14 Ar15 (j := (6 : Int32)) hin15 rfl (Sto.ofV Ar15 q15 Q1 (Ins.self (E_6.ext O13.2))) (g := (mkF m 47 #[.val (.int p0), .unset, .unset, .unset] [(.ref w6), (.int (6 : Int32)), (.ref b1), (.ref b1)])) rfl rfl (hb hby at_47)
  have V15 : Arv Z h15 b1 k1 (.object "com/example/placerfill/placerfill/OrderAction") (10 : Int32) [(.ref w0), (.ref w1), (.ref w2), (.ref w3), (.ref w4), (.ref w5), (.ref w6), .null, .null, .null] .null := Arv.set Ar15 q15 S15 M15 Hh15 G15 rfl W15 6 (by decide) (Nat.le_of_ble_eq_true rfl)
  have O15 := O13.wr W15 g_b1
  have N15 := Fr.snoc X15 N13 g_b1
  have K15 := K13.wr W15 (Or.inr sz_b1)
  refine own_by st15 ?_
  show own_Go p e below s _ _ (T15.setTop (mkF m 48 #[.val (.int p0), .unset, .unset, .unset] [(.ref b1)]))
  refine own_by (fun tz kz => XS.dup X15.here hx rfl (hb hby at_48) rfl rfl kz) ?_
  show own_Go p e below s _ _ (T15.setTop (mkF m 49 #[.val (.int p0), .unset, .unset, .unset] [(.ref b1), (.ref b1)]))
  refine own_by (fun tz kz => XS.bipush X15.here hx rfl (hb hby at_49) kz) ?_
  show own_Go p e below s _ _ (T15.setTop (mkF m 51 #[.val (.int p0), .unset, .unset, .unset] [(.int (7 : Int32)), (.ref b1), (.ref b1)]))
  obtain ⟨T16, X16, e16, st16⟩ := getS2 X15 hx hZ hown (host := "") (Or.inl (hw _ (List.mem_of_getElem? (i := 20) rfl))) Via.refl e15 (S_7.ext O15.2) (g := (mkF m 51 #[.val (.int p0), .unset, .unset, .unset] [(.int (7 : Int32)), (.ref b1), (.ref b1)])) rfl (hb hby at_51)
  refine own_by st16 ?_
  show own_Go p e below s _ _ (T16.setTop (mkF m 54 #[.val (.int p0), .unset, .unset, .unset] [(.ref w7), (.int (7 : Int32)), (.ref b1), (.ref b1)]))
  obtain ⟨c17, Ar17, q17, S17, M17, Hh17, G17⟩ := id V15
  have hin17 : ¬ ((7 : Int32) < 0 ∨ c17.slots.size ≤ ((7 : Int32)).toNatClampNeg) := inb_of S17 ⟨by decide, by decide⟩
  obtain ⟨T17, h17, X17, e17, W17, st17⟩ := stR X16 hx hZ e16 Ar17 (j := (7 : Int32)) hin17 rfl (Sto.ofV Ar17 q17 Q1 (Ins.of_exa (E_7.ext O15.2) (hw _ (List.mem_of_getElem? (i := 22) rfl)))) (g := (mkF m 54 #[.val (.int p0), .unset, .unset, .unset] [(.ref w7), (.int (7 : Int32)), (.ref b1), (.ref b1)])) rfl rfl (hb hby at_54)
  have V17 : Arv Z h17 b1 k1 (.object "com/example/placerfill/placerfill/OrderAction") (10 : Int32) [(.ref w0), (.ref w1), (.ref w2), (.ref w3), (.ref w4), (.ref w5), (.ref w6), (.ref w7), .null, .null] .null := Arv.set Ar17 q17 S17 M17 Hh17 G17 rfl W17 7 (by decide) (Nat.le_of_ble_eq_true rfl)
  have O17 := O15.wr W17 g_b1
  have N17 := Fr.snoc X17 N15 g_b1
  have K17 := K15.wr W17 (Or.inr sz_b1)
  refine own_by st17 ?_
  show own_Go p e below s _ _ (T17.setTop (mkF m 55 #[.val (.int p0), .unset, .unset, .unset] [(.ref b1)]))
  refine own_by (fun tz kz => XS.dup X17.here hx rfl (hb hby at_55) rfl rfl kz) ?_
  show own_Go p e below s _ _ (T17.setTop (mkF m 56 #[.val (.int p0), .unset, .unset, .unset] [(.ref b1), (.ref b1)]))
  refine own_by (fun tz kz => XS.bipush X17.here hx rfl (hb hby at_56) kz) ?_
  show own_Go p e below s _ _ (T17.setTop (mkF m 58 #[.val (.int p0), .unset, .unset, .unset] [(.int (8 : Int32)), (.ref b1), (.ref b1)]))
  obtain ⟨T18, X18, e18, st18⟩ := getS2 X17 hx hZ hown (host := "") (Or.inl (hw _ (List.mem_of_getElem? (i := 23) rfl))) Via.refl e17 (S_8.ext O17.2) (g := (mkF m 58 #[.val (.int p0), .unset, .unset, .unset] [(.int (8 : Int32)), (.ref b1), (.ref b1)])) rfl (hb hby at_58)
  refine own_by st18 ?_
  show own_Go p e below s _ _ (T18.setTop (mkF m 61 #[.val (.int p0), .unset, .unset, .unset] [(.ref w8), (.int (8 : Int32)), (.ref b1), (.ref b1)]))
  obtain ⟨c19, Ar19, q19, S19, M19, Hh19, G19⟩ := id V17
  have hin19 : ¬ ((8 : Int32) < 0 ∨ c19.slots.size ≤ ((8 : Int32)).toNatClampNeg) := inb_of S19 ⟨by decide, by decide⟩
  obtain ⟨T19, h19, X19, e19, W19, st19⟩ := stR X18 hx hZ e18 Ar19 (j := (8 : Int32)) hin19 rfl (Sto.ofV Ar19 q19 Q1 (Ins.self (E_8.ext O17.2))) (g := (mkF m 61 #[.val (.int p0), .unset, .unset, .unset] [(.ref w8), (.int (8 : Int32)), (.ref b1), (.ref b1)])) rfl rfl (hb hby at_61)
  have V19 : Arv Z h19 b1 k1 (.object "com/example/placerfill/placerfill/OrderAction") (10 : Int32) [(.ref w0), (.ref w1), (.ref w2), (.ref w3), (.ref w4), (.ref w5), (.ref w6), (.ref w7), (.ref w8), .null] .null := Arv.set Ar19 q19 S19 M19 Hh19 G19 rfl W19 8 (by decide) (Nat.le_of_ble_eq_true rfl)
  have O19 := O17.wr W19 g_b1
  have N19 := Fr.snoc X19 N17 g_b1
  have K19 := K17.wr W19 (Or.inr sz_b1)
  refine own_by st19 ?_
  show own_Go p e below s _ _ (T19.setTop (mkF m 62 #[.val (.int p0), .unset, .unset, .unset] [(.ref b1)]))
  refine own_by (fun tz kz => XS.dup X19.here hx rfl (hb hby at_62) rfl rfl kz) ?_
  show own_Go p e below s _ _ (T19.setTop (mkF m 63 #[.val (.int p0), .unset, .unset, .unset] [(.ref b1), (.ref b1)]))
  refine own_by (fun tz kz => XS.bipush X19.here hx rfl (hb hby at_63) kz) ?_
  show own_Go p e below s _ _ (T19.setTop (mkF m 65 #[.val (.int p0), .unset, .unset, .unset] [(.int (9 : Int32)), (.ref b1), (.ref b1)]))
  obtain ⟨T20, X20, e20, st20⟩ := getS2 X19 hx hZ hown (host := "") (Or.inl (hw _ (List.mem_of_getElem? (i := 25) rfl))) Via.refl e19 (S_9.ext O19.2) (g := (mkF m 65 #[.val (.int p0), .unset, .unset, .unset] [(.int (9 : Int32)), (.ref b1), (.ref b1)])) rfl (hb hby at_65)
  refine own_by st20 ?_
  show own_Go p e below s _ _ (T20.setTop (mkF m 68 #[.val (.int p0), .unset, .unset, .unset] [(.ref w9), (.int (9 : Int32)), (.ref b1), (.ref b1)]))
  obtain ⟨c21, Ar21, q21, S21, M21, Hh21, G21⟩ := id V19
  have hin21 : ¬ ((9 : Int32) < 0 ∨ c21.slots.size ≤ ((9 : Int32)).toNatClampNeg) := inb_of S21 ⟨by decide, by decide⟩
  obtain ⟨T21, h21, X21, e21, W21, st21⟩ := stR X20 hx hZ e20 Ar21 (j := (9 : Int32)) hin21 rfl (Sto.ofV Ar21 q21 Q1 (Ins.of_exa (E_9.ext O19.2) (hw _ (List.mem_of_getElem? (i := 27) rfl)))) (g := (mkF m 68 #[.val (.int p0), .unset, .unset, .unset] [(.ref w9), (.int (9 : Int32)), (.ref b1), (.ref b1)])) rfl rfl (hb hby at_68)
  have V21 : Arv Z h21 b1 k1 (.object "com/example/placerfill/placerfill/OrderAction") (10 : Int32) [(.ref w0), (.ref w1), (.ref w2), (.ref w3), (.ref w4), (.ref w5), (.ref w6), (.ref w7), (.ref w8), (.ref w9)] .null := Arv.set Ar21 q21 S21 M21 Hh21 G21 rfl W21 9 (by decide) (Nat.le_of_ble_eq_true rfl)
  have O21 := O19.wr W21 g_b1
  have N21 := Fr.snoc X21 N19 g_b1
  have K21 := K19.wr W21 (Or.inr sz_b1)
  refine own_by st21 ?_
  show own_Go p e below s _ _ (T21.setTop (mkF m 69 #[.val (.int p0), .unset, .unset, .unset] [(.ref b1)]))
  refine own_by (fun tz kz => XS.astoreN X21.here hx rfl (hb hby at_69) rfl rfl (l' := #[.val (.int p0), .val (.ref b1), .unset, .unset]) rfl kz) ?_
  show own_Go p e below s _ _ (T21.setTop (mkF m 70 #[.val (.int p0), .val (.ref b1), .unset, .unset] []))
  refine own_by (fun tz kz => XS.bipush X21.here hx rfl (hb hby at_70) kz) ?_
  show own_Go p e below s _ _ (T21.setTop (mkF m 72 #[.val (.int p0), .val (.ref b1), .unset, .unset] [(.int (10 : Int32))]))
  obtain ⟨T22, h22, k22, X22, e22, E22, A22, st22⟩ := newP X21 hx hZ (hw _ (List.mem_of_getElem? (i := 28) rfl)) e21 (g := (mkF m 72 #[.val (.int p0), .val (.ref b1), .unset, .unset] [(.int (10 : Int32))])) rfl (hb hby at_72) rfl (by decide) (cap := 10) (by decide) (by decide) (by decide) (by decide)
  obtain ⟨b22, g22⟩ : ∃ z, z = h21.size := ⟨_, rfl⟩
  have ne_b1_b22 : b1 ≠ b22 := by rw [g22]; exact Nat.ne_of_lt (Arv.lt V21)
  rw [← g22] at A22 st22
  have g_b22 : n0 ≤ b22 := by rw [g22]; exact O21.1 ▸ O21.2.1
  have sz_b22 : h0.size ≤ b22 := by rw [g22]; exact K21.1
  have O22 := O21.ext E22
  have K22 := K21.ext E22
  refine own_by st22 ?_
  have V22 : Arv Z h22 b22 k22 .boolean (10 : Int32) [(.int (0 : Int32)), (.int (0 : Int32)), (.int (0 : Int32)), (.int (0 : Int32)), (.int (0 : Int32)), (.int (0 : Int32)), (.int (0 : Int32)), (.int (0 : Int32)), (.int (0 : Int32)), (.int (0 : Int32))] (.int (0 : Int32)) := (Arv.new A22 (by decide)).pad (pad_rep [] (.int (0 : Int32)) 10)
  show own_Go p e below s _ _ (T22.setTop (mkF m 74 #[.val (.int p0), .val (.ref b1), .unset, .unset] [(.ref b22)]))
  refine own_by (fun tz kz => XS.dup X22.here hx rfl (hb hby at_74) rfl rfl kz) ?_
  show own_Go p e below s _ _ (T22.setTop (mkF m 75 #[.val (.int p0), .val (.ref b1), .unset, .unset] [(.ref b22), (.ref b22)]))
  refine own_by (fun tz kz => XS.iconst X22.here hx rfl (hb hby at_75) kz) ?_
  show own_Go p e below s _ _ (T22.setTop (mkF m 76 #[.val (.int p0), .val (.ref b1), .unset, .unset] [(.int (0 : Int32)), (.ref b22), (.ref b22)]))
  refine own_by (fun tz kz => XS.iconst X22.here hx rfl (hb hby at_76) kz) ?_
  show own_Go p e below s _ _ (T22.setTop (mkF m 77 #[.val (.int p0), .val (.ref b1), .unset, .unset] [(.int (0 : Int32)), (.int (0 : Int32)), (.ref b22), (.ref b22)]))
  obtain ⟨c23, Ar23, q23, S23, M23, Hh23, G23⟩ := id V22
  have hin23 : ¬ ((0 : Int32) < 0 ∨ c23.slots.size ≤ ((0 : Int32)).toNatClampNeg) := inb_of S23 ⟨by decide, by decide⟩
  obtain ⟨T23, h23, X23, e23, W23, st23⟩ := stZ X22 hx hZ e22 Ar23 (j := (0 : Int32)) hin23 (g := (mkF m 77 #[.val (.int p0), .val (.ref b1), .unset, .unset] [(.int (0 : Int32)), (.int (0 : Int32)), (.ref b22), (.ref b22)])) rfl rfl (hb hby at_77)
  have V23 : Arv Z h23 b22 k22 .boolean (10 : Int32) [(.int (0 : Int32)), (.int (0 : Int32)), (.int (0 : Int32)), (.int (0 : Int32)), (.int (0 : Int32)), (.int (0 : Int32)), (.int (0 : Int32)), (.int (0 : Int32)), (.int (0 : Int32)), (.int (0 : Int32))] (.int (0 : Int32)) := Arv.set Ar23 q23 S23 M23 Hh23 G23 rfl W23 0 (by decide) (Nat.le_of_ble_eq_true rfl)
  have O23 := O22.wr W23 g_b22
  have N23 := Fr.snoc X23 N21 g_b22
  have K23 := K22.wr W23 (Or.inr sz_b22)
  refine own_by st23 ?_
  show own_Go p e below s _ _ (T23.setTop (mkF m 78 #[.val (.int p0), .val (.ref b1), .unset, .unset] [(.ref b22)]))
  refine own_by (fun tz kz => XS.dup X23.here hx rfl (hb hby at_78) rfl rfl kz) ?_
  show own_Go p e below s _ _ (T23.setTop (mkF m 79 #[.val (.int p0), .val (.ref b1), .unset, .unset] [(.ref b22), (.ref b22)]))
  refine own_by (fun tz kz => XS.iconst X23.here hx rfl (hb hby at_79) kz) ?_
  show own_Go p e below s _ _ (T23.setTop (mkF m 80 #[.val (.int p0), .val (.ref b1), .unset, .unset] [(.int (1 : Int32)), (.ref b22), (.ref b22)]))
  refine own_by (fun tz kz => XS.iconst X23.here hx rfl (hb hby at_80) kz) ?_
  show own_Go p e below s _ _ (T23.setTop (mkF m 81 #[.val (.int p0), .val (.ref b1), .unset, .unset] [(.int (1 : Int32)), (.int (1 : Int32)), (.ref b22), (.ref b22)]))
  obtain ⟨c24, Ar24, q24, S24, M24, Hh24, G24⟩ := id V23
  have hin24 : ¬ ((1 : Int32) < 0 ∨ c24.slots.size ≤ ((1 : Int32)).toNatClampNeg) := inb_of S24 ⟨by decide, by decide⟩
  obtain ⟨T24, h24, X24, e24, W24, st24⟩ := stZ X23 hx hZ e23 Ar24 (j := (1 : Int32)) hin24 (g := (mkF m 81 #[.val (.int p0), .val (.ref b1), .unset, .unset] [(.int (1 : Int32)), (.int (1 : Int32)), (.ref b22), (.ref b22)])) rfl rfl (hb hby at_81)
  have V24 : Arv Z h24 b22 k22 .boolean (10 : Int32) [(.int (0 : Int32)), (.int (1 : Int32)), (.int (0 : Int32)), (.int (0 : Int32)), (.int (0 : Int32)), (.int (0 : Int32)), (.int (0 : Int32)), (.int (0 : Int32)), (.int (0 : Int32)), (.int (0 : Int32))] (.int (0 : Int32)) := Arv.set Ar24 q24 S24 M24 Hh24 G24 rfl W24 1 (by decide) (Nat.le_of_ble_eq_true rfl)
  have O24 := O23.wr W24 g_b22
  have N24 := Fr.snoc X24 N23 g_b22
  have K24 := K23.wr W24 (Or.inr sz_b22)
  refine own_by st24 ?_
  show own_Go p e below s _ _ (T24.setTop (mkF m 82 #[.val (.int p0), .val (.ref b1), .unset, .unset] [(.ref b22)]))
  refine own_by (fun tz kz => XS.dup X24.here hx rfl (hb hby at_82) rfl rfl kz) ?_
  show own_Go p e below s _ _ (T24.setTop (mkF m 83 #[.val (.int p0), .val (.ref b1), .unset, .unset] [(.ref b22), (.ref b22)]))
  refine own_by (fun tz kz => XS.iconst X24.here hx rfl (hb hby at_83) kz) ?_
  show own_Go p e below s _ _ (T24.setTop (mkF m 84 #[.val (.int p0), .val (.ref b1), .unset, .unset] [(.int (2 : Int32)), (.ref b22), (.ref b22)]))
  refine own_by (fun tz kz => XS.iconst X24.here hx rfl (hb hby at_84) kz) ?_
  show own_Go p e below s _ _ (T24.setTop (mkF m 85 #[.val (.int p0), .val (.ref b1), .unset, .unset] [(.int (1 : Int32)), (.int (2 : Int32)), (.ref b22), (.ref b22)]))
  obtain ⟨c25, Ar25, q25, S25, M25, Hh25, G25⟩ := id V24
  have hin25 : ¬ ((2 : Int32) < 0 ∨ c25.slots.size ≤ ((2 : Int32)).toNatClampNeg) := inb_of S25 ⟨by decide, by decide⟩
  obtain ⟨T25, h25, X25, e25, W25, st25⟩ := stZ X24 hx hZ e24 Ar25 (j := (2 : Int32)) hin25 (g := (mkF m 85 #[.val (.int p0), .val (.ref b1), .unset, .unset] [(.int (1 : Int32)), (.int (2 : Int32)), (.ref b22), (.ref b22)])) rfl rfl (hb hby at_85)
  have V25 : Arv Z h25 b22 k22 .boolean (10 : Int32) [(.int (0 : Int32)), (.int (1 : Int32)), (.int (1 : Int32)), (.int (0 : Int32)), (.int (0 : Int32)), (.int (0 : Int32)), (.int (0 : Int32)), (.int (0 : Int32)), (.int (0 : Int32)), (.int (0 : Int32))] (.int (0 : Int32)) := Arv.set Ar25 q25 S25 M25 Hh25 G25 rfl W25 2 (by decide) (Nat.le_of_ble_eq_true rfl)
  have O25 := O24.wr W25 g_b22
  have N25 := Fr.snoc X25 N24 g_b22
  have K25 := K24.wr W25 (Or.inr sz_b22)
  refine own_by st25 ?_
  show own_Go p e below s _ _ (T25.setTop (mkF m 86 #[.val (.int p0), .val (.ref b1), .unset, .unset] [(.ref b22)]))
  refine own_by (fun tz kz => XS.dup X25.here hx rfl (hb hby at_86) rfl rfl kz) ?_
  show own_Go p e below s _ _ (T25.setTop (mkF m 87 #[.val (.int p0), .val (.ref b1), .unset, .unset] [(.ref b22), (.ref b22)]))
  refine own_by (fun tz kz => XS.iconst X25.here hx rfl (hb hby at_87) kz) ?_
  show own_Go p e below s _ _ (T25.setTop (mkF m 88 #[.val (.int p0), .val (.ref b1), .unset, .unset] [(.int (3 : Int32)), (.ref b22), (.ref b22)]))
  refine own_by (fun tz kz => XS.iconst X25.here hx rfl (hb hby at_88) kz) ?_
  show own_Go p e below s _ _ (T25.setTop (mkF m 89 #[.val (.int p0), .val (.ref b1), .unset, .unset] [(.int (1 : Int32)), (.int (3 : Int32)), (.ref b22), (.ref b22)]))
  obtain ⟨c26, Ar26, q26, S26, M26, Hh26, G26⟩ := id V25
  have hin26 : ¬ ((3 : Int32) < 0 ∨ c26.slots.size ≤ ((3 : Int32)).toNatClampNeg) := inb_of S26 ⟨by decide, by decide⟩
  obtain ⟨T26, h26, X26, e26, W26, st26⟩ := stZ X25 hx hZ e25 Ar26 (j := (3 : Int32)) hin26 (g := (mkF m 89 #[.val (.int p0), .val (.ref b1), .unset, .unset] [(.int (1 : Int32)), (.int (3 : Int32)), (.ref b22), (.ref b22)])) rfl rfl (hb hby at_89)
  have V26 : Arv Z h26 b22 k22 .boolean (10 : Int32) [(.int (0 : Int32)), (.int (1 : Int32)), (.int (1 : Int32)), (.int (1 : Int32)), (.int (0 : Int32)), (.int (0 : Int32)), (.int (0 : Int32)), (.int (0 : Int32)), (.int (0 : Int32)), (.int (0 : Int32))] (.int (0 : Int32)) := Arv.set Ar26 q26 S26 M26 Hh26 G26 rfl W26 3 (by decide) (Nat.le_of_ble_eq_true rfl)
  have O26 := O25.wr W26 g_b22
  have N26 := Fr.snoc X26 N25 g_b22
  have K26 := K25.wr W26 (Or.inr sz_b22)
  refine own_by st26 ?_
  show own_Go p e below s _ _ (T26.setTop (mkF m 90 #[.val (.int p0), .val (.ref b1), .unset, .unset] [(.ref b22)]))
  refine own_by (fun tz kz => XS.dup X26.here hx rfl (hb hby at_90) rfl rfl kz) ?_
  show own_Go p e below s _ _ (T26.setTop (mkF m 91 #[.val (.int p0), .val (.ref b1), .unset, .unset] [(.ref b22), (.ref b22)]))
  refine own_by (fun tz kz => XS.iconst X26.here hx rfl (hb hby at_91) kz) ?_
  show own_Go p e below s _ _ (T26.setTop (mkF m 92 #[.val (.int p0), .val (.ref b1), .unset, .unset] [(.int (4 : Int32)), (.ref b22), (.ref b22)]))
  refine own_by (fun tz kz => XS.iconst X26.here hx rfl (hb hby at_92) kz) ?_
  show own_Go p e below s _ _ (T26.setTop (mkF m 93 #[.val (.int p0), .val (.ref b1), .unset, .unset] [(.int (1 : Int32)), (.int (4 : Int32)), (.ref b22), (.ref b22)]))
  obtain ⟨c27, Ar27, q27, S27, M27, Hh27, G27⟩ := id V26
  have hin27 : ¬ ((4 : Int32) < 0 ∨ c27.slots.size ≤ ((4 : Int32)).toNatClampNeg) := inb_of S27 ⟨by decide, by decide⟩
  obtain ⟨T27, h27, X27, e27, W27, st27⟩ := stZ X26 hx hZ e26 Ar27 (j := (4 : Int32)) hin27 (g := (mkF m 93 #[.val (.int p0), .val (.ref b1), .unset, .unset] [(.int (1 : Int32)), (.int (4 : Int32)), (.ref b22), (.ref b22)])) rfl rfl (hb hby at_93)
  have V27 : Arv Z h27 b22 k22 .boolean (10 : Int32) [(.int (0 : Int32)), (.int (1 : Int32)), (.int (1 : Int32)), (.int (1 : Int32)), (.int (1 : Int32)), (.int (0 : Int32)), (.int (0 : Int32)), (.int (0 : Int32)), (.int (0 : Int32)), (.int (0 : Int32))] (.int (0 : Int32)) := Arv.set Ar27 q27 S27 M27 Hh27 G27 rfl W27 4 (by decide) (Nat.le_of_ble_eq_true rfl)
  have O27 := O26.wr W27 g_b22
  have N27 := Fr.snoc X27 N26 g_b22
  have K27 := K26.wr W27 (Or.inr sz_b22)
  refine own_by st27 ?_
  show own_Go p e below s _ _ (T27.setTop (mkF m 94 #[.val (.int p0), .val (.ref b1), .unset, .unset] [(.ref b22)]))
  refine own_by (fun tz kz => XS.dup X27.here hx rfl (hb hby at_94) rfl rfl kz) ?_
  show own_Go p e below s _ _ (T27.setTop (mkF m 95 #[.val (.int p0), .val (.ref b1), .unset, .unset] [(.ref b22), (.ref b22)]))
  refine own_by (fun tz kz => XS.iconst X27.here hx rfl (hb hby at_95) kz) ?_
  show own_Go p e below s _ _ (T27.setTop (mkF m 96 #[.val (.int p0), .val (.ref b1), .unset, .unset] [(.int (5 : Int32)), (.ref b22), (.ref b22)]))
  refine own_by (fun tz kz => XS.iconst X27.here hx rfl (hb hby at_96) kz) ?_
  show own_Go p e below s _ _ (T27.setTop (mkF m 97 #[.val (.int p0), .val (.ref b1), .unset, .unset] [(.int (1 : Int32)), (.int (5 : Int32)), (.ref b22), (.ref b22)]))
  obtain ⟨c28, Ar28, q28, S28, M28, Hh28, G28⟩ := id V27
  have hin28 : ¬ ((5 : Int32) < 0 ∨ c28.slots.size ≤ ((5 : Int32)).toNatClampNeg) := inb_of S28 ⟨by decide, by decide⟩
  obtain ⟨T28, h28, X28, e28, W28, st28⟩ := stZ X27 hx hZ e27 Ar28 (j := (5 : Int32)) hin28 (g := (mkF m 97 #[.val (.int p0), .val (.ref b1), .unset, .unset] [(.int (1 : Int32)), (.int (5 : Int32)), (.ref b22), (.ref b22)])) rfl rfl (hb hby at_97)
  have V28 : Arv Z h28 b22 k22 .boolean (10 : Int32) [(.int (0 : Int32)), (.int (1 : Int32)), (.int (1 : Int32)), (.int (1 : Int32)), (.int (1 : Int32)), (.int (1 : Int32)), (.int (0 : Int32)), (.int (0 : Int32)), (.int (0 : Int32)), (.int (0 : Int32))] (.int (0 : Int32)) := Arv.set Ar28 q28 S28 M28 Hh28 G28 rfl W28 5 (by decide) (Nat.le_of_ble_eq_true rfl)
  have O28 := O27.wr W28 g_b22
  have N28 := Fr.snoc X28 N27 g_b22
  have K28 := K27.wr W28 (Or.inr sz_b22)
  refine own_by st28 ?_
  show own_Go p e below s _ _ (T28.setTop (mkF m 98 #[.val (.int p0), .val (.ref b1), .unset, .unset] [(.ref b22)]))
  refine own_by (fun tz kz => XS.dup X28.here hx rfl (hb hby at_98) rfl rfl kz) ?_
  show own_Go p e below s _ _ (T28.setTop (mkF m 99 #[.val (.int p0), .val (.ref b1), .unset, .unset] [(.ref b22), (.ref b22)]))
  refine own_by (fun tz kz => XS.bipush X28.here hx rfl (hb hby at_99) kz) ?_
  show own_Go p e below s _ _ (T28.setTop (mkF m 101 #[.val (.int p0), .val (.ref b1), .unset, .unset] [(.int (6 : Int32)), (.ref b22), (.ref b22)]))
  refine own_by (fun tz kz => XS.iconst X28.here hx rfl (hb hby at_101) kz) ?_
  show own_Go p e below s _ _ (T28.setTop (mkF m 102 #[.val (.int p0), .val (.ref b1), .unset, .unset] [(.int (1 : Int32)), (.int (6 : Int32)), (.ref b22), (.ref b22)]))
  obtain ⟨c29, Ar29, q29, S29, M29, Hh29, G29⟩ := id V28
  have hin29 : ¬ ((6 : Int32) < 0 ∨ c29.slots.size ≤ ((6 : Int32)).toNatClampNeg) := inb_of S29 ⟨by decide, by decide⟩
  obtain ⟨T29, h29, X29, e29, W29, st29⟩ := stZ X28 hx hZ e28 Ar29 (j := (6 : Int32)) hin29 (g := (mkF m 102 #[.val (.int p0), .val (.ref b1), .unset, .unset] [(.int (1 : Int32)), (.int (6 : Int32)), (.ref b22), (.ref b22)])) rfl rfl (hb hby at_102)
  have V29 : Arv Z h29 b22 k22 .boolean (10 : Int32) [(.int (0 : Int32)), (.int (1 : Int32)), (.int (1 : Int32)), (.int (1 : Int32)), (.int (1 : Int32)), (.int (1 : Int32)), (.int (1 : Int32)), (.int (0 : Int32)), (.int (0 : Int32)), (.int (0 : Int32))] (.int (0 : Int32)) := Arv.set Ar29 q29 S29 M29 Hh29 G29 rfl W29 6 (by decide) (Nat.le_of_ble_eq_true rfl)
  have O29 := O28.wr W29 g_b22
  have N29 := Fr.snoc X29 N28 g_b22
  have K29 := K28.wr W29 (Or.inr sz_b22)
  refine own_by st29 ?_
  show own_Go p e below s _ _ (T29.setTop (mkF m 103 #[.val (.int p0), .val (.ref b1), .unset, .unset] [(.ref b22)]))
  refine own_by (fun tz kz => XS.dup X29.here hx rfl (hb hby at_103) rfl rfl kz) ?_
  show own_Go p e below s _ _ (T29.setTop (mkF m 104 #[.val (.int p0), .val (.ref b1), .unset, .unset] [(.ref b22), (.ref b22)]))
  refine own_by (fun tz kz => XS.bipush X29.here hx rfl (hb hby at_104) kz) ?_
  show own_Go p e below s _ _ (T29.setTop (mkF m 106 #[.val (.int p0), .val (.ref b1), .unset, .unset] [(.int (7 : Int32)), (.ref b22), (.ref b22)]))
  refine own_by (fun tz kz => XS.iconst X29.here hx rfl (hb hby at_106) kz) ?_
  show own_Go p e below s _ _ (T29.setTop (mkF m 107 #[.val (.int p0), .val (.ref b1), .unset, .unset] [(.int (0 : Int32)), (.int (7 : Int32)), (.ref b22), (.ref b22)]))
  obtain ⟨c30, Ar30, q30, S30, M30, Hh30, G30⟩ := id V29
  have hin30 : ¬ ((7 : Int32) < 0 ∨ c30.slots.size ≤ ((7 : Int32)).toNatClampNeg) := inb_of S30 ⟨by decide, by decide⟩
  obtain ⟨T30, h30, X30, e30, W30, st30⟩ := stZ X29 hx hZ e29 Ar30 (j := (7 : Int32)) hin30 (g := (mkF m 107 #[.val (.int p0), .val (.ref b1), .unset, .unset] [(.int (0 : Int32)), (.int (7 : Int32)), (.ref b22), (.ref b22)])) rfl rfl (hb hby at_107)
  have V30 : Arv Z h30 b22 k22 .boolean (10 : Int32) [(.int (0 : Int32)), (.int (1 : Int32)), (.int (1 : Int32)), (.int (1 : Int32)), (.int (1 : Int32)), (.int (1 : Int32)), (.int (1 : Int32)), (.int (0 : Int32)), (.int (0 : Int32)), (.int (0 : Int32))] (.int (0 : Int32)) := Arv.set Ar30 q30 S30 M30 Hh30 G30 rfl W30 7 (by decide) (Nat.le_of_ble_eq_true rfl)
  have O30 := O29.wr W30 g_b22
  have N30 := Fr.snoc X30 N29 g_b22
  have K30 := K29.wr W30 (Or.inr sz_b22)
  refine own_by st30 ?_
  show own_Go p e below s _ _ (T30.setTop (mkF m 108 #[.val (.int p0), .val (.ref b1), .unset, .unset] [(.ref b22)]))
  refine own_by (fun tz kz => XS.dup X30.here hx rfl (hb hby at_108) rfl rfl kz) ?_
  show own_Go p e below s _ _ (T30.setTop (mkF m 109 #[.val (.int p0), .val (.ref b1), .unset, .unset] [(.ref b22), (.ref b22)]))
  refine own_by (fun tz kz => XS.bipush X30.here hx rfl (hb hby at_109) kz) ?_
  show own_Go p e below s _ _ (T30.setTop (mkF m 111 #[.val (.int p0), .val (.ref b1), .unset, .unset] [(.int (8 : Int32)), (.ref b22), (.ref b22)]))
  refine own_by (fun tz kz => XS.iconst X30.here hx rfl (hb hby at_111) kz) ?_
  show own_Go p e below s _ _ (T30.setTop (mkF m 112 #[.val (.int p0), .val (.ref b1), .unset, .unset] [(.int (0 : Int32)), (.int (8 : Int32)), (.ref b22), (.ref b22)]))
  obtain ⟨c31, Ar31, q31, S31, M31, Hh31, G31⟩ := id V30
  have hin31 : ¬ ((8 : Int32) < 0 ∨ c31.slots.size ≤ ((8 : Int32)).toNatClampNeg) := inb_of S31 ⟨by decide, by decide⟩
  obtain ⟨T31, h31, X31, e31, W31, st31⟩ := stZ X30 hx hZ e30 Ar31 (j := (8 : Int32)) hin31 (g := (mkF m 112 #[.val (.int p0), .val (.ref b1), .unset, .unset] [(.int (0 : Int32)), (.int (8 : Int32)), (.ref b22), (.ref b22)])) rfl rfl (hb hby at_112)
  have V31 : Arv Z h31 b22 k22 .boolean (10 : Int32) [(.int (0 : Int32)), (.int (1 : Int32)), (.int (1 : Int32)), (.int (1 : Int32)), (.int (1 : Int32)), (.int (1 : Int32)), (.int (1 : Int32)), (.int (0 : Int32)), (.int (0 : Int32)), (.int (0 : Int32))] (.int (0 : Int32)) := Arv.set Ar31 q31 S31 M31 Hh31 G31 rfl W31 8 (by decide) (Nat.le_of_ble_eq_true rfl)
  have O31 := O30.wr W31 g_b22
  have N31 := Fr.snoc X31 N30 g_b22
  have K31 := K30.wr W31 (Or.inr sz_b22)
  refine own_by st31 ?_
  show own_Go p e below s _ _ (T31.setTop (mkF m 113 #[.val (.int p0), .val (.ref b1), .unset, .unset] [(.ref b22)]))
  refine own_by (fun tz kz => XS.dup X31.here hx rfl (hb hby at_113) rfl rfl kz) ?_
  show own_Go p e below s _ _ (T31.setTop (mkF m 114 #[.val (.int p0), .val (.ref b1), .unset, .unset] [(.ref b22), (.ref b22)]))
  refine own_by (fun tz kz => XS.bipush X31.here hx rfl (hb hby at_114) kz) ?_
  show own_Go p e below s _ _ (T31.setTop (mkF m 116 #[.val (.int p0), .val (.ref b1), .unset, .unset] [(.int (9 : Int32)), (.ref b22), (.ref b22)]))
  refine own_by (fun tz kz => XS.iconst X31.here hx rfl (hb hby at_116) kz) ?_
  show own_Go p e below s _ _ (T31.setTop (mkF m 117 #[.val (.int p0), .val (.ref b1), .unset, .unset] [(.int (0 : Int32)), (.int (9 : Int32)), (.ref b22), (.ref b22)]))
  obtain ⟨c32, Ar32, q32, S32, M32, Hh32, G32⟩ := id V31
  have hin32 : ¬ ((9 : Int32) < 0 ∨ c32.slots.size ≤ ((9 : Int32)).toNatClampNeg) := inb_of S32 ⟨by decide, by decide⟩
  obtain ⟨T32, h32, X32, e32, W32, st32⟩ := stZ X31 hx hZ e31 Ar32 (j := (9 : Int32)) hin32 (g := (mkF m 117 #[.val (.int p0), .val (.ref b1), .unset, .unset] [(.int (0 : Int32)), (.int (9 : Int32)), (.ref b22), (.ref b22)])) rfl rfl (hb hby at_117)
  have V32 : Arv Z h32 b22 k22 .boolean (10 : Int32) [(.int (0 : Int32)), (.int (1 : Int32)), (.int (1 : Int32)), (.int (1 : Int32)), (.int (1 : Int32)), (.int (1 : Int32)), (.int (1 : Int32)), (.int (0 : Int32)), (.int (0 : Int32)), (.int (0 : Int32))] (.int (0 : Int32)) := Arv.set Ar32 q32 S32 M32 Hh32 G32 rfl W32 9 (by decide) (Nat.le_of_ble_eq_true rfl)
  have O32 := O31.wr W32 g_b22
  have N32 := Fr.snoc X32 N31 g_b22
  have K32 := K31.wr W32 (Or.inr sz_b22)
  refine own_by st32 ?_
  show own_Go p e below s _ _ (T32.setTop (mkF m 118 #[.val (.int p0), .val (.ref b1), .unset, .unset] [(.ref b22)]))
  refine own_by (fun tz kz => XS.astoreN X32.here hx rfl (hb hby at_118) rfl rfl (l' := #[.val (.int p0), .val (.ref b1), .val (.ref b22), .unset]) rfl kz) ?_
  show own_Go p e below s _ _ (T32.setTop (mkF m 119 #[.val (.int p0), .val (.ref b1), .val (.ref b22), .unset] []))
  refine own_by (fun tz kz => XS.iloadN X32.here hx rfl (hb hby at_119) rfl  kz) ?_
  show own_Go p e below s _ _ (T32.setTop (mkF m 120 #[.val (.int p0), .val (.ref b1), .val (.ref b22), .unset] [(.int p0)]))
  refine own_by (fun tz kz => X32.ldcInt hx hown (mvT hZ (hw _ (List.mem_of_getElem? (i := 29) rfl))) (g := (mkF m 120 #[.val (.int p0), .val (.ref b1), .val (.ref b22), .unset] [(.int p0)])) rfl (hb hby at_120) _ kz) ?_
  show own_Go p e below s _ _ (T32.setTop (mkF m 122 #[.val (.int p0), .val (.ref b1), .val (.ref b22), .unset] [(.int (2147483647 : Int32)), (.int p0)]))
  refine own_by (fun tz kz => XS.iand X32.here hx rfl (hb hby at_122) rfl kz) ?_
  show own_Go p e below s _ _ (T32.setTop (mkF m 123 #[.val (.int p0), .val (.ref b1), .val (.ref b22), .unset] [(.int (p0 &&& (2147483647 : Int32)))]))
  refine own_by (fun tz kz => XS.bipush X32.here hx rfl (hb hby at_123) kz) ?_
  show own_Go p e below s _ _ (T32.setTop (mkF m 125 #[.val (.int p0), .val (.ref b1), .val (.ref b22), .unset] [(.int (10 : Int32)), (.int (p0 &&& (2147483647 : Int32)))]))
  refine own_by (fun tz kz => iremM X32 hx rfl (hb hby at_125) rfl (by decide) kz) ?_
  show own_Go p e below s _ _ (T32.setTop (mkF m 126 #[.val (.int p0), .val (.ref b1), .val (.ref b22), .unset] [(.int ((p0 &&& (2147483647 : Int32)) % (10 : Int32)))]))
  refine own_by (fun tz kz => XS.istoreN X32.here hx rfl (hb hby at_126) rfl (l' := #[.val (.int p0), .val (.ref b1), .val (.ref b22), .val (.int ((p0 &&& (2147483647 : Int32)) % (10 : Int32)))]) rfl kz) ?_
  rw [← hI]
  rcases hk with rfl | rfl | rfl | rfl | rfl | rfl | rfl | rfl | rfl | rfl
  · show own_Go p e below s _ _ (T32.setTop (mkF m 127 #[.val (.int p0), .val (.ref b1), .val (.ref b22), .val (.int (0 : Int32))] []))
    refine own_by (fun tz kz => XS.aloadN X32.here hx rfl (hb hby at_127) rfl rfl kz) ?_
    show own_Go p e below s _ _ (T32.setTop (mkF m 128 #[.val (.int p0), .val (.ref b1), .val (.ref b22), .val (.int (0 : Int32))] [(.ref b1)]))
    refine own_by (fun tz kz => XS.iloadN X32.here hx rfl (hb hby at_128) rfl  kz) ?_
    show own_Go p e below s _ _ (T32.setTop (mkF m 129 #[.val (.int p0), .val (.ref b1), .val (.ref b22), .val (.int (0 : Int32))] [(.int (0 : Int32)), (.ref b1)]))
    have f34 := (((((((((((Arv.ext V21 E22).other W23 ne_b1_b22).other W24 ne_b1_b22).other W25 ne_b1_b22).other W26 ne_b1_b22).other W27 ne_b1_b22).other W28 ne_b1_b22).other W29 ne_b1_b22).other W30 ne_b1_b22).other W31 ne_b1_b22).other W32 ne_b1_b22)
    obtain ⟨c33, Ar33, q33, S33, M33, Hh33, G33⟩ := id f34
    have hin33 : ¬ ((0 : Int32) < 0 ∨ c33.slots.size ≤ ((0 : Int32)).toNatClampNeg) := inb_of S33 ⟨by decide, by decide⟩
    have hat33 := Has.at Hh33 hin33 (v := (.ref w0)) rfl
    refine own_by (fun tz kz => X32.aaload hx (j := (0 : Int32)) (v := (.ref w0)) (by rw [e32]; exact Ar33.1) (State.isArrayOf_alike hZ.alike Ar33.2.1) rfl Ar33.2.2 hin33 hat33 (g := (mkF m 129 #[.val (.int p0), .val (.ref b1), .val (.ref b22), .val (.int (0 : Int32))] [(.int (0 : Int32)), (.ref b1)])) rfl rfl (hb hby at_129) _ kz) ?_
    show own_Go p e below s _ _ (T32.setTop (mkF m 130 #[.val (.int p0), .val (.ref b1), .val (.ref b22), .val (.int (0 : Int32))] [(.ref w0)]))
    obtain ⟨cq35, kq35, q35a, q35b, q35c⟩ := isOf hZ e32 (E_0.ext O32.2)
    obtain ⟨_, _, ⟨T35, L35, k35, n35⟩, -, X35, ⟨Lc35, hQ35, l35, y35, z35⟩, st35⟩ := X32.virtualBack hx (y := (⟨"com/example/placerfill/placerfill/OrderAction", "reachesChildren", "()Z"⟩ : MethodName)) (z := (⟨"com/example/placerfill/placerfill/OrderAction", "reachesChildren", "()Z"⟩ : MethodName)) hown (mvT hZ (hw _ (List.mem_of_getElem? (i := 30) rfl))) (mvT hZ (hw _ (List.mem_of_getElem? (i := 31) rfl))) (notFace_of_selects (args := #[]) (mvT hZ (hw _ (List.mem_of_getElem? (i := 33) rfl)))) (mvT hZ (hw _ (List.mem_of_getElem? (i := 33) rfl))) (mvT hZ (hw _ (List.mem_of_getElem? (i := 32) rfl))) (by decide) (backOf (W := 0) (rm_null l Z a0 hw [] w0 h32 n0 (F_0.ext O32.2)) hZ (hw _ (List.mem_of_getElem? (i := 34) rfl)) (hw _ (List.mem_of_getElem? (i := 3) rfl)) (by decide) (by decide)) q35a q35c (g := (mkF m 130 #[.val (.int p0), .val (.ref b1), .val (.ref b22), .val (.int (0 : Int32))] [(.ref w0)])) rfl (by rw [hml]; rfl) (Steps.refl _) (argsL := []) (rest := []) (lenOf pd_0 rfl) rfl (by show 2 * 0 + _ ≤ _; exact Nat.le_of_eq rfl) (hb hby at_130) (fun _ _ => ⟨rfl, e32, (by decide : 2 + 0 ≤ _), (by decide : 20 + 0 ≤ _)⟩)
    dsimp only [Pt.U, Pt.locs, Pt.cells, Pt.slots] at X35 l35 y35 z35 st35 hQ35
    rw [l35, y35, z35] at X35
    obtain ⟨rfl, Nq35, e35⟩ := hQ35
    have N35 := Fr.app N32 Nq35
    refine own_via st35 ?_
    show own_Go p e below s _ _ (T35.setTop (mkF m 133 #[.val (.int p0), .val (.ref b1), .val (.ref b22), .val (.int (0 : Int32))] [(.int (0 : Int32))]))
    refine own_by (fun tz kz => XS.aloadN X35.here hx rfl (hb hby at_133) rfl rfl kz) ?_
    show own_Go p e below s _ _ (T35.setTop (mkF m 134 #[.val (.int p0), .val (.ref b1), .val (.ref b22), .val (.int (0 : Int32))] [(.ref b22), (.int (0 : Int32))]))
    refine own_by (fun tz kz => XS.iloadN X35.here hx rfl (hb hby at_134) rfl  kz) ?_
    show own_Go p e below s _ _ (T35.setTop (mkF m 135 #[.val (.int p0), .val (.ref b1), .val (.ref b22), .val (.int (0 : Int32))] [(.int (0 : Int32)), (.ref b22), (.int (0 : Int32))]))
    obtain ⟨c36, Ar36, q36, S36, M36, Hh36, G36⟩ := id V32
    have hin36 : ¬ ((0 : Int32) < 0 ∨ c36.slots.size ≤ ((0 : Int32)).toNatClampNeg) := inb_of S36 ⟨by decide, by decide⟩
    have hat36 := Has.at Hh36 hin36 (v := (.int (0 : Int32))) rfl
    refine own_by (fun tz kz => X35.baloadBooleans hx (j := (0 : Int32)) (v := (.int (0 : Int32))) (by rw [e35]; exact Ar36.1) (State.isArrayOf_alike hZ.alike Ar36.2.1) Ar36.2.2 hin36 hat36 (g := (mkF m 135 #[.val (.int p0), .val (.ref b1), .val (.ref b22), .val (.int (0 : Int32))] [(.int (0 : Int32)), (.ref b22), (.int (0 : Int32))])) rfl rfl (hb hby at_135) _ kz) ?_
    show own_Go p e below s _ _ (T35.setTop (mkF m 136 #[.val (.int p0), .val (.ref b1), .val (.ref b22), .val (.int (0 : Int32))] [(.int (0 : Int32)), (.int (0 : Int32))]))
    refine own_by (fun tz kz => XS.icmpNo X35.here hx rfl (hb hby at_136) rfl (teq (by decide : (0 : Int32) = (0 : Int32))).2 kz) ?_
    show own_Go p e below s _ _ (T35.setTop (mkF m 139 #[.val (.int p0), .val (.ref b1), .val (.ref b22), .val (.int (0 : Int32))] []))
    refine own_by (fun tz kz => XS.iconst X35.here hx rfl (hb hby at_139) kz) ?_
    show own_Go p e below s _ _ (T35.setTop (mkF m 140 #[.val (.int p0), .val (.ref b1), .val (.ref b22), .val (.int (0 : Int32))] [(.int (1 : Int32))]))
    refine own_by (fun tz kz => XS.goto X35.here hx rfl (pc0 := 140) (pc' := 144) rfl (hb hby at_140) (by decide) (by decide) kz) ?_
    show own_Go p e below s _ _ (T35.setTop (mkF m 144 #[.val (.int p0), .val (.ref b1), .val (.ref b22), .val (.int (0 : Int32))] [(.int (1 : Int32))]))
    refine own_retI X35 hx hlk (t := .boolean) hret (by simp) rfl (hb hby at_144) ?_ (by decide) (by decide)
    exact ⟨rfl, N35⟩
  · show own_Go p e below s _ _ (T32.setTop (mkF m 127 #[.val (.int p0), .val (.ref b1), .val (.ref b22), .val (.int (1 : Int32))] []))
    refine own_by (fun tz kz => XS.aloadN X32.here hx rfl (hb hby at_127) rfl rfl kz) ?_
    show own_Go p e below s _ _ (T32.setTop (mkF m 128 #[.val (.int p0), .val (.ref b1), .val (.ref b22), .val (.int (1 : Int32))] [(.ref b1)]))
    refine own_by (fun tz kz => XS.iloadN X32.here hx rfl (hb hby at_128) rfl  kz) ?_
    show own_Go p e below s _ _ (T32.setTop (mkF m 129 #[.val (.int p0), .val (.ref b1), .val (.ref b22), .val (.int (1 : Int32))] [(.int (1 : Int32)), (.ref b1)]))
    have f38 := (((((((((((Arv.ext V21 E22).other W23 ne_b1_b22).other W24 ne_b1_b22).other W25 ne_b1_b22).other W26 ne_b1_b22).other W27 ne_b1_b22).other W28 ne_b1_b22).other W29 ne_b1_b22).other W30 ne_b1_b22).other W31 ne_b1_b22).other W32 ne_b1_b22)
    obtain ⟨c37, Ar37, q37, S37, M37, Hh37, G37⟩ := id f38
    have hin37 : ¬ ((1 : Int32) < 0 ∨ c37.slots.size ≤ ((1 : Int32)).toNatClampNeg) := inb_of S37 ⟨by decide, by decide⟩
    have hat37 := Has.at Hh37 hin37 (v := (.ref w1)) rfl
    refine own_by (fun tz kz => X32.aaload hx (j := (1 : Int32)) (v := (.ref w1)) (by rw [e32]; exact Ar37.1) (State.isArrayOf_alike hZ.alike Ar37.2.1) rfl Ar37.2.2 hin37 hat37 (g := (mkF m 129 #[.val (.int p0), .val (.ref b1), .val (.ref b22), .val (.int (1 : Int32))] [(.int (1 : Int32)), (.ref b1)])) rfl rfl (hb hby at_129) _ kz) ?_
    show own_Go p e below s _ _ (T32.setTop (mkF m 130 #[.val (.int p0), .val (.ref b1), .val (.ref b22), .val (.int (1 : Int32))] [(.ref w1)]))
    obtain ⟨cq39, kq39, q39a, q39b, q39c⟩ := isOf hZ e32 (E_1.ext O32.2)
    obtain ⟨_, _, ⟨T39, L39, k39, n39⟩, -, X39, ⟨Lc39, hQ39, l39, y39, z39⟩, st39⟩ := X32.virtualBack hx (y := (⟨"com/example/placerfill/placerfill/OrderAction", "reachesChildren", "()Z"⟩ : MethodName)) (z := (⟨"com/example/placerfill/placerfill/OrderAction", "reachesChildren", "()Z"⟩ : MethodName)) hown (mvT hZ (hw _ (List.mem_of_getElem? (i := 30) rfl))) (mvT hZ (hw _ (List.mem_of_getElem? (i := 31) rfl))) (notFace_of_selects (args := #[]) (mvT hZ (hw _ (List.mem_of_getElem? (i := 33) rfl)))) (mvT hZ (hw _ (List.mem_of_getElem? (i := 37) rfl))) (mvT hZ (hw _ (List.mem_of_getElem? (i := 32) rfl))) (by decide) (backOf (W := 0) (rm_some l Z a0 hw [] w1 r1 h32 n0 (F_1.ext O32.2)) hZ (hw _ (List.mem_of_getElem? (i := 34) rfl)) (hw _ (List.mem_of_getElem? (i := 3) rfl)) (by decide) (by decide)) q39a q39c (g := (mkF m 130 #[.val (.int p0), .val (.ref b1), .val (.ref b22), .val (.int (1 : Int32))] [(.ref w1)])) rfl (by rw [hml]; rfl) (Steps.refl _) (argsL := []) (rest := []) (lenOf pd_0 rfl) rfl (by show 2 * 0 + _ ≤ _; exact Nat.le_of_eq rfl) (hb hby at_130) (fun _ _ => ⟨rfl, e32, (by decide : 2 + 0 ≤ _), (by decide : 20 + 0 ≤ _)⟩)
    dsimp only [Pt.U, Pt.locs, Pt.cells, Pt.slots] at X39 l39 y39 z39 st39 hQ39
    rw [l39, y39, z39] at X39
    obtain ⟨rfl, Nq39, e39⟩ := hQ39
    have N39 := Fr.app N32 Nq39
    refine own_via st39 ?_
    show own_Go p e below s _ _ (T39.setTop (mkF m 133 #[.val (.int p0), .val (.ref b1), .val (.ref b22), .val (.int (1 : Int32))] [(.int (1 : Int32))]))
    refine own_by (fun tz kz => XS.aloadN X39.here hx rfl (hb hby at_133) rfl rfl kz) ?_
    show own_Go p e below s _ _ (T39.setTop (mkF m 134 #[.val (.int p0), .val (.ref b1), .val (.ref b22), .val (.int (1 : Int32))] [(.ref b22), (.int (1 : Int32))]))
    refine own_by (fun tz kz => XS.iloadN X39.here hx rfl (hb hby at_134) rfl  kz) ?_
    show own_Go p e below s _ _ (T39.setTop (mkF m 135 #[.val (.int p0), .val (.ref b1), .val (.ref b22), .val (.int (1 : Int32))] [(.int (1 : Int32)), (.ref b22), (.int (1 : Int32))]))
    obtain ⟨c40, Ar40, q40, S40, M40, Hh40, G40⟩ := id V32
    have hin40 : ¬ ((1 : Int32) < 0 ∨ c40.slots.size ≤ ((1 : Int32)).toNatClampNeg) := inb_of S40 ⟨by decide, by decide⟩
    have hat40 := Has.at Hh40 hin40 (v := (.int (1 : Int32))) rfl
    refine own_by (fun tz kz => X39.baloadBooleans hx (j := (1 : Int32)) (v := (.int (1 : Int32))) (by rw [e39]; exact Ar40.1) (State.isArrayOf_alike hZ.alike Ar40.2.1) Ar40.2.2 hin40 hat40 (g := (mkF m 135 #[.val (.int p0), .val (.ref b1), .val (.ref b22), .val (.int (1 : Int32))] [(.int (1 : Int32)), (.ref b22), (.int (1 : Int32))])) rfl rfl (hb hby at_135) _ kz) ?_
    show own_Go p e below s _ _ (T39.setTop (mkF m 136 #[.val (.int p0), .val (.ref b1), .val (.ref b22), .val (.int (1 : Int32))] [(.int (1 : Int32)), (.int (1 : Int32))]))
    refine own_by (fun tz kz => XS.icmpNo X39.here hx rfl (hb hby at_136) rfl (teq (by decide : (1 : Int32) = (1 : Int32))).2 kz) ?_
    show own_Go p e below s _ _ (T39.setTop (mkF m 139 #[.val (.int p0), .val (.ref b1), .val (.ref b22), .val (.int (1 : Int32))] []))
    refine own_by (fun tz kz => XS.iconst X39.here hx rfl (hb hby at_139) kz) ?_
    show own_Go p e below s _ _ (T39.setTop (mkF m 140 #[.val (.int p0), .val (.ref b1), .val (.ref b22), .val (.int (1 : Int32))] [(.int (1 : Int32))]))
    refine own_by (fun tz kz => XS.goto X39.here hx rfl (pc0 := 140) (pc' := 144) rfl (hb hby at_140) (by decide) (by decide) kz) ?_
    show own_Go p e below s _ _ (T39.setTop (mkF m 144 #[.val (.int p0), .val (.ref b1), .val (.ref b22), .val (.int (1 : Int32))] [(.int (1 : Int32))]))
    refine own_retI X39 hx hlk (t := .boolean) hret (by simp) rfl (hb hby at_144) ?_ (by decide) (by decide)
    exact ⟨rfl, N39⟩
  · show own_Go p e below s _ _ (T32.setTop (mkF m 127 #[.val (.int p0), .val (.ref b1), .val (.ref b22), .val (.int (2 : Int32))] []))
    refine own_by (fun tz kz => XS.aloadN X32.here hx rfl (hb hby at_127) rfl rfl kz) ?_
    show own_Go p e below s _ _ (T32.setTop (mkF m 128 #[.val (.int p0), .val (.ref b1), .val (.ref b22), .val (.int (2 : Int32))] [(.ref b1)]))
    refine own_by (fun tz kz => XS.iloadN X32.here hx rfl (hb hby at_128) rfl  kz) ?_
    show own_Go p e below s _ _ (T32.setTop (mkF m 129 #[.val (.int p0), .val (.ref b1), .val (.ref b22), .val (.int (2 : Int32))] [(.int (2 : Int32)), (.ref b1)]))
    have f42 := (((((((((((Arv.ext V21 E22).other W23 ne_b1_b22).other W24 ne_b1_b22).other W25 ne_b1_b22).other W26 ne_b1_b22).other W27 ne_b1_b22).other W28 ne_b1_b22).other W29 ne_b1_b22).other W30 ne_b1_b22).other W31 ne_b1_b22).other W32 ne_b1_b22)
    obtain ⟨c41, Ar41, q41, S41, M41, Hh41, G41⟩ := id f42
    have hin41 : ¬ ((2 : Int32) < 0 ∨ c41.slots.size ≤ ((2 : Int32)).toNatClampNeg) := inb_of S41 ⟨by decide, by decide⟩
    have hat41 := Has.at Hh41 hin41 (v := (.ref w2)) rfl
    refine own_by (fun tz kz => X32.aaload hx (j := (2 : Int32)) (v := (.ref w2)) (by rw [e32]; exact Ar41.1) (State.isArrayOf_alike hZ.alike Ar41.2.1) rfl Ar41.2.2 hin41 hat41 (g := (mkF m 129 #[.val (.int p0), .val (.ref b1), .val (.ref b22), .val (.int (2 : Int32))] [(.int (2 : Int32)), (.ref b1)])) rfl rfl (hb hby at_129) _ kz) ?_
    show own_Go p e below s _ _ (T32.setTop (mkF m 130 #[.val (.int p0), .val (.ref b1), .val (.ref b22), .val (.int (2 : Int32))] [(.ref w2)]))
    obtain ⟨cq43, kq43, q43a, q43b, q43c⟩ := isOf hZ e32 (E_2.ext O32.2)
    obtain ⟨_, _, ⟨T43, L43, k43, n43⟩, -, X43, ⟨Lc43, hQ43, l43, y43, z43⟩, st43⟩ := X32.virtualBack hx (y := (⟨"com/example/placerfill/placerfill/OrderAction", "reachesChildren", "()Z"⟩ : MethodName)) (z := (⟨"com/example/placerfill/placerfill/OrderAction", "reachesChildren", "()Z"⟩ : MethodName)) hown (mvT hZ (hw _ (List.mem_of_getElem? (i := 30) rfl))) (mvT hZ (hw _ (List.mem_of_getElem? (i := 31) rfl))) (notFace_of_selects (args := #[]) (mvT hZ (hw _ (List.mem_of_getElem? (i := 33) rfl)))) (mvT hZ (hw _ (List.mem_of_getElem? (i := 37) rfl))) (mvT hZ (hw _ (List.mem_of_getElem? (i := 32) rfl))) (by decide) (backOf (W := 0) (rm_some l Z a0 hw [] w2 r2 h32 n0 (F_2.ext O32.2)) hZ (hw _ (List.mem_of_getElem? (i := 34) rfl)) (hw _ (List.mem_of_getElem? (i := 3) rfl)) (by decide) (by decide)) q43a q43c (g := (mkF m 130 #[.val (.int p0), .val (.ref b1), .val (.ref b22), .val (.int (2 : Int32))] [(.ref w2)])) rfl (by rw [hml]; rfl) (Steps.refl _) (argsL := []) (rest := []) (lenOf pd_0 rfl) rfl (by show 2 * 0 + _ ≤ _; exact Nat.le_of_eq rfl) (hb hby at_130) (fun _ _ => ⟨rfl, e32, (by decide : 2 + 0 ≤ _), (by decide : 20 + 0 ≤ _)⟩)
    dsimp only [Pt.U, Pt.locs, Pt.cells, Pt.slots] at X43 l43 y43 z43 st43 hQ43
    rw [l43, y43, z43] at X43
    obtain ⟨rfl, Nq43, e43⟩ := hQ43
    have N43 := Fr.app N32 Nq43
    refine own_via st43 ?_
    show own_Go p e below s _ _ (T43.setTop (mkF m 133 #[.val (.int p0), .val (.ref b1), .val (.ref b22), .val (.int (2 : Int32))] [(.int (1 : Int32))]))
    refine own_by (fun tz kz => XS.aloadN X43.here hx rfl (hb hby at_133) rfl rfl kz) ?_
    show own_Go p e below s _ _ (T43.setTop (mkF m 134 #[.val (.int p0), .val (.ref b1), .val (.ref b22), .val (.int (2 : Int32))] [(.ref b22), (.int (1 : Int32))]))
    refine own_by (fun tz kz => XS.iloadN X43.here hx rfl (hb hby at_134) rfl  kz) ?_
    show own_Go p e below s _ _ (T43.setTop (mkF m 135 #[.val (.int p0), .val (.ref b1), .val (.ref b22), .val (.int (2 : Int32))] [(.int (2 : Int32)), (.ref b22), (.int (1 : Int32))]))
    obtain ⟨c44, Ar44, q44, S44, M44, Hh44, G44⟩ := id V32
    have hin44 : ¬ ((2 : Int32) < 0 ∨ c44.slots.size ≤ ((2 : Int32)).toNatClampNeg) := inb_of S44 ⟨by decide, by decide⟩
    have hat44 := Has.at Hh44 hin44 (v := (.int (1 : Int32))) rfl
    refine own_by (fun tz kz => X43.baloadBooleans hx (j := (2 : Int32)) (v := (.int (1 : Int32))) (by rw [e43]; exact Ar44.1) (State.isArrayOf_alike hZ.alike Ar44.2.1) Ar44.2.2 hin44 hat44 (g := (mkF m 135 #[.val (.int p0), .val (.ref b1), .val (.ref b22), .val (.int (2 : Int32))] [(.int (2 : Int32)), (.ref b22), (.int (1 : Int32))])) rfl rfl (hb hby at_135) _ kz) ?_
    show own_Go p e below s _ _ (T43.setTop (mkF m 136 #[.val (.int p0), .val (.ref b1), .val (.ref b22), .val (.int (2 : Int32))] [(.int (1 : Int32)), (.int (1 : Int32))]))
    refine own_by (fun tz kz => XS.icmpNo X43.here hx rfl (hb hby at_136) rfl (teq (by decide : (1 : Int32) = (1 : Int32))).2 kz) ?_
    show own_Go p e below s _ _ (T43.setTop (mkF m 139 #[.val (.int p0), .val (.ref b1), .val (.ref b22), .val (.int (2 : Int32))] []))
    refine own_by (fun tz kz => XS.iconst X43.here hx rfl (hb hby at_139) kz) ?_
    show own_Go p e below s _ _ (T43.setTop (mkF m 140 #[.val (.int p0), .val (.ref b1), .val (.ref b22), .val (.int (2 : Int32))] [(.int (1 : Int32))]))
    refine own_by (fun tz kz => XS.goto X43.here hx rfl (pc0 := 140) (pc' := 144) rfl (hb hby at_140) (by decide) (by decide) kz) ?_
    show own_Go p e below s _ _ (T43.setTop (mkF m 144 #[.val (.int p0), .val (.ref b1), .val (.ref b22), .val (.int (2 : Int32))] [(.int (1 : Int32))]))
    refine own_retI X43 hx hlk (t := .boolean) hret (by simp) rfl (hb hby at_144) ?_ (by decide) (by decide)
    exact ⟨rfl, N43⟩
  · show own_Go p e below s _ _ (T32.setTop (mkF m 127 #[.val (.int p0), .val (.ref b1), .val (.ref b22), .val (.int (3 : Int32))] []))
    refine own_by (fun tz kz => XS.aloadN X32.here hx rfl (hb hby at_127) rfl rfl kz) ?_
    show own_Go p e below s _ _ (T32.setTop (mkF m 128 #[.val (.int p0), .val (.ref b1), .val (.ref b22), .val (.int (3 : Int32))] [(.ref b1)]))
    refine own_by (fun tz kz => XS.iloadN X32.here hx rfl (hb hby at_128) rfl  kz) ?_
    show own_Go p e below s _ _ (T32.setTop (mkF m 129 #[.val (.int p0), .val (.ref b1), .val (.ref b22), .val (.int (3 : Int32))] [(.int (3 : Int32)), (.ref b1)]))
    have f46 := (((((((((((Arv.ext V21 E22).other W23 ne_b1_b22).other W24 ne_b1_b22).other W25 ne_b1_b22).other W26 ne_b1_b22).other W27 ne_b1_b22).other W28 ne_b1_b22).other W29 ne_b1_b22).other W30 ne_b1_b22).other W31 ne_b1_b22).other W32 ne_b1_b22)
    obtain ⟨c45, Ar45, q45, S45, M45, Hh45, G45⟩ := id f46
    have hin45 : ¬ ((3 : Int32) < 0 ∨ c45.slots.size ≤ ((3 : Int32)).toNatClampNeg) := inb_of S45 ⟨by decide, by decide⟩
    have hat45 := Has.at Hh45 hin45 (v := (.ref w3)) rfl
    refine own_by (fun tz kz => X32.aaload hx (j := (3 : Int32)) (v := (.ref w3)) (by rw [e32]; exact Ar45.1) (State.isArrayOf_alike hZ.alike Ar45.2.1) rfl Ar45.2.2 hin45 hat45 (g := (mkF m 129 #[.val (.int p0), .val (.ref b1), .val (.ref b22), .val (.int (3 : Int32))] [(.int (3 : Int32)), (.ref b1)])) rfl rfl (hb hby at_129) _ kz) ?_
    show own_Go p e below s _ _ (T32.setTop (mkF m 130 #[.val (.int p0), .val (.ref b1), .val (.ref b22), .val (.int (3 : Int32))] [(.ref w3)]))
    obtain ⟨cq47, kq47, q47a, q47b, q47c⟩ := isOf hZ e32 (E_3.ext O32.2)
    obtain ⟨_, _, ⟨T47, L47, k47, n47⟩, -, X47, ⟨Lc47, hQ47, l47, y47, z47⟩, st47⟩ := X32.virtualBack hx (y := (⟨"com/example/placerfill/placerfill/OrderAction", "reachesChildren", "()Z"⟩ : MethodName)) (z := (⟨"com/example/placerfill/placerfill/OrderAction", "reachesChildren", "()Z"⟩ : MethodName)) hown (mvT hZ (hw _ (List.mem_of_getElem? (i := 30) rfl))) (mvT hZ (hw _ (List.mem_of_getElem? (i := 31) rfl))) (notFace_of_selects (args := #[]) (mvT hZ (hw _ (List.mem_of_getElem? (i := 33) rfl)))) (mvT hZ (hw _ (List.mem_of_getElem? (i := 37) rfl))) (mvT hZ (hw _ (List.mem_of_getElem? (i := 32) rfl))) (by decide) (backOf (W := 0) (rm_some l Z a0 hw [] w3 r3 h32 n0 (F_3.ext O32.2)) hZ (hw _ (List.mem_of_getElem? (i := 34) rfl)) (hw _ (List.mem_of_getElem? (i := 3) rfl)) (by decide) (by decide)) q47a q47c (g := (mkF m 130 #[.val (.int p0), .val (.ref b1), .val (.ref b22), .val (.int (3 : Int32))] [(.ref w3)])) rfl (by rw [hml]; rfl) (Steps.refl _) (argsL := []) (rest := []) (lenOf pd_0 rfl) rfl (by show 2 * 0 + _ ≤ _; exact Nat.le_of_eq rfl) (hb hby at_130) (fun _ _ => ⟨rfl, e32, (by decide : 2 + 0 ≤ _), (by decide : 20 + 0 ≤ _)⟩)
    dsimp only [Pt.U, Pt.locs, Pt.cells, Pt.slots] at X47 l47 y47 z47 st47 hQ47
    rw [l47, y47, z47] at X47
    obtain ⟨rfl, Nq47, e47⟩ := hQ47
    have N47 := Fr.app N32 Nq47
    refine own_via st47 ?_
    show own_Go p e below s _ _ (T47.setTop (mkF m 133 #[.val (.int p0), .val (.ref b1), .val (.ref b22), .val (.int (3 : Int32))] [(.int (1 : Int32))]))
    refine own_by (fun tz kz => XS.aloadN X47.here hx rfl (hb hby at_133) rfl rfl kz) ?_
    show own_Go p e below s _ _ (T47.setTop (mkF m 134 #[.val (.int p0), .val (.ref b1), .val (.ref b22), .val (.int (3 : Int32))] [(.ref b22), (.int (1 : Int32))]))
    refine own_by (fun tz kz => XS.iloadN X47.here hx rfl (hb hby at_134) rfl  kz) ?_
    show own_Go p e below s _ _ (T47.setTop (mkF m 135 #[.val (.int p0), .val (.ref b1), .val (.ref b22), .val (.int (3 : Int32))] [(.int (3 : Int32)), (.ref b22), (.int (1 : Int32))]))
    obtain ⟨c48, Ar48, q48, S48, M48, Hh48, G48⟩ := id V32
    have hin48 : ¬ ((3 : Int32) < 0 ∨ c48.slots.size ≤ ((3 : Int32)).toNatClampNeg) := inb_of S48 ⟨by decide, by decide⟩
    have hat48 := Has.at Hh48 hin48 (v := (.int (1 : Int32))) rfl
    refine own_by (fun tz kz => X47.baloadBooleans hx (j := (3 : Int32)) (v := (.int (1 : Int32))) (by rw [e47]; exact Ar48.1) (State.isArrayOf_alike hZ.alike Ar48.2.1) Ar48.2.2 hin48 hat48 (g := (mkF m 135 #[.val (.int p0), .val (.ref b1), .val (.ref b22), .val (.int (3 : Int32))] [(.int (3 : Int32)), (.ref b22), (.int (1 : Int32))])) rfl rfl (hb hby at_135) _ kz) ?_
    show own_Go p e below s _ _ (T47.setTop (mkF m 136 #[.val (.int p0), .val (.ref b1), .val (.ref b22), .val (.int (3 : Int32))] [(.int (1 : Int32)), (.int (1 : Int32))]))
    refine own_by (fun tz kz => XS.icmpNo X47.here hx rfl (hb hby at_136) rfl (teq (by decide : (1 : Int32) = (1 : Int32))).2 kz) ?_
    show own_Go p e below s _ _ (T47.setTop (mkF m 139 #[.val (.int p0), .val (.ref b1), .val (.ref b22), .val (.int (3 : Int32))] []))
    refine own_by (fun tz kz => XS.iconst X47.here hx rfl (hb hby at_139) kz) ?_
    show own_Go p e below s _ _ (T47.setTop (mkF m 140 #[.val (.int p0), .val (.ref b1), .val (.ref b22), .val (.int (3 : Int32))] [(.int (1 : Int32))]))
    refine own_by (fun tz kz => XS.goto X47.here hx rfl (pc0 := 140) (pc' := 144) rfl (hb hby at_140) (by decide) (by decide) kz) ?_
    show own_Go p e below s _ _ (T47.setTop (mkF m 144 #[.val (.int p0), .val (.ref b1), .val (.ref b22), .val (.int (3 : Int32))] [(.int (1 : Int32))]))
    refine own_retI X47 hx hlk (t := .boolean) hret (by simp) rfl (hb hby at_144) ?_ (by decide) (by decide)
    exact ⟨rfl, N47⟩
  · show own_Go p e below s _ _ (T32.setTop (mkF m 127 #[.val (.int p0), .val (.ref b1), .val (.ref b22), .val (.int (4 : Int32))] []))
    refine own_by (fun tz kz => XS.aloadN X32.here hx rfl (hb hby at_127) rfl rfl kz) ?_
    show own_Go p e below s _ _ (T32.setTop (mkF m 128 #[.val (.int p0), .val (.ref b1), .val (.ref b22), .val (.int (4 : Int32))] [(.ref b1)]))
    refine own_by (fun tz kz => XS.iloadN X32.here hx rfl (hb hby at_128) rfl  kz) ?_
    show own_Go p e below s _ _ (T32.setTop (mkF m 129 #[.val (.int p0), .val (.ref b1), .val (.ref b22), .val (.int (4 : Int32))] [(.int (4 : Int32)), (.ref b1)]))
    have f50 := (((((((((((Arv.ext V21 E22).other W23 ne_b1_b22).other W24 ne_b1_b22).other W25 ne_b1_b22).other W26 ne_b1_b22).other W27 ne_b1_b22).other W28 ne_b1_b22).other W29 ne_b1_b22).other W30 ne_b1_b22).other W31 ne_b1_b22).other W32 ne_b1_b22)
    obtain ⟨c49, Ar49, q49, S49, M49, Hh49, G49⟩ := id f50
    have hin49 : ¬ ((4 : Int32) < 0 ∨ c49.slots.size ≤ ((4 : Int32)).toNatClampNeg) := inb_of S49 ⟨by decide, by decide⟩
    have hat49 := Has.at Hh49 hin49 (v := (.ref w4)) rfl
    refine own_by (fun tz kz => X32.aaload hx (j := (4 : Int32)) (v := (.ref w4)) (by rw [e32]; exact Ar49.1) (State.isArrayOf_alike hZ.alike Ar49.2.1) rfl Ar49.2.2 hin49 hat49 (g := (mkF m 129 #[.val (.int p0), .val (.ref b1), .val (.ref b22), .val (.int (4 : Int32))] [(.int (4 : Int32)), (.ref b1)])) rfl rfl (hb hby at_129) _ kz) ?_
    show own_Go p e below s _ _ (T32.setTop (mkF m 130 #[.val (.int p0), .val (.ref b1), .val (.ref b22), .val (.int (4 : Int32))] [(.ref w4)]))
    obtain ⟨cq51, kq51, q51a, q51b, q51c⟩ := isOf hZ e32 (E_4.ext O32.2)
    obtain ⟨_, _, ⟨T51, L51, k51, n51⟩, -, X51, ⟨Lc51, hQ51, l51, y51, z51⟩, st51⟩ := X32.virtualBack hx (y := (⟨"com/example/placerfill/placerfill/OrderAction", "reachesChildren", "()Z"⟩ : MethodName)) (z := (⟨"com/example/placerfill/placerfill/OrderAction", "reachesChildren", "()Z"⟩ : MethodName)) hown (mvT hZ (hw _ (List.mem_of_getElem? (i := 30) rfl))) (mvT hZ (hw _ (List.mem_of_getElem? (i := 31) rfl))) (notFace_of_selects (args := #[]) (mvT hZ (hw _ (List.mem_of_getElem? (i := 33) rfl)))) (mvT hZ (hw _ (List.mem_of_getElem? (i := 37) rfl))) (mvT hZ (hw _ (List.mem_of_getElem? (i := 32) rfl))) (by decide) (backOf (W := 0) (rm_some l Z a0 hw [] w4 r4 h32 n0 (F_4.ext O32.2)) hZ (hw _ (List.mem_of_getElem? (i := 34) rfl)) (hw _ (List.mem_of_getElem? (i := 3) rfl)) (by decide) (by decide)) q51a q51c (g := (mkF m 130 #[.val (.int p0), .val (.ref b1), .val (.ref b22), .val (.int (4 : Int32))] [(.ref w4)])) rfl (by rw [hml]; rfl) (Steps.refl _) (argsL := []) (rest := []) (lenOf pd_0 rfl) rfl (by show 2 * 0 + _ ≤ _; exact Nat.le_of_eq rfl) (hb hby at_130) (fun _ _ => ⟨rfl, e32, (by decide : 2 + 0 ≤ _), (by decide : 20 + 0 ≤ _)⟩)
    dsimp only [Pt.U, Pt.locs, Pt.cells, Pt.slots] at X51 l51 y51 z51 st51 hQ51
    rw [l51, y51, z51] at X51
    obtain ⟨rfl, Nq51, e51⟩ := hQ51
    have N51 := Fr.app N32 Nq51
    refine own_via st51 ?_
    show own_Go p e below s _ _ (T51.setTop (mkF m 133 #[.val (.int p0), .val (.ref b1), .val (.ref b22), .val (.int (4 : Int32))] [(.int (1 : Int32))]))
    refine own_by (fun tz kz => XS.aloadN X51.here hx rfl (hb hby at_133) rfl rfl kz) ?_
    show own_Go p e below s _ _ (T51.setTop (mkF m 134 #[.val (.int p0), .val (.ref b1), .val (.ref b22), .val (.int (4 : Int32))] [(.ref b22), (.int (1 : Int32))]))
    refine own_by (fun tz kz => XS.iloadN X51.here hx rfl (hb hby at_134) rfl  kz) ?_
    show own_Go p e below s _ _ (T51.setTop (mkF m 135 #[.val (.int p0), .val (.ref b1), .val (.ref b22), .val (.int (4 : Int32))] [(.int (4 : Int32)), (.ref b22), (.int (1 : Int32))]))
    obtain ⟨c52, Ar52, q52, S52, M52, Hh52, G52⟩ := id V32
    have hin52 : ¬ ((4 : Int32) < 0 ∨ c52.slots.size ≤ ((4 : Int32)).toNatClampNeg) := inb_of S52 ⟨by decide, by decide⟩
    have hat52 := Has.at Hh52 hin52 (v := (.int (1 : Int32))) rfl
    refine own_by (fun tz kz => X51.baloadBooleans hx (j := (4 : Int32)) (v := (.int (1 : Int32))) (by rw [e51]; exact Ar52.1) (State.isArrayOf_alike hZ.alike Ar52.2.1) Ar52.2.2 hin52 hat52 (g := (mkF m 135 #[.val (.int p0), .val (.ref b1), .val (.ref b22), .val (.int (4 : Int32))] [(.int (4 : Int32)), (.ref b22), (.int (1 : Int32))])) rfl rfl (hb hby at_135) _ kz) ?_
    show own_Go p e below s _ _ (T51.setTop (mkF m 136 #[.val (.int p0), .val (.ref b1), .val (.ref b22), .val (.int (4 : Int32))] [(.int (1 : Int32)), (.int (1 : Int32))]))
    refine own_by (fun tz kz => XS.icmpNo X51.here hx rfl (hb hby at_136) rfl (teq (by decide : (1 : Int32) = (1 : Int32))).2 kz) ?_
    show own_Go p e below s _ _ (T51.setTop (mkF m 139 #[.val (.int p0), .val (.ref b1), .val (.ref b22), .val (.int (4 : Int32))] []))
    refine own_by (fun tz kz => XS.iconst X51.here hx rfl (hb hby at_139) kz) ?_
    show own_Go p e below s _ _ (T51.setTop (mkF m 140 #[.val (.int p0), .val (.ref b1), .val (.ref b22), .val (.int (4 : Int32))] [(.int (1 : Int32))]))
    refine own_by (fun tz kz => XS.goto X51.here hx rfl (pc0 := 140) (pc' := 144) rfl (hb hby at_140) (by decide) (by decide) kz) ?_
    show own_Go p e below s _ _ (T51.setTop (mkF m 144 #[.val (.int p0), .val (.ref b1), .val (.ref b22), .val (.int (4 : Int32))] [(.int (1 : Int32))]))
    refine own_retI X51 hx hlk (t := .boolean) hret (by simp) rfl (hb hby at_144) ?_ (by decide) (by decide)
    exact ⟨rfl, N51⟩
  · show own_Go p e below s _ _ (T32.setTop (mkF m 127 #[.val (.int p0), .val (.ref b1), .val (.ref b22), .val (.int (5 : Int32))] []))
    refine own_by (fun tz kz => XS.aloadN X32.here hx rfl (hb hby at_127) rfl rfl kz) ?_
    show own_Go p e below s _ _ (T32.setTop (mkF m 128 #[.val (.int p0), .val (.ref b1), .val (.ref b22), .val (.int (5 : Int32))] [(.ref b1)]))
    refine own_by (fun tz kz => XS.iloadN X32.here hx rfl (hb hby at_128) rfl  kz) ?_
    show own_Go p e below s _ _ (T32.setTop (mkF m 129 #[.val (.int p0), .val (.ref b1), .val (.ref b22), .val (.int (5 : Int32))] [(.int (5 : Int32)), (.ref b1)]))
    have f54 := (((((((((((Arv.ext V21 E22).other W23 ne_b1_b22).other W24 ne_b1_b22).other W25 ne_b1_b22).other W26 ne_b1_b22).other W27 ne_b1_b22).other W28 ne_b1_b22).other W29 ne_b1_b22).other W30 ne_b1_b22).other W31 ne_b1_b22).other W32 ne_b1_b22)
    obtain ⟨c53, Ar53, q53, S53, M53, Hh53, G53⟩ := id f54
    have hin53 : ¬ ((5 : Int32) < 0 ∨ c53.slots.size ≤ ((5 : Int32)).toNatClampNeg) := inb_of S53 ⟨by decide, by decide⟩
    have hat53 := Has.at Hh53 hin53 (v := (.ref w5)) rfl
    refine own_by (fun tz kz => X32.aaload hx (j := (5 : Int32)) (v := (.ref w5)) (by rw [e32]; exact Ar53.1) (State.isArrayOf_alike hZ.alike Ar53.2.1) rfl Ar53.2.2 hin53 hat53 (g := (mkF m 129 #[.val (.int p0), .val (.ref b1), .val (.ref b22), .val (.int (5 : Int32))] [(.int (5 : Int32)), (.ref b1)])) rfl rfl (hb hby at_129) _ kz) ?_
    show own_Go p e below s _ _ (T32.setTop (mkF m 130 #[.val (.int p0), .val (.ref b1), .val (.ref b22), .val (.int (5 : Int32))] [(.ref w5)]))
    obtain ⟨cq55, kq55, q55a, q55b, q55c⟩ := isOf hZ e32 (E_5.ext O32.2)
    obtain ⟨_, _, ⟨T55, L55, k55, n55⟩, -, X55, ⟨Lc55, hQ55, l55, y55, z55⟩, st55⟩ := X32.virtualBack hx (y := (⟨"com/example/placerfill/placerfill/OrderAction", "reachesChildren", "()Z"⟩ : MethodName)) (z := (⟨"com/example/placerfill/placerfill/OrderAction$2", "reachesChildren", "()Z"⟩ : MethodName)) hown (mvT hZ (hw _ (List.mem_of_getElem? (i := 30) rfl))) (mvT hZ (hw _ (List.mem_of_getElem? (i := 31) rfl))) (notFace_of_selects (args := #[]) (mvT hZ (hw _ (List.mem_of_getElem? (i := 33) rfl)))) (mvT hZ (hw _ (List.mem_of_getElem? (i := 48) rfl))) (mvT hZ (hw _ (List.mem_of_getElem? (i := 49) rfl))) (by decide) (backOf (W := 0) (rm_two l Z a0 hw [] w5 h32 n0) hZ (hw _ (List.mem_of_getElem? (i := 51) rfl)) (hw _ (List.mem_of_getElem? (i := 50) rfl)) (by decide) (by decide)) q55a q55c (g := (mkF m 130 #[.val (.int p0), .val (.ref b1), .val (.ref b22), .val (.int (5 : Int32))] [(.ref w5)])) rfl (by rw [hml]; rfl) (Steps.refl _) (argsL := []) (rest := []) (lenOf pd_0 rfl) rfl (by show 2 * 0 + _ ≤ _; exact Nat.le_of_eq rfl) (hb hby at_130) (fun _ _ => ⟨rfl, e32, (by decide : 2 + 0 ≤ _), (by decide : 20 + 0 ≤ _)⟩)
    dsimp only [Pt.U, Pt.locs, Pt.cells, Pt.slots] at X55 l55 y55 z55 st55 hQ55
    rw [l55, y55, z55] at X55
    obtain ⟨rfl, Nq55, e55⟩ := hQ55
    have N55 := Fr.app N32 Nq55
    refine own_via st55 ?_
    show own_Go p e below s _ _ (T55.setTop (mkF m 133 #[.val (.int p0), .val (.ref b1), .val (.ref b22), .val (.int (5 : Int32))] [(.int (1 : Int32))]))
    refine own_by (fun tz kz => XS.aloadN X55.here hx rfl (hb hby at_133) rfl rfl kz) ?_
    show own_Go p e below s _ _ (T55.setTop (mkF m 134 #[.val (.int p0), .val (.ref b1), .val (.ref b22), .val (.int (5 : Int32))] [(.ref b22), (.int (1 : Int32))]))
    refine own_by (fun tz kz => XS.iloadN X55.here hx rfl (hb hby at_134) rfl  kz) ?_
    show own_Go p e below s _ _ (T55.setTop (mkF m 135 #[.val (.int p0), .val (.ref b1), .val (.ref b22), .val (.int (5 : Int32))] [(.int (5 : Int32)), (.ref b22), (.int (1 : Int32))]))
    obtain ⟨c56, Ar56, q56, S56, M56, Hh56, G56⟩ := id V32
    have hin56 : ¬ ((5 : Int32) < 0 ∨ c56.slots.size ≤ ((5 : Int32)).toNatClampNeg) := inb_of S56 ⟨by decide, by decide⟩
    have hat56 := Has.at Hh56 hin56 (v := (.int (1 : Int32))) rfl
    refine own_by (fun tz kz => X55.baloadBooleans hx (j := (5 : Int32)) (v := (.int (1 : Int32))) (by rw [e55]; exact Ar56.1) (State.isArrayOf_alike hZ.alike Ar56.2.1) Ar56.2.2 hin56 hat56 (g := (mkF m 135 #[.val (.int p0), .val (.ref b1), .val (.ref b22), .val (.int (5 : Int32))] [(.int (5 : Int32)), (.ref b22), (.int (1 : Int32))])) rfl rfl (hb hby at_135) _ kz) ?_
    show own_Go p e below s _ _ (T55.setTop (mkF m 136 #[.val (.int p0), .val (.ref b1), .val (.ref b22), .val (.int (5 : Int32))] [(.int (1 : Int32)), (.int (1 : Int32))]))
    refine own_by (fun tz kz => XS.icmpNo X55.here hx rfl (hb hby at_136) rfl (teq (by decide : (1 : Int32) = (1 : Int32))).2 kz) ?_
    show own_Go p e below s _ _ (T55.setTop (mkF m 139 #[.val (.int p0), .val (.ref b1), .val (.ref b22), .val (.int (5 : Int32))] []))
    refine own_by (fun tz kz => XS.iconst X55.here hx rfl (hb hby at_139) kz) ?_
    show own_Go p e below s _ _ (T55.setTop (mkF m 140 #[.val (.int p0), .val (.ref b1), .val (.ref b22), .val (.int (5 : Int32))] [(.int (1 : Int32))]))
    refine own_by (fun tz kz => XS.goto X55.here hx rfl (pc0 := 140) (pc' := 144) rfl (hb hby at_140) (by decide) (by decide) kz) ?_
    show own_Go p e below s _ _ (T55.setTop (mkF m 144 #[.val (.int p0), .val (.ref b1), .val (.ref b22), .val (.int (5 : Int32))] [(.int (1 : Int32))]))
    refine own_retI X55 hx hlk (t := .boolean) hret (by simp) rfl (hb hby at_144) ?_ (by decide) (by decide)
    exact ⟨rfl, N55⟩
  · show own_Go p e below s _ _ (T32.setTop (mkF m 127 #[.val (.int p0), .val (.ref b1), .val (.ref b22), .val (.int (6 : Int32))] []))
    refine own_by (fun tz kz => XS.aloadN X32.here hx rfl (hb hby at_127) rfl rfl kz) ?_
    show own_Go p e below s _ _ (T32.setTop (mkF m 128 #[.val (.int p0), .val (.ref b1), .val (.ref b22), .val (.int (6 : Int32))] [(.ref b1)]))
    refine own_by (fun tz kz => XS.iloadN X32.here hx rfl (hb hby at_128) rfl  kz) ?_
    show own_Go p e below s _ _ (T32.setTop (mkF m 129 #[.val (.int p0), .val (.ref b1), .val (.ref b22), .val (.int (6 : Int32))] [(.int (6 : Int32)), (.ref b1)]))
    have f58 := (((((((((((Arv.ext V21 E22).other W23 ne_b1_b22).other W24 ne_b1_b22).other W25 ne_b1_b22).other W26 ne_b1_b22).other W27 ne_b1_b22).other W28 ne_b1_b22).other W29 ne_b1_b22).other W30 ne_b1_b22).other W31 ne_b1_b22).other W32 ne_b1_b22)
    obtain ⟨c57, Ar57, q57, S57, M57, Hh57, G57⟩ := id f58
    have hin57 : ¬ ((6 : Int32) < 0 ∨ c57.slots.size ≤ ((6 : Int32)).toNatClampNeg) := inb_of S57 ⟨by decide, by decide⟩
    have hat57 := Has.at Hh57 hin57 (v := (.ref w6)) rfl
    refine own_by (fun tz kz => X32.aaload hx (j := (6 : Int32)) (v := (.ref w6)) (by rw [e32]; exact Ar57.1) (State.isArrayOf_alike hZ.alike Ar57.2.1) rfl Ar57.2.2 hin57 hat57 (g := (mkF m 129 #[.val (.int p0), .val (.ref b1), .val (.ref b22), .val (.int (6 : Int32))] [(.int (6 : Int32)), (.ref b1)])) rfl rfl (hb hby at_129) _ kz) ?_
    show own_Go p e below s _ _ (T32.setTop (mkF m 130 #[.val (.int p0), .val (.ref b1), .val (.ref b22), .val (.int (6 : Int32))] [(.ref w6)]))
    obtain ⟨cq59, kq59, q59a, q59b, q59c⟩ := isOf hZ e32 (E_6.ext O32.2)
    obtain ⟨_, _, ⟨T59, L59, k59, n59⟩, -, X59, ⟨Lc59, hQ59, l59, y59, z59⟩, st59⟩ := X32.virtualBack hx (y := (⟨"com/example/placerfill/placerfill/OrderAction", "reachesChildren", "()Z"⟩ : MethodName)) (z := (⟨"com/example/placerfill/placerfill/OrderAction", "reachesChildren", "()Z"⟩ : MethodName)) hown (mvT hZ (hw _ (List.mem_of_getElem? (i := 30) rfl))) (mvT hZ (hw _ (List.mem_of_getElem? (i := 31) rfl))) (notFace_of_selects (args := #[]) (mvT hZ (hw _ (List.mem_of_getElem? (i := 33) rfl)))) (mvT hZ (hw _ (List.mem_of_getElem? (i := 37) rfl))) (mvT hZ (hw _ (List.mem_of_getElem? (i := 32) rfl))) (by decide) (backOf (W := 0) (rm_some l Z a0 hw [] w6 r6 h32 n0 (F_6.ext O32.2)) hZ (hw _ (List.mem_of_getElem? (i := 34) rfl)) (hw _ (List.mem_of_getElem? (i := 3) rfl)) (by decide) (by decide)) q59a q59c (g := (mkF m 130 #[.val (.int p0), .val (.ref b1), .val (.ref b22), .val (.int (6 : Int32))] [(.ref w6)])) rfl (by rw [hml]; rfl) (Steps.refl _) (argsL := []) (rest := []) (lenOf pd_0 rfl) rfl (by show 2 * 0 + _ ≤ _; exact Nat.le_of_eq rfl) (hb hby at_130) (fun _ _ => ⟨rfl, e32, (by decide : 2 + 0 ≤ _), (by decide : 20 + 0 ≤ _)⟩)
    dsimp only [Pt.U, Pt.locs, Pt.cells, Pt.slots] at X59 l59 y59 z59 st59 hQ59
    rw [l59, y59, z59] at X59
    obtain ⟨rfl, Nq59, e59⟩ := hQ59
    have N59 := Fr.app N32 Nq59
    refine own_via st59 ?_
    show own_Go p e below s _ _ (T59.setTop (mkF m 133 #[.val (.int p0), .val (.ref b1), .val (.ref b22), .val (.int (6 : Int32))] [(.int (1 : Int32))]))
    refine own_by (fun tz kz => XS.aloadN X59.here hx rfl (hb hby at_133) rfl rfl kz) ?_
    show own_Go p e below s _ _ (T59.setTop (mkF m 134 #[.val (.int p0), .val (.ref b1), .val (.ref b22), .val (.int (6 : Int32))] [(.ref b22), (.int (1 : Int32))]))
    refine own_by (fun tz kz => XS.iloadN X59.here hx rfl (hb hby at_134) rfl  kz) ?_
    show own_Go p e below s _ _ (T59.setTop (mkF m 135 #[.val (.int p0), .val (.ref b1), .val (.ref b22), .val (.int (6 : Int32))] [(.int (6 : Int32)), (.ref b22), (.int (1 : Int32))]))
    obtain ⟨c60, Ar60, q60, S60, M60, Hh60, G60⟩ := id V32
    have hin60 : ¬ ((6 : Int32) < 0 ∨ c60.slots.size ≤ ((6 : Int32)).toNatClampNeg) := inb_of S60 ⟨by decide, by decide⟩
    have hat60 := Has.at Hh60 hin60 (v := (.int (1 : Int32))) rfl
    refine own_by (fun tz kz => X59.baloadBooleans hx (j := (6 : Int32)) (v := (.int (1 : Int32))) (by rw [e59]; exact Ar60.1) (State.isArrayOf_alike hZ.alike Ar60.2.1) Ar60.2.2 hin60 hat60 (g := (mkF m 135 #[.val (.int p0), .val (.ref b1), .val (.ref b22), .val (.int (6 : Int32))] [(.int (6 : Int32)), (.ref b22), (.int (1 : Int32))])) rfl rfl (hb hby at_135) _ kz) ?_
    show own_Go p e below s _ _ (T59.setTop (mkF m 136 #[.val (.int p0), .val (.ref b1), .val (.ref b22), .val (.int (6 : Int32))] [(.int (1 : Int32)), (.int (1 : Int32))]))
    refine own_by (fun tz kz => XS.icmpNo X59.here hx rfl (hb hby at_136) rfl (teq (by decide : (1 : Int32) = (1 : Int32))).2 kz) ?_
    show own_Go p e below s _ _ (T59.setTop (mkF m 139 #[.val (.int p0), .val (.ref b1), .val (.ref b22), .val (.int (6 : Int32))] []))
    refine own_by (fun tz kz => XS.iconst X59.here hx rfl (hb hby at_139) kz) ?_
    show own_Go p e below s _ _ (T59.setTop (mkF m 140 #[.val (.int p0), .val (.ref b1), .val (.ref b22), .val (.int (6 : Int32))] [(.int (1 : Int32))]))
    refine own_by (fun tz kz => XS.goto X59.here hx rfl (pc0 := 140) (pc' := 144) rfl (hb hby at_140) (by decide) (by decide) kz) ?_
    show own_Go p e below s _ _ (T59.setTop (mkF m 144 #[.val (.int p0), .val (.ref b1), .val (.ref b22), .val (.int (6 : Int32))] [(.int (1 : Int32))]))
    refine own_retI X59 hx hlk (t := .boolean) hret (by simp) rfl (hb hby at_144) ?_ (by decide) (by decide)
    exact ⟨rfl, N59⟩
  · show own_Go p e below s _ _ (T32.setTop (mkF m 127 #[.val (.int p0), .val (.ref b1), .val (.ref b22), .val (.int (7 : Int32))] []))
    refine own_by (fun tz kz => XS.aloadN X32.here hx rfl (hb hby at_127) rfl rfl kz) ?_
    show own_Go p e below s _ _ (T32.setTop (mkF m 128 #[.val (.int p0), .val (.ref b1), .val (.ref b22), .val (.int (7 : Int32))] [(.ref b1)]))
    refine own_by (fun tz kz => XS.iloadN X32.here hx rfl (hb hby at_128) rfl  kz) ?_
    show own_Go p e below s _ _ (T32.setTop (mkF m 129 #[.val (.int p0), .val (.ref b1), .val (.ref b22), .val (.int (7 : Int32))] [(.int (7 : Int32)), (.ref b1)]))
    have f62 := (((((((((((Arv.ext V21 E22).other W23 ne_b1_b22).other W24 ne_b1_b22).other W25 ne_b1_b22).other W26 ne_b1_b22).other W27 ne_b1_b22).other W28 ne_b1_b22).other W29 ne_b1_b22).other W30 ne_b1_b22).other W31 ne_b1_b22).other W32 ne_b1_b22)
    obtain ⟨c61, Ar61, q61, S61, M61, Hh61, G61⟩ := id f62
    have hin61 : ¬ ((7 : Int32) < 0 ∨ c61.slots.size ≤ ((7 : Int32)).toNatClampNeg) := inb_of S61 ⟨by decide, by decide⟩
    have hat61 := Has.at Hh61 hin61 (v := (.ref w7)) rfl
    refine own_by (fun tz kz => X32.aaload hx (j := (7 : Int32)) (v := (.ref w7)) (by rw [e32]; exact Ar61.1) (State.isArrayOf_alike hZ.alike Ar61.2.1) rfl Ar61.2.2 hin61 hat61 (g := (mkF m 129 #[.val (.int p0), .val (.ref b1), .val (.ref b22), .val (.int (7 : Int32))] [(.int (7 : Int32)), (.ref b1)])) rfl rfl (hb hby at_129) _ kz) ?_
    show own_Go p e below s _ _ (T32.setTop (mkF m 130 #[.val (.int p0), .val (.ref b1), .val (.ref b22), .val (.int (7 : Int32))] [(.ref w7)]))
    obtain ⟨cq63, kq63, q63a, q63b, q63c⟩ := isOf hZ e32 (E_7.ext O32.2)
    obtain ⟨_, _, ⟨T63, L63, k63, n63⟩, -, X63, ⟨Lc63, hQ63, l63, y63, z63⟩, st63⟩ := X32.virtualBack hx (y := (⟨"com/example/placerfill/placerfill/OrderAction", "reachesChildren", "()Z"⟩ : MethodName)) (z := (⟨"com/example/placerfill/placerfill/OrderAction", "reachesChildren", "()Z"⟩ : MethodName)) hown (mvT hZ (hw _ (List.mem_of_getElem? (i := 30) rfl))) (mvT hZ (hw _ (List.mem_of_getElem? (i := 31) rfl))) (notFace_of_selects (args := #[]) (mvT hZ (hw _ (List.mem_of_getElem? (i := 33) rfl)))) (mvT hZ (hw _ (List.mem_of_getElem? (i := 43) rfl))) (mvT hZ (hw _ (List.mem_of_getElem? (i := 32) rfl))) (by decide) (backOf (W := 0) (rm_null l Z a0 hw [] w7 h32 n0 (F_7.ext O32.2)) hZ (hw _ (List.mem_of_getElem? (i := 34) rfl)) (hw _ (List.mem_of_getElem? (i := 3) rfl)) (by decide) (by decide)) q63a q63c (g := (mkF m 130 #[.val (.int p0), .val (.ref b1), .val (.ref b22), .val (.int (7 : Int32))] [(.ref w7)])) rfl (by rw [hml]; rfl) (Steps.refl _) (argsL := []) (rest := []) (lenOf pd_0 rfl) rfl (by show 2 * 0 + _ ≤ _; exact Nat.le_of_eq rfl) (hb hby at_130) (fun _ _ => ⟨rfl, e32, (by decide : 2 + 0 ≤ _), (by decide : 20 + 0 ≤ _)⟩)
    dsimp only [Pt.U, Pt.locs, Pt.cells, Pt.slots] at X63 l63 y63 z63 st63 hQ63
    rw [l63, y63, z63] at X63
    obtain ⟨rfl, Nq63, e63⟩ := hQ63
    have N63 := Fr.app N32 Nq63
    refine own_via st63 ?_
    show own_Go p e below s _ _ (T63.setTop (mkF m 133 #[.val (.int p0), .val (.ref b1), .val (.ref b22), .val (.int (7 : Int32))] [(.int (0 : Int32))]))
    refine own_by (fun tz kz => XS.aloadN X63.here hx rfl (hb hby at_133) rfl rfl kz) ?_
    show own_Go p e below s _ _ (T63.setTop (mkF m 134 #[.val (.int p0), .val (.ref b1), .val (.ref b22), .val (.int (7 : Int32))] [(.ref b22), (.int (0 : Int32))]))
    refine own_by (fun tz kz => XS.iloadN X63.here hx rfl (hb hby at_134) rfl  kz) ?_
    show own_Go p e below s _ _ (T63.setTop (mkF m 135 #[.val (.int p0), .val (.ref b1), .val (.ref b22), .val (.int (7 : Int32))] [(.int (7 : Int32)), (.ref b22), (.int (0 : Int32))]))
    obtain ⟨c64, Ar64, q64, S64, M64, Hh64, G64⟩ := id V32
    have hin64 : ¬ ((7 : Int32) < 0 ∨ c64.slots.size ≤ ((7 : Int32)).toNatClampNeg) := inb_of S64 ⟨by decide, by decide⟩
    have hat64 := Has.at Hh64 hin64 (v := (.int (0 : Int32))) rfl
    refine own_by (fun tz kz => X63.baloadBooleans hx (j := (7 : Int32)) (v := (.int (0 : Int32))) (by rw [e63]; exact Ar64.1) (State.isArrayOf_alike hZ.alike Ar64.2.1) Ar64.2.2 hin64 hat64 (g := (mkF m 135 #[.val (.int p0), .val (.ref b1), .val (.ref b22), .val (.int (7 : Int32))] [(.int (7 : Int32)), (.ref b22), (.int (0 : Int32))])) rfl rfl (hb hby at_135) _ kz) ?_
    show own_Go p e below s _ _ (T63.setTop (mkF m 136 #[.val (.int p0), .val (.ref b1), .val (.ref b22), .val (.int (7 : Int32))] [(.int (0 : Int32)), (.int (0 : Int32))]))
    refine own_by (fun tz kz => XS.icmpNo X63.here hx rfl (hb hby at_136) rfl (teq (by decide : (0 : Int32) = (0 : Int32))).2 kz) ?_
    show own_Go p e below s _ _ (T63.setTop (mkF m 139 #[.val (.int p0), .val (.ref b1), .val (.ref b22), .val (.int (7 : Int32))] []))
    refine own_by (fun tz kz => XS.iconst X63.here hx rfl (hb hby at_139) kz) ?_
    show own_Go p e below s _ _ (T63.setTop (mkF m 140 #[.val (.int p0), .val (.ref b1), .val (.ref b22), .val (.int (7 : Int32))] [(.int (1 : Int32))]))
    refine own_by (fun tz kz => XS.goto X63.here hx rfl (pc0 := 140) (pc' := 144) rfl (hb hby at_140) (by decide) (by decide) kz) ?_
    show own_Go p e below s _ _ (T63.setTop (mkF m 144 #[.val (.int p0), .val (.ref b1), .val (.ref b22), .val (.int (7 : Int32))] [(.int (1 : Int32))]))
    refine own_retI X63 hx hlk (t := .boolean) hret (by simp) rfl (hb hby at_144) ?_ (by decide) (by decide)
    exact ⟨rfl, N63⟩
  · show own_Go p e below s _ _ (T32.setTop (mkF m 127 #[.val (.int p0), .val (.ref b1), .val (.ref b22), .val (.int (8 : Int32))] []))
    refine own_by (fun tz kz => XS.aloadN X32.here hx rfl (hb hby at_127) rfl rfl kz) ?_
    show own_Go p e below s _ _ (T32.setTop (mkF m 128 #[.val (.int p0), .val (.ref b1), .val (.ref b22), .val (.int (8 : Int32))] [(.ref b1)]))
    refine own_by (fun tz kz => XS.iloadN X32.here hx rfl (hb hby at_128) rfl  kz) ?_
    show own_Go p e below s _ _ (T32.setTop (mkF m 129 #[.val (.int p0), .val (.ref b1), .val (.ref b22), .val (.int (8 : Int32))] [(.int (8 : Int32)), (.ref b1)]))
    have f66 := (((((((((((Arv.ext V21 E22).other W23 ne_b1_b22).other W24 ne_b1_b22).other W25 ne_b1_b22).other W26 ne_b1_b22).other W27 ne_b1_b22).other W28 ne_b1_b22).other W29 ne_b1_b22).other W30 ne_b1_b22).other W31 ne_b1_b22).other W32 ne_b1_b22)
    obtain ⟨c65, Ar65, q65, S65, M65, Hh65, G65⟩ := id f66
    have hin65 : ¬ ((8 : Int32) < 0 ∨ c65.slots.size ≤ ((8 : Int32)).toNatClampNeg) := inb_of S65 ⟨by decide, by decide⟩
    have hat65 := Has.at Hh65 hin65 (v := (.ref w8)) rfl
    refine own_by (fun tz kz => X32.aaload hx (j := (8 : Int32)) (v := (.ref w8)) (by rw [e32]; exact Ar65.1) (State.isArrayOf_alike hZ.alike Ar65.2.1) rfl Ar65.2.2 hin65 hat65 (g := (mkF m 129 #[.val (.int p0), .val (.ref b1), .val (.ref b22), .val (.int (8 : Int32))] [(.int (8 : Int32)), (.ref b1)])) rfl rfl (hb hby at_129) _ kz) ?_
    show own_Go p e below s _ _ (T32.setTop (mkF m 130 #[.val (.int p0), .val (.ref b1), .val (.ref b22), .val (.int (8 : Int32))] [(.ref w8)]))
    obtain ⟨cq67, kq67, q67a, q67b, q67c⟩ := isOf hZ e32 (E_8.ext O32.2)
    obtain ⟨_, _, ⟨T67, L67, k67, n67⟩, -, X67, ⟨Lc67, hQ67, l67, y67, z67⟩, st67⟩ := X32.virtualBack hx (y := (⟨"com/example/placerfill/placerfill/OrderAction", "reachesChildren", "()Z"⟩ : MethodName)) (z := (⟨"com/example/placerfill/placerfill/OrderAction", "reachesChildren", "()Z"⟩ : MethodName)) hown (mvT hZ (hw _ (List.mem_of_getElem? (i := 30) rfl))) (mvT hZ (hw _ (List.mem_of_getElem? (i := 31) rfl))) (notFace_of_selects (args := #[]) (mvT hZ (hw _ (List.mem_of_getElem? (i := 33) rfl)))) (mvT hZ (hw _ (List.mem_of_getElem? (i := 37) rfl))) (mvT hZ (hw _ (List.mem_of_getElem? (i := 32) rfl))) (by decide) (backOf (W := 0) (rm_null l Z a0 hw [] w8 h32 n0 (F_8.ext O32.2)) hZ (hw _ (List.mem_of_getElem? (i := 34) rfl)) (hw _ (List.mem_of_getElem? (i := 3) rfl)) (by decide) (by decide)) q67a q67c (g := (mkF m 130 #[.val (.int p0), .val (.ref b1), .val (.ref b22), .val (.int (8 : Int32))] [(.ref w8)])) rfl (by rw [hml]; rfl) (Steps.refl _) (argsL := []) (rest := []) (lenOf pd_0 rfl) rfl (by show 2 * 0 + _ ≤ _; exact Nat.le_of_eq rfl) (hb hby at_130) (fun _ _ => ⟨rfl, e32, (by decide : 2 + 0 ≤ _), (by decide : 20 + 0 ≤ _)⟩)
    dsimp only [Pt.U, Pt.locs, Pt.cells, Pt.slots] at X67 l67 y67 z67 st67 hQ67
    rw [l67, y67, z67] at X67
    obtain ⟨rfl, Nq67, e67⟩ := hQ67
    have N67 := Fr.app N32 Nq67
    refine own_via st67 ?_
    show own_Go p e below s _ _ (T67.setTop (mkF m 133 #[.val (.int p0), .val (.ref b1), .val (.ref b22), .val (.int (8 : Int32))] [(.int (0 : Int32))]))
    refine own_by (fun tz kz => XS.aloadN X67.here hx rfl (hb hby at_133) rfl rfl kz) ?_
    show own_Go p e below s _ _ (T67.setTop (mkF m 134 #[.val (.int p0), .val (.ref b1), .val (.ref b22), .val (.int (8 : Int32))] [(.ref b22), (.int (0 : Int32))]))
    refine own_by (fun tz kz => XS.iloadN X67.here hx rfl (hb hby at_134) rfl  kz) ?_
    show own_Go p e below s _ _ (T67.setTop (mkF m 135 #[.val (.int p0), .val (.ref b1), .val (.ref b22), .val (.int (8 : Int32))] [(.int (8 : Int32)), (.ref b22), (.int (0 : Int32))]))
    obtain ⟨c68, Ar68, q68, S68, M68, Hh68, G68⟩ := id V32
    have hin68 : ¬ ((8 : Int32) < 0 ∨ c68.slots.size ≤ ((8 : Int32)).toNatClampNeg) := inb_of S68 ⟨by decide, by decide⟩
    have hat68 := Has.at Hh68 hin68 (v := (.int (0 : Int32))) rfl
    refine own_by (fun tz kz => X67.baloadBooleans hx (j := (8 : Int32)) (v := (.int (0 : Int32))) (by rw [e67]; exact Ar68.1) (State.isArrayOf_alike hZ.alike Ar68.2.1) Ar68.2.2 hin68 hat68 (g := (mkF m 135 #[.val (.int p0), .val (.ref b1), .val (.ref b22), .val (.int (8 : Int32))] [(.int (8 : Int32)), (.ref b22), (.int (0 : Int32))])) rfl rfl (hb hby at_135) _ kz) ?_
    show own_Go p e below s _ _ (T67.setTop (mkF m 136 #[.val (.int p0), .val (.ref b1), .val (.ref b22), .val (.int (8 : Int32))] [(.int (0 : Int32)), (.int (0 : Int32))]))
    refine own_by (fun tz kz => XS.icmpNo X67.here hx rfl (hb hby at_136) rfl (teq (by decide : (0 : Int32) = (0 : Int32))).2 kz) ?_
    show own_Go p e below s _ _ (T67.setTop (mkF m 139 #[.val (.int p0), .val (.ref b1), .val (.ref b22), .val (.int (8 : Int32))] []))
    refine own_by (fun tz kz => XS.iconst X67.here hx rfl (hb hby at_139) kz) ?_
    show own_Go p e below s _ _ (T67.setTop (mkF m 140 #[.val (.int p0), .val (.ref b1), .val (.ref b22), .val (.int (8 : Int32))] [(.int (1 : Int32))]))
    refine own_by (fun tz kz => XS.goto X67.here hx rfl (pc0 := 140) (pc' := 144) rfl (hb hby at_140) (by decide) (by decide) kz) ?_
    show own_Go p e below s _ _ (T67.setTop (mkF m 144 #[.val (.int p0), .val (.ref b1), .val (.ref b22), .val (.int (8 : Int32))] [(.int (1 : Int32))]))
    refine own_retI X67 hx hlk (t := .boolean) hret (by simp) rfl (hb hby at_144) ?_ (by decide) (by decide)
    exact ⟨rfl, N67⟩
  · show own_Go p e below s _ _ (T32.setTop (mkF m 127 #[.val (.int p0), .val (.ref b1), .val (.ref b22), .val (.int (9 : Int32))] []))
    refine own_by (fun tz kz => XS.aloadN X32.here hx rfl (hb hby at_127) rfl rfl kz) ?_
    show own_Go p e below s _ _ (T32.setTop (mkF m 128 #[.val (.int p0), .val (.ref b1), .val (.ref b22), .val (.int (9 : Int32))] [(.ref b1)]))
    refine own_by (fun tz kz => XS.iloadN X32.here hx rfl (hb hby at_128) rfl  kz) ?_
    show own_Go p e below s _ _ (T32.setTop (mkF m 129 #[.val (.int p0), .val (.ref b1), .val (.ref b22), .val (.int (9 : Int32))] [(.int (9 : Int32)), (.ref b1)]))
    have f70 := (((((((((((Arv.ext V21 E22).other W23 ne_b1_b22).other W24 ne_b1_b22).other W25 ne_b1_b22).other W26 ne_b1_b22).other W27 ne_b1_b22).other W28 ne_b1_b22).other W29 ne_b1_b22).other W30 ne_b1_b22).other W31 ne_b1_b22).other W32 ne_b1_b22)
    obtain ⟨c69, Ar69, q69, S69, M69, Hh69, G69⟩ := id f70
    have hin69 : ¬ ((9 : Int32) < 0 ∨ c69.slots.size ≤ ((9 : Int32)).toNatClampNeg) := inb_of S69 ⟨by decide, by decide⟩
    have hat69 := Has.at Hh69 hin69 (v := (.ref w9)) rfl
    refine own_by (fun tz kz => X32.aaload hx (j := (9 : Int32)) (v := (.ref w9)) (by rw [e32]; exact Ar69.1) (State.isArrayOf_alike hZ.alike Ar69.2.1) rfl Ar69.2.2 hin69 hat69 (g := (mkF m 129 #[.val (.int p0), .val (.ref b1), .val (.ref b22), .val (.int (9 : Int32))] [(.int (9 : Int32)), (.ref b1)])) rfl rfl (hb hby at_129) _ kz) ?_
    show own_Go p e below s _ _ (T32.setTop (mkF m 130 #[.val (.int p0), .val (.ref b1), .val (.ref b22), .val (.int (9 : Int32))] [(.ref w9)]))
    obtain ⟨cq71, kq71, q71a, q71b, q71c⟩ := isOf hZ e32 (E_9.ext O32.2)
    obtain ⟨_, _, ⟨T71, L71, k71, n71⟩, -, X71, ⟨Lc71, hQ71, l71, y71, z71⟩, st71⟩ := X32.virtualBack hx (y := (⟨"com/example/placerfill/placerfill/OrderAction", "reachesChildren", "()Z"⟩ : MethodName)) (z := (⟨"com/example/placerfill/placerfill/OrderAction", "reachesChildren", "()Z"⟩ : MethodName)) hown (mvT hZ (hw _ (List.mem_of_getElem? (i := 30) rfl))) (mvT hZ (hw _ (List.mem_of_getElem? (i := 31) rfl))) (notFace_of_selects (args := #[]) (mvT hZ (hw _ (List.mem_of_getElem? (i := 33) rfl)))) (mvT hZ (hw _ (List.mem_of_getElem? (i := 46) rfl))) (mvT hZ (hw _ (List.mem_of_getElem? (i := 32) rfl))) (by decide) (backOf (W := 0) (rm_null l Z a0 hw [] w9 h32 n0 (F_9.ext O32.2)) hZ (hw _ (List.mem_of_getElem? (i := 34) rfl)) (hw _ (List.mem_of_getElem? (i := 3) rfl)) (by decide) (by decide)) q71a q71c (g := (mkF m 130 #[.val (.int p0), .val (.ref b1), .val (.ref b22), .val (.int (9 : Int32))] [(.ref w9)])) rfl (by rw [hml]; rfl) (Steps.refl _) (argsL := []) (rest := []) (lenOf pd_0 rfl) rfl (by show 2 * 0 + _ ≤ _; exact Nat.le_of_eq rfl) (hb hby at_130) (fun _ _ => ⟨rfl, e32, (by decide : 2 + 0 ≤ _), (by decide : 20 + 0 ≤ _)⟩)
    dsimp only [Pt.U, Pt.locs, Pt.cells, Pt.slots] at X71 l71 y71 z71 st71 hQ71
    rw [l71, y71, z71] at X71
    obtain ⟨rfl, Nq71, e71⟩ := hQ71
    have N71 := Fr.app N32 Nq71
    refine own_via st71 ?_
    show own_Go p e below s _ _ (T71.setTop (mkF m 133 #[.val (.int p0), .val (.ref b1), .val (.ref b22), .val (.int (9 : Int32))] [(.int (0 : Int32))]))
    refine own_by (fun tz kz => XS.aloadN X71.here hx rfl (hb hby at_133) rfl rfl kz) ?_
    show own_Go p e below s _ _ (T71.setTop (mkF m 134 #[.val (.int p0), .val (.ref b1), .val (.ref b22), .val (.int (9 : Int32))] [(.ref b22), (.int (0 : Int32))]))
    refine own_by (fun tz kz => XS.iloadN X71.here hx rfl (hb hby at_134) rfl  kz) ?_
    show own_Go p e below s _ _ (T71.setTop (mkF m 135 #[.val (.int p0), .val (.ref b1), .val (.ref b22), .val (.int (9 : Int32))] [(.int (9 : Int32)), (.ref b22), (.int (0 : Int32))]))
    obtain ⟨c72, Ar72, q72, S72, M72, Hh72, G72⟩ := id V32
    have hin72 : ¬ ((9 : Int32) < 0 ∨ c72.slots.size ≤ ((9 : Int32)).toNatClampNeg) := inb_of S72 ⟨by decide, by decide⟩
    have hat72 := Has.at Hh72 hin72 (v := (.int (0 : Int32))) rfl
    refine own_by (fun tz kz => X71.baloadBooleans hx (j := (9 : Int32)) (v := (.int (0 : Int32))) (by rw [e71]; exact Ar72.1) (State.isArrayOf_alike hZ.alike Ar72.2.1) Ar72.2.2 hin72 hat72 (g := (mkF m 135 #[.val (.int p0), .val (.ref b1), .val (.ref b22), .val (.int (9 : Int32))] [(.int (9 : Int32)), (.ref b22), (.int (0 : Int32))])) rfl rfl (hb hby at_135) _ kz) ?_
    show own_Go p e below s _ _ (T71.setTop (mkF m 136 #[.val (.int p0), .val (.ref b1), .val (.ref b22), .val (.int (9 : Int32))] [(.int (0 : Int32)), (.int (0 : Int32))]))
    refine own_by (fun tz kz => XS.icmpNo X71.here hx rfl (hb hby at_136) rfl (teq (by decide : (0 : Int32) = (0 : Int32))).2 kz) ?_
    show own_Go p e below s _ _ (T71.setTop (mkF m 139 #[.val (.int p0), .val (.ref b1), .val (.ref b22), .val (.int (9 : Int32))] []))
    refine own_by (fun tz kz => XS.iconst X71.here hx rfl (hb hby at_139) kz) ?_
    show own_Go p e below s _ _ (T71.setTop (mkF m 140 #[.val (.int p0), .val (.ref b1), .val (.ref b22), .val (.int (9 : Int32))] [(.int (1 : Int32))]))
    refine own_by (fun tz kz => XS.goto X71.here hx rfl (pc0 := 140) (pc' := 144) rfl (hb hby at_140) (by decide) (by decide) kz) ?_
    show own_Go p e below s _ _ (T71.setTop (mkF m 144 #[.val (.int p0), .val (.ref b1), .val (.ref b22), .val (.int (9 : Int32))] [(.int (1 : Int32))]))
    refine own_retI X71 hx hlk (t := .boolean) hret (by simp) rfl (hb hby at_144) ?_ (by decide) (by decide)
    exact ⟨rfl, N71⟩
set_option maxRecDepth 65536 in
set_option maxHeartbeats 40000000 in
theorem comes_1 {Post : Tables → Env → Array Value → State → Outcome → State → Prop} (hpost : ∀ tb e args s v u, (limb_1_1.after args s (.returned v) u = true ∧ limb_1_2.after args s (.returned v) u = true ∧ True) → FrameEnd s (.returned v) u (Jvm.fieldLocs frame_1_writes args s ++ Jvm.arrayLocs frame_1_arrays args s ++ Jvm.staticLocs frame_1_statics s) 16 128 → Post tb e args s (.returned v) u) :
    ArmFor flags0 classFile x code maxLocals ret World_1 tables_1 room_1 Calls_1 rest_1 Pre_1 Post := by
  intro l hfl _ _ p e ha hc hk s m args below hf hA hF happ hP
  obtain ⟨hcalls, hrest, hpre⟩ := hP
  obtain ⟨-, -, -, hnamed, -, -, -, hat⟩ := (Spec.applies_iff hf).mp happ
  obtain ⟨hg, hn⟩ := and_e (Cond.before_iff.mp (show (Jvm.Cond.and given_1 narrow_1).before args s = true from hpre))
  obtain ⟨g1a, g1b⟩ := and_e hg
  obtain ⟨w0, rfl⟩ : ∃ w0 : Value, args = #[w0] := by
    have hs : args.size = 1 := by simpa [Cond.value, given_1] using g1a
    obtain ⟨L⟩ := args
    match L, hs with
    | [w0], _ => exact ⟨w0, rfl⟩
  have hw := fun d (hd : d ∈ tables_1) => atoms_spec (ws := Jvm.Cond.code x code maxLocals ret :: tables_1) hat d (List.mem_cons_of_mem _ hd)
  have hfit : Fit s := fun {y c} hc i hi => by
    obtain ⟨ha, rfl⟩ := Array.getElem?_eq_some_iff.mp hc
    have q := List.all_eq_true.mp ((Array.all_eq_true_iff_forall_mem.mp hF) _ (Array.getElem_mem ha)) i (List.mem_range.mpr hi)
    simpa [Array.getElem?_eq_getElem hi] using q
  obtain ⟨i0, ei0⟩ := is_v g1b
  obtain rfl : w0 = (.int i0) := Option.some.inj ei0
  obtain ⟨m2a, m2b⟩ := and_e hn
  obtain ⟨m3a, m3b⟩ := and_e m2b
  obtain ⟨m4a, m4b⟩ := and_e m3b
  obtain ⟨m5a, m5b⟩ := and_e m4b
  obtain ⟨m6a, m6b⟩ := and_e m5b
  obtain ⟨m7a, m7b⟩ := and_e m6b
  obtain ⟨m8a, m8b⟩ := and_e m7b
  obtain ⟨m9a, m9b⟩ := and_e m8b
  obtain ⟨m10a, m10b⟩ := and_e m9b
  obtain ⟨m11a, m11b⟩ := and_e m10b
  obtain ⟨m12a, m12b⟩ := and_e m11b
  obtain ⟨m13a, m13b⟩ := and_e m12b
  obtain ⟨m14a, m14b⟩ := and_e m13b
  obtain ⟨m15a, m15b⟩ := and_e m14b
  obtain ⟨m16a, m16b⟩ := and_e m15b
  obtain ⟨m17a, m17b⟩ := and_e m16b
  obtain ⟨m18a, m18b⟩ := and_e m17b
  obtain ⟨m19a, m19b⟩ := and_e m18b
  obtain ⟨m20a, m20b⟩ := and_e m19b
  obtain ⟨m21a, m21b⟩ := and_e m20b
  obtain ⟨m22a, m22b⟩ := and_e m21b
  obtain ⟨m23a, m23b⟩ := and_e m22b
  obtain ⟨m24a, m24b⟩ := and_e m23b
  obtain ⟨m25a, m25b⟩ := and_e m24b
  obtain ⟨OrderAction_NEW_ORDER, ev_OrderAction_NEW_ORDER⟩ := exa_v m2a
  have E_OrderAction_NEW_ORDER : Exa s s.heap OrderAction_NEW_ORDER "com/example/placerfill/placerfill/OrderAction$1" := Exa.start ev_OrderAction_NEW_ORDER m2a
  have S_OrderAction_NEW_ORDER : Sta s s.heap "com/example/placerfill/placerfill/OrderAction" "NEW_ORDER" "Lcom/example/placerfill/placerfill/OrderAction;" (.ref OrderAction_NEW_ORDER) := Sta.start ev_OrderAction_NEW_ORDER (Or.inr ⟨(hw _ (List.mem_of_getElem? (i := 3) rfl)), (hw _ (List.mem_of_getElem? (i := 4) rfl))⟩)
  obtain ⟨OrderAction_CANCEL, ev_OrderAction_CANCEL⟩ := exa_v m3a
  have E_OrderAction_CANCEL : Exa s s.heap OrderAction_CANCEL "com/example/placerfill/placerfill/OrderAction" := Exa.start ev_OrderAction_CANCEL m3a
  have S_OrderAction_CANCEL : Sta s s.heap "com/example/placerfill/placerfill/OrderAction" "CANCEL" "Lcom/example/placerfill/placerfill/OrderAction;" (.ref OrderAction_CANCEL) := Sta.start ev_OrderAction_CANCEL (Or.inr ⟨(hw _ (List.mem_of_getElem? (i := 3) rfl)), (hw _ (List.mem_of_getElem? (i := 7) rfl))⟩)
  obtain ⟨OrderAction_DISCONTINUE, ev_OrderAction_DISCONTINUE⟩ := exa_v m4a
  have E_OrderAction_DISCONTINUE : Exa s s.heap OrderAction_DISCONTINUE "com/example/placerfill/placerfill/OrderAction" := Exa.start ev_OrderAction_DISCONTINUE m4a
  have S_OrderAction_DISCONTINUE : Sta s s.heap "com/example/placerfill/placerfill/OrderAction" "DISCONTINUE" "Lcom/example/placerfill/placerfill/OrderAction;" (.ref OrderAction_DISCONTINUE) := Sta.start ev_OrderAction_DISCONTINUE (Or.inr ⟨(hw _ (List.mem_of_getElem? (i := 3) rfl)), (hw _ (List.mem_of_getElem? (i := 10) rfl))⟩)
  obtain ⟨OrderAction_HOLD, ev_OrderAction_HOLD⟩ := exa_v m5a
  have E_OrderAction_HOLD : Exa s s.heap OrderAction_HOLD "com/example/placerfill/placerfill/OrderAction" := Exa.start ev_OrderAction_HOLD m5a
  have S_OrderAction_HOLD : Sta s s.heap "com/example/placerfill/placerfill/OrderAction" "HOLD" "Lcom/example/placerfill/placerfill/OrderAction;" (.ref OrderAction_HOLD) := Sta.start ev_OrderAction_HOLD (Or.inr ⟨(hw _ (List.mem_of_getElem? (i := 3) rfl)), (hw _ (List.mem_of_getElem? (i := 12) rfl))⟩)
  obtain ⟨OrderAction_RELEASE, ev_OrderAction_RELEASE⟩ := exa_v m6a
  have E_OrderAction_RELEASE : Exa s s.heap OrderAction_RELEASE "com/example/placerfill/placerfill/OrderAction" := Exa.start ev_OrderAction_RELEASE m6a
  have S_OrderAction_RELEASE : Sta s s.heap "com/example/placerfill/placerfill/OrderAction" "RELEASE" "Lcom/example/placerfill/placerfill/OrderAction;" (.ref OrderAction_RELEASE) := Sta.start ev_OrderAction_RELEASE (Or.inr ⟨(hw _ (List.mem_of_getElem? (i := 3) rfl)), (hw _ (List.mem_of_getElem? (i := 14) rfl))⟩)
  obtain ⟨OrderAction_CHANGE, ev_OrderAction_CHANGE⟩ := exa_v m7a
  have E_OrderAction_CHANGE : Exa s s.heap OrderAction_CHANGE "com/example/placerfill/placerfill/OrderAction$2" := Exa.start ev_OrderAction_CHANGE m7a
  have S_OrderAction_CHANGE : Sta s s.heap "com/example/placerfill/placerfill/OrderAction" "CHANGE" "Lcom/example/placerfill/placerfill/OrderAction;" (.ref OrderAction_CHANGE) := Sta.start ev_OrderAction_CHANGE (Or.inr ⟨(hw _ (List.mem_of_getElem? (i := 3) rfl)), (hw _ (List.mem_of_getElem? (i := 16) rfl))⟩)
  obtain ⟨OrderAction_REPLACE, ev_OrderAction_REPLACE⟩ := exa_v m8a
  have E_OrderAction_REPLACE : Exa s s.heap OrderAction_REPLACE "com/example/placerfill/placerfill/OrderAction" := Exa.start ev_OrderAction_REPLACE m8a
  have S_OrderAction_REPLACE : Sta s s.heap "com/example/placerfill/placerfill/OrderAction" "REPLACE" "Lcom/example/placerfill/placerfill/OrderAction;" (.ref OrderAction_REPLACE) := Sta.start ev_OrderAction_REPLACE (Or.inr ⟨(hw _ (List.mem_of_getElem? (i := 3) rfl)), (hw _ (List.mem_of_getElem? (i := 19) rfl))⟩)
  obtain ⟨OrderAction_REPLACEMENT, ev_OrderAction_REPLACEMENT⟩ := exa_v m9a
  have E_OrderAction_REPLACEMENT : Exa s s.heap OrderAction_REPLACEMENT "com/example/placerfill/placerfill/OrderAction$3" := Exa.start ev_OrderAction_REPLACEMENT m9a
  have S_OrderAction_REPLACEMENT : Sta s s.heap "com/example/placerfill/placerfill/OrderAction" "REPLACEMENT" "Lcom/example/placerfill/placerfill/OrderAction;" (.ref OrderAction_REPLACEMENT) := Sta.start ev_OrderAction_REPLACEMENT (Or.inr ⟨(hw _ (List.mem_of_getElem? (i := 3) rfl)), (hw _ (List.mem_of_getElem? (i := 21) rfl))⟩)
  obtain ⟨OrderAction_STATUS, ev_OrderAction_STATUS⟩ := exa_v m10a
  have E_OrderAction_STATUS : Exa s s.heap OrderAction_STATUS "com/example/placerfill/placerfill/OrderAction" := Exa.start ev_OrderAction_STATUS m10a
  have S_OrderAction_STATUS : Sta s s.heap "com/example/placerfill/placerfill/OrderAction" "STATUS" "Lcom/example/placerfill/placerfill/OrderAction;" (.ref OrderAction_STATUS) := Sta.start ev_OrderAction_STATUS (Or.inr ⟨(hw _ (List.mem_of_getElem? (i := 3) rfl)), (hw _ (List.mem_of_getElem? (i := 24) rfl))⟩)
  obtain ⟨OrderAction_NOT_ACTED_ON, ev_OrderAction_NOT_ACTED_ON⟩ := exa_v m11a
  have E_OrderAction_NOT_ACTED_ON : Exa s s.heap OrderAction_NOT_ACTED_ON "com/example/placerfill/placerfill/OrderAction$4" := Exa.start ev_OrderAction_NOT_ACTED_ON m11a
  have S_OrderAction_NOT_ACTED_ON : Sta s s.heap "com/example/placerfill/placerfill/OrderAction" "NOT_ACTED_ON" "Lcom/example/placerfill/placerfill/OrderAction;" (.ref OrderAction_NOT_ACTED_ON) := Sta.start ev_OrderAction_NOT_ACTED_ON (Or.inr ⟨(hw _ (List.mem_of_getElem? (i := 3) rfl)), (hw _ (List.mem_of_getElem? (i := 26) rfl))⟩)
  obtain ⟨OrderStatus_ON_HOLD, ev_OrderStatus_ON_HOLD⟩ := exa_v m13a
  have E_OrderStatus_ON_HOLD : Exa s s.heap OrderStatus_ON_HOLD "com/example/placerfill/placerfill/OrderStatus" := Exa.start ev_OrderStatus_ON_HOLD m13a
  have S_OrderStatus_ON_HOLD : Sta s s.heap "com/example/placerfill/placerfill/OrderStatus" "ON_HOLD" "Lcom/example/placerfill/placerfill/OrderStatus;" (.ref OrderStatus_ON_HOLD) := Sta.start ev_OrderStatus_ON_HOLD (Or.inr ⟨(hw _ (List.mem_of_getElem? (i := 39) rfl)), (hw _ (List.mem_of_getElem? (i := 40) rfl))⟩)
  obtain ⟨OrderStatus_CANCELED, ev_OrderStatus_CANCELED⟩ := exa_v m15a
  have E_OrderStatus_CANCELED : Exa s s.heap OrderStatus_CANCELED "com/example/placerfill/placerfill/OrderStatus" := Exa.start ev_OrderStatus_CANCELED m15a
  have S_OrderStatus_CANCELED : Sta s s.heap "com/example/placerfill/placerfill/OrderStatus" "CANCELED" "Lcom/example/placerfill/placerfill/OrderStatus;" (.ref OrderStatus_CANCELED) := Sta.start ev_OrderStatus_CANCELED (Or.inr ⟨(hw _ (List.mem_of_getElem? (i := 39) rfl)), (hw _ (List.mem_of_getElem? (i := 41) rfl))⟩)
  obtain ⟨OrderStatus_IN_PROCESS, ev_OrderStatus_IN_PROCESS⟩ := exa_v m17a
  have E_OrderStatus_IN_PROCESS : Exa s s.heap OrderStatus_IN_PROCESS "com/example/placerfill/placerfill/OrderStatus" := Exa.start ev_OrderStatus_IN_PROCESS m17a
  have S_OrderStatus_IN_PROCESS : Sta s s.heap "com/example/placerfill/placerfill/OrderStatus" "IN_PROCESS" "Lcom/example/placerfill/placerfill/OrderStatus;" (.ref OrderStatus_IN_PROCESS) := Sta.start ev_OrderStatus_IN_PROCESS (Or.inr ⟨(hw _ (List.mem_of_getElem? (i := 39) rfl)), (hw _ (List.mem_of_getElem? (i := 42) rfl))⟩)
  obtain ⟨OrderStatus_DISCONTINUED, ev_OrderStatus_DISCONTINUED⟩ := exa_v m20a
  have E_OrderStatus_DISCONTINUED : Exa s s.heap OrderStatus_DISCONTINUED "com/example/placerfill/placerfill/OrderStatus" := Exa.start ev_OrderStatus_DISCONTINUED m20a
  have S_OrderStatus_DISCONTINUED : Sta s s.heap "com/example/placerfill/placerfill/OrderStatus" "DISCONTINUED" "Lcom/example/placerfill/placerfill/OrderStatus;" (.ref OrderStatus_DISCONTINUED) := Sta.start ev_OrderStatus_DISCONTINUED (Or.inr ⟨(hw _ (List.mem_of_getElem? (i := 39) rfl)), (hw _ (List.mem_of_getElem? (i := 45) rfl))⟩)
  obtain ⟨OrderStatus_REPLACED, ev_OrderStatus_REPLACED⟩ := exa_v m24a
  have E_OrderStatus_REPLACED : Exa s s.heap OrderStatus_REPLACED "com/example/placerfill/placerfill/OrderStatus" := Exa.start ev_OrderStatus_REPLACED m24a
  have S_OrderStatus_REPLACED : Sta s s.heap "com/example/placerfill/placerfill/OrderStatus" "REPLACED" "Lcom/example/placerfill/placerfill/OrderStatus;" (.ref OrderStatus_REPLACED) := Sta.start ev_OrderStatus_REPLACED (Or.inr ⟨(hw _ (List.mem_of_getElem? (i := 39) rfl)), (hw _ (List.mem_of_getElem? (i := 52) rfl))⟩)
  have F_OrderAction_NEW_ORDER_result : Fld s s.heap OrderAction_NEW_ORDER "com/example/placerfill/placerfill/OrderAction" "result" "Lcom/example/placerfill/placerfill/OrderStatus;" .null := Fld.start ((fld_at ev_OrderAction_NEW_ORDER).symm.trans (null_v m12a))
  have F_OrderAction_HOLD_result : Fld s s.heap OrderAction_HOLD "com/example/placerfill/placerfill/OrderAction" "result" "Lcom/example/placerfill/placerfill/OrderStatus;" (.ref OrderStatus_ON_HOLD) := Fld.start ((fld_at ev_OrderAction_HOLD).symm.trans (own_eqr rfl ev_OrderStatus_ON_HOLD m14a))
  have F_OrderAction_CANCEL_result : Fld s s.heap OrderAction_CANCEL "com/example/placerfill/placerfill/OrderAction" "result" "Lcom/example/placerfill/placerfill/OrderStatus;" (.ref OrderStatus_CANCELED) := Fld.start ((fld_at ev_OrderAction_CANCEL).symm.trans (own_eqr rfl ev_OrderStatus_CANCELED m16a))
  have F_OrderAction_RELEASE_result : Fld s s.heap OrderAction_RELEASE "com/example/placerfill/placerfill/OrderAction" "result" "Lcom/example/placerfill/placerfill/OrderStatus;" (.ref OrderStatus_IN_PROCESS) := Fld.start ((fld_at ev_OrderAction_RELEASE).symm.trans (own_eqr rfl ev_OrderStatus_IN_PROCESS m18a))
  have F_OrderAction_REPLACEMENT_result : Fld s s.heap OrderAction_REPLACEMENT "com/example/placerfill/placerfill/OrderAction" "result" "Lcom/example/placerfill/placerfill/OrderStatus;" .null := Fld.start ((fld_at ev_OrderAction_REPLACEMENT).symm.trans (null_v m19a))
  have F_OrderAction_DISCONTINUE_result : Fld s s.heap OrderAction_DISCONTINUE "com/example/placerfill/placerfill/OrderAction" "result" "Lcom/example/placerfill/placerfill/OrderStatus;" (.ref OrderStatus_DISCONTINUED) := Fld.start ((fld_at ev_OrderAction_DISCONTINUE).symm.trans (own_eqr rfl ev_OrderStatus_DISCONTINUED m21a))
  have F_OrderAction_STATUS_result : Fld s s.heap OrderAction_STATUS "com/example/placerfill/placerfill/OrderAction" "result" "Lcom/example/placerfill/placerfill/OrderStatus;" .null := Fld.start ((fld_at ev_OrderAction_STATUS).symm.trans (null_v m22a))
  have F_OrderAction_NOT_ACTED_ON_result : Fld s s.heap OrderAction_NOT_ACTED_ON "com/example/placerfill/placerfill/OrderAction" "result" "Lcom/example/placerfill/placerfill/OrderStatus;" .null := Fld.start ((fld_at ev_OrderAction_NOT_ACTED_ON).symm.trans (null_v m23a))
  have F_OrderAction_REPLACE_result : Fld s s.heap OrderAction_REPLACE "com/example/placerfill/placerfill/OrderAction" "result" "Lcom/example/placerfill/placerfill/OrderStatus;" (.ref OrderStatus_REPLACED) := Fld.start ((fld_at ev_OrderAction_REPLACE).symm.trans (own_eqr rfl ev_OrderStatus_REPLACED m25a))
  have F_OrderAction_CHANGE_result : Fld s s.heap OrderAction_CHANGE "com/example/placerfill/placerfill/OrderAction" "result" "Lcom/example/placerfill/placerfill/OrderStatus;" .null := Fld.start ((fld_at ev_OrderAction_CHANGE).symm.trans (null_v m25b))
  obtain ⟨n, o, h1, h2, h3, _, L, rfl, ⟨rfl, N⟩, hq⟩ := rm0 l s _ hw tables_1 i0 _ OrderAction_NEW_ORDER OrderAction_CANCEL OrderAction_DISCONTINUE OrderAction_HOLD OrderAction_RELEASE OrderAction_CHANGE OrderAction_REPLACE OrderAction_REPLACEMENT OrderAction_STATUS OrderAction_NOT_ACTED_ON OrderStatus_CANCELED OrderStatus_DISCONTINUED OrderStatus_ON_HOLD OrderStatus_IN_PROCESS OrderStatus_REPLACED s.heap s.heap.size (Old.start s) S_OrderAction_NEW_ORDER S_OrderAction_CANCEL S_OrderAction_DISCONTINUE S_OrderAction_HOLD S_OrderAction_RELEASE S_OrderAction_CHANGE S_OrderAction_REPLACE S_OrderAction_REPLACEMENT S_OrderAction_STATUS S_OrderAction_NOT_ACTED_ON E_OrderAction_NEW_ORDER E_OrderAction_CANCEL E_OrderAction_DISCONTINUE E_OrderAction_HOLD E_OrderAction_RELEASE E_OrderAction_CHANGE E_OrderAction_REPLACE E_OrderAction_REPLACEMENT E_OrderAction_STATUS E_OrderAction_NOT_ACTED_ON F_OrderAction_NEW_ORDER_result F_OrderAction_CANCEL_result F_OrderAction_DISCONTINUE_result F_OrderAction_HOLD_result F_OrderAction_RELEASE_result F_OrderAction_CHANGE_result F_OrderAction_REPLACE_result F_OrderAction_REPLACEMENT_result F_OrderAction_STATUS_result F_OrderAction_NOT_ACTED_ON_result rfl (own_cases10 _ (own_mod i0 10 (by decide))) p e ha hc hk s m _ below hf ((Spec.applies_iff_loose hf).mp happ).1 ⟨rfl, State.Warmed39.refl s, rfl⟩ trivial
  refine ⟨n, _, h1, h2, h3, hpost _ _ _ _ _ _ ⟨Cond.after_iff.mpr rfl, Cond.after_iff.mpr (eq_i res_at (Term.int_eval (1)) rfl), trivial⟩ ⟨hq.1, hq.2.1, (hq.2.2.sift fun y hy => Or.inr (N y hy)).mono (by decide) (by decide)⟩⟩
theorem main_1_1 : Claimed_1_1 := comes_1 fun _ _ _ _ _ _ h hF => ⟨h.1, hF⟩
theorem main_1_2 : Claimed_1_2 := comes_1 fun _ _ _ _ _ _ h hF => ⟨h.2.1, hF⟩
end Jvm.Pilot.@@N@@
namespace Jvm.Pilot.@@N@@
open Jvm Jvm.ClassFile Sem Op Lib Jvm.Free Jvm.Stand Jvm.Pilot.@@N@@.Jvm.D
/-! MADE BY PROGRAM (witnessworld.py) out of the Statement's table words and the real class files: 20 classes; the members and pool entries that the words name. The judged class is class 1, her method 1. -/
namespace start1
open Jvm.ClassFile
def u (s : String) : CpInfo := .utf8 (stringToUtf16 s)
/-- a pool by its gaps: so many unusable entries, then the entry; so many at the end -/
def gap : Nat → List CpInfo → List CpInfo
  | 0, r => r
  | n + 1, r => .unusable :: gap n r
def poolList (es : List (Nat × CpInfo)) (last : Nat) : List CpInfo := es.foldr (fun e r => gap e.1 (e.2 :: r)) (gap last [])
def pool (es : List (Nat × CpInfo)) (last : Nat) : Array CpInfo := ⟨poolList es last⟩
def fileOf (pool : Array CpInfo) (this : Nat) (attrs : Array Attribute := #[]) (ms : Array MethodInfo := #[]) (fl : Nat := 33) (sup : Nat := 0) (ifs : Array Nat := #[]) (fds : Array FieldInfo := #[]) : ClassFile where
  minorVersion := 0
  majorVersion := 65
  constantPool := pool
  accessFlags := fl
  thisClass := this
  superClass := sup
  interfaces := ifs
  fields := fds
  methods := ms
  attributes := attrs
def plain (name : String) (sup : Option ClassId) : Class where
  name := name
  kind := .ordinary
  loader := none
  accessFlags := 33
  super := sup
  interfaces := #[]
  cf := none
  fields := #[]
  methods := #[]
  instanceTypes := #[]
  staticTypes := #[]
  resolved := #[]
  callSites := []
  init := .initialized
  statics := none
  mirror := none

def pool0 : Array CpInfo := pool [(5, u "<init>"), (0, u "()V"), (1, .class_ 10), (1, u "java/lang/Object")] 113

def k0m0 : Method := { name := "<init>", desc := "()V", sig := { parameters := [], returnType := none }, accessFlags := 1, code := none }
/-- java/lang/Object -/
def k0 : Class := { plain "java/lang/Object" none with
  accessFlags := 33
  interfaces := #[]
  cf := some (fileOf pool0 8 #[] #[{ accessFlags := 1, nameIndex := 5, descriptorIndex := 6, attributes := #[] }] 33 0 #[] #[])
  fields := #[]
  methods := #[k0m0]
  instanceTypes := #[]
  staticTypes := #[]
  resolved := Array.replicate 124 none
  statics := none }

def pool1 : Array CpInfo := pool [(2, .class_ 4), (1, u "java/lang/Object"), (0, u "<init>"), (0, u "()V"), (0, .class_ 8), (0, u "com/example/placerfill/placerfill/OrderAction"), (0, .fieldref 7 10), (0, .nameAndType 11 12), (0, u "NEW_ORDER"), (0, u "Lcom/example/placerfill/placerfill/OrderAction;"), (0, .fieldref 7 14), (0, .nameAndType 15 12), (0, u "CANCEL"), (0, .fieldref 7 17), (0, .nameAndType 18 12), (0, u "DISCONTINUE"), (0, .fieldref 7 20), (0, .nameAndType 21 12), (0, u "HOLD"), (0, .fieldref 7 23), (0, .nameAndType 24 12), (0, u "RELEASE"), (0, .fieldref 7 26), (0, .nameAndType 27 12), (0, u "CHANGE"), (0, .fieldref 7 29), (0, .nameAndType 30 12), (0, u "REPLACE"), (0, .fieldref 7 32), (0, .nameAndType 33 12), (0, u "REPLACEMENT"), (0, .fieldref 7 35), (0, .nameAndType 36 12), (0, u "STATUS"), (0, .fieldref 7 38), (0, .nameAndType 39 12), (0, u "NOT_ACTED_ON"), (0, .integer 2147483647), (0, .methodref 7 42), (0, .nameAndType 43 44), (0, u "reachesChildren"), (0, u "()Z"), (0, .class_ 46), (0, u "com/example/placerfill/placerfill/OrderActionReachesChildrenPinLaw"), (2, u "law"), (0, u "(I)Z")] 7

def k1m0 : Method := { name := "<init>", desc := "()V", sig := { parameters := [], returnType := none }, accessFlags := 1, code := none }
def k1c1 : Code := { maxStack := 4, maxLocals := 4, code := code, exceptionTable := #[], attributes := #[] }
def k1m1 : Method := { name := "law", desc := "(I)Z", sig := { parameters := [.int], returnType := some .boolean }, accessFlags := 9, code := some k1c1 }
/-- com/example/placerfill/placerfill/OrderActionReachesChildrenPinLaw -/
def k1 : Class := { plain "com/example/placerfill/placerfill/OrderActionReachesChildrenPinLaw" (some 0) with
  accessFlags := 49
  interfaces := #[]
  cf := some (fileOf pool1 45 #[] #[{ accessFlags := 1, nameIndex := 5, descriptorIndex := 6, attributes := #[] }, { accessFlags := 9, nameIndex := 49, descriptorIndex := 50, attributes := #[] }] 49 2 #[] #[])
  fields := #[]
  methods := #[k1m0, k1m1]
  instanceTypes := #[]
  staticTypes := #[]
  resolved := Array.replicate 58 none
  statics := none }

def pool2 : Array CpInfo := pool [(1, .class_ 2), (0, u "java/lang/constant/Constable"), (0, .class_ 4), (0, u "java/lang/Object")] 6

/-- java/lang/constant/Constable -/
def k2 : Class := { plain "java/lang/constant/Constable" (some 0) with
  accessFlags := 1537
  interfaces := #[]
  cf := some (fileOf pool2 1 #[] #[] 1537 3 #[] #[])
  fields := #[]
  methods := #[]
  instanceTypes := #[]
  staticTypes := #[]
  resolved := Array.replicate 11 none
  statics := none }

def pool3 : Array CpInfo := pool [(1, .class_ 2), (0, u "java/lang/Comparable"), (0, .class_ 4), (0, u "java/lang/Object")] 7

/-- java/lang/Comparable -/
def k3 : Class := { plain "java/lang/Comparable" (some 0) with
  accessFlags := 1537
  interfaces := #[]
  cf := some (fileOf pool3 1 #[] #[] 1537 3 #[] #[])
  fields := #[]
  methods := #[]
  instanceTypes := #[]
  staticTypes := #[]
  resolved := Array.replicate 12 none
  statics := none }

def pool4 : Array CpInfo := pool [(1, .class_ 2), (0, u "java/io/Serializable"), (0, .class_ 4), (0, u "java/lang/Object")] 2

/-- java/io/Serializable -/
def k4 : Class := { plain "java/io/Serializable" (some 0) with
  accessFlags := 1537
  interfaces := #[]
  cf := some (fileOf pool4 1 #[] #[] 1537 3 #[] #[])
  fields := #[]
  methods := #[]
  instanceTypes := #[]
  staticTypes := #[]
  resolved := Array.replicate 7 none
  statics := none }

def pool5 : Array CpInfo := pool [(2, .class_ 4), (1, u "java/lang/Enum"), (0, u "name"), (0, u "Ljava/lang/String;"), (2, u "ordinal"), (0, u "I"), (1, .class_ 14), (1, u "java/lang/Object"), (4, u "hash"), (86, .class_ 108), (1, u "java/lang/Enum$EnumDesc"), (2, .class_ 112), (0, u "java/lang/constant/Constable"), (0, .class_ 114), (0, u "java/lang/Comparable"), (0, .class_ 116), (0, u "java/io/Serializable")] 87

/-- java/lang/Enum -/
def k5 : Class := { plain "java/lang/Enum" (some 0) with
  accessFlags := 1057
  interfaces := #[2, 3, 4]
  cf := some (fileOf pool5 2 #[.nestMembers #[106]] #[] 1057 12 #[111, 113, 115] #[{ accessFlags := 18, nameIndex := 5, descriptorIndex := 6, attributes := #[] }, { accessFlags := 18, nameIndex := 9, descriptorIndex := 10, attributes := #[] }, { accessFlags := 2, nameIndex := 19, descriptorIndex := 10, attributes := #[] }])
  fields := #[{ name := "name", type := (.object "java/lang/String"), accessFlags := 18, slot := 0, constantValue := 0 }, { name := "ordinal", type := .int, accessFlags := 18, slot := 1, constantValue := 0 }, { name := "hash", type := .int, accessFlags := 2, slot := 2, constantValue := 0 }]
  methods := #[]
  instanceTypes := #[(.object "java/lang/String"), .int, .int]
  staticTypes := #[]
  resolved := Array.replicate 204 none
  statics := none }

def pool6 : Array CpInfo := pool [(3, .class_ 4), (0, u "com/example/placerfill/placerfill/OrderAction"), (2, u "NEW_ORDER"), (0, u "Lcom/example/placerfill/placerfill/OrderAction;"), (2, u "CANCEL"), (2, u "DISCONTINUE"), (2, u "HOLD"), (2, u "RELEASE"), (2, u "CHANGE"), (2, u "REPLACE"), (2, u "REPLACEMENT"), (2, u "STATUS"), (2, u "NOT_ACTED_ON"), (2, u "$VALUES"), (0, u "[Lcom/example/placerfill/placerfill/OrderAction;"), (6, .class_ 48), (1, u "java/lang/Enum"), (8, u "code"), (0, u "Ljava/lang/String;"), (2, u "done"), (2, u "unable"), (2, u "doneReportedFrom"), (0, u "Lcom/example/placerfill/placerfill/ResponseFlag;"), (0, .fieldref 3 70), (0, .nameAndType 71 72), (0, u "result"), (0, u "Lcom/example/placerfill/placerfill/OrderStatus;"), (8, u "from"), (0, u "Ljava/util/Set;"), (59, u "reachesChildren"), (0, u "()Z"), (191, .class_ 336), (0, u "com/example/placerfill/placerfill/OrderAction$1"), (49, .class_ 387), (0, u "com/example/placerfill/placerfill/OrderAction$2"), (21, .class_ 410), (0, u "com/example/placerfill/placerfill/OrderAction$3"), (12, .class_ 424), (0, u "com/example/placerfill/placerfill/OrderAction$4"), (5, u "ACCEPTED"), (3, u "REPLACED_BY"), (0, u "PARENT"), (2, u "MOST_CHILDREN_REACHED"), (0, u "I")] 77

def k6c0 : Code := { maxStack := 1, maxLocals := 1, code := prog_35_method_19_code, exceptionTable := #[], attributes := #[] }
def k6m0 : Method := { name := "reachesChildren", desc := "()Z", sig := { parameters := [], returnType := some .boolean }, accessFlags := 0, code := some k6c0 }
/-- com/example/placerfill/placerfill/OrderAction -/
def k6 : Class := { plain "com/example/placerfill/placerfill/OrderAction" (some 5) with
  accessFlags := 16416
  interfaces := #[]
  cf := some (fileOf pool6 3 #[.nestMembers #[423, 409, 386, 335]] #[{ accessFlags := 0, nameIndex := 142, descriptorIndex := 143, attributes := #[] }] 16416 46 #[] #[{ accessFlags := 16409, nameIndex := 7, descriptorIndex := 8, attributes := #[] }, { accessFlags := 16409, nameIndex := 11, descriptorIndex := 8, attributes := #[] }, { accessFlags := 16409, nameIndex := 14, descriptorIndex := 8, attributes := #[] }, { accessFlags := 16409, nameIndex := 17, descriptorIndex := 8, attributes := #[] }, { accessFlags := 16409, nameIndex := 20, descriptorIndex := 8, attributes := #[] }, { accessFlags := 16409, nameIndex := 23, descriptorIndex := 8, attributes := #[] }, { accessFlags := 16409, nameIndex := 26, descriptorIndex := 8, attributes := #[] }, { accessFlags := 16409, nameIndex := 29, descriptorIndex := 8, attributes := #[] }, { accessFlags := 16409, nameIndex := 32, descriptorIndex := 8, attributes := #[] }, { accessFlags := 16409, nameIndex := 35, descriptorIndex := 8, attributes := #[] }, { accessFlags := 26, nameIndex := 430, descriptorIndex := 58, attributes := #[] }, { accessFlags := 26, nameIndex := 434, descriptorIndex := 58, attributes := #[] }, { accessFlags := 26, nameIndex := 435, descriptorIndex := 58, attributes := #[] }, { accessFlags := 24, nameIndex := 438, descriptorIndex := 439, attributes := #[] }, { accessFlags := 18, nameIndex := 57, descriptorIndex := 58, attributes := #[] }, { accessFlags := 18, nameIndex := 61, descriptorIndex := 58, attributes := #[] }, { accessFlags := 18, nameIndex := 64, descriptorIndex := 58, attributes := #[] }, { accessFlags := 18, nameIndex := 67, descriptorIndex := 68, attributes := #[] }, { accessFlags := 18, nameIndex := 71, descriptorIndex := 72, attributes := #[] }, { accessFlags := 18, nameIndex := 81, descriptorIndex := 82, attributes := #[] }, { accessFlags := 4122, nameIndex := 38, descriptorIndex := 39, attributes := #[] }])
  fields := #[{ name := "NEW_ORDER", type := (.object "com/example/placerfill/placerfill/OrderAction"), accessFlags := 16409, slot := 0, constantValue := 0 }, { name := "CANCEL", type := (.object "com/example/placerfill/placerfill/OrderAction"), accessFlags := 16409, slot := 1, constantValue := 0 }, { name := "DISCONTINUE", type := (.object "com/example/placerfill/placerfill/OrderAction"), accessFlags := 16409, slot := 2, constantValue := 0 }, { name := "HOLD", type := (.object "com/example/placerfill/placerfill/OrderAction"), accessFlags := 16409, slot := 3, constantValue := 0 }, { name := "RELEASE", type := (.object "com/example/placerfill/placerfill/OrderAction"), accessFlags := 16409, slot := 4, constantValue := 0 }, { name := "CHANGE", type := (.object "com/example/placerfill/placerfill/OrderAction"), accessFlags := 16409, slot := 5, constantValue := 0 }, { name := "REPLACE", type := (.object "com/example/placerfill/placerfill/OrderAction"), accessFlags := 16409, slot := 6, constantValue := 0 }, { name := "REPLACEMENT", type := (.object "com/example/placerfill/placerfill/OrderAction"), accessFlags := 16409, slot := 7, constantValue := 0 }, { name := "STATUS", type := (.object "com/example/placerfill/placerfill/OrderAction"), accessFlags := 16409, slot := 8, constantValue := 0 }, { name := "NOT_ACTED_ON", type := (.object "com/example/placerfill/placerfill/OrderAction"), accessFlags := 16409, slot := 9, constantValue := 0 }, { name := "ACCEPTED", type := (.object "java/lang/String"), accessFlags := 26, slot := 10, constantValue := 0 }, { name := "REPLACED_BY", type := (.object "java/lang/String"), accessFlags := 26, slot := 11, constantValue := 0 }, { name := "PARENT", type := (.object "java/lang/String"), accessFlags := 26, slot := 12, constantValue := 0 }, { name := "MOST_CHILDREN_REACHED", type := .int, accessFlags := 24, slot := 13, constantValue := 0 }, { name := "code", type := (.object "java/lang/String"), accessFlags := 18, slot := 3, constantValue := 0 }, { name := "done", type := (.object "java/lang/String"), accessFlags := 18, slot := 4, constantValue := 0 }, { name := "unable", type := (.object "java/lang/String"), accessFlags := 18, slot := 5, constantValue := 0 }, { name := "doneReportedFrom", type := (.object "com/example/placerfill/placerfill/ResponseFlag"), accessFlags := 18, slot := 6, constantValue := 0 }, { name := "result", type := (.object "com/example/placerfill/placerfill/OrderStatus"), accessFlags := 18, slot := 7, constantValue := 0 }, { name := "from", type := (.object "java/util/Set"), accessFlags := 18, slot := 8, constantValue := 0 }, { name := "$VALUES", type := (.array (.object "com/example/placerfill/placerfill/OrderAction")), accessFlags := 4122, slot := 14, constantValue := 0 }]
  methods := #[k6m0]
  instanceTypes := #[(.object "java/lang/String"), .int, .int, (.object "java/lang/String"), (.object "java/lang/String"), (.object "java/lang/String"), (.object "com/example/placerfill/placerfill/ResponseFlag"), (.object "com/example/placerfill/placerfill/OrderStatus"), (.object "java/util/Set")]
  staticTypes := #[(.object "com/example/placerfill/placerfill/OrderAction"), (.object "com/example/placerfill/placerfill/OrderAction"), (.object "com/example/placerfill/placerfill/OrderAction"), (.object "com/example/placerfill/placerfill/OrderAction"), (.object "com/example/placerfill/placerfill/OrderAction"), (.object "com/example/placerfill/placerfill/OrderAction"), (.object "com/example/placerfill/placerfill/OrderAction"), (.object "com/example/placerfill/placerfill/OrderAction"), (.object "com/example/placerfill/placerfill/OrderAction"), (.object "com/example/placerfill/placerfill/OrderAction"), (.object "java/lang/String"), (.object "java/lang/String"), (.object "java/lang/String"), .int, (.array (.object "com/example/placerfill/placerfill/OrderAction"))]
  resolved := Array.replicate 517 none
  statics := some 0 }

def pool7 : Array CpInfo := pool [(1, .class_ 2), (0, u "com/example/placerfill/placerfill/OrderAction"), (63, .class_ 67), (0, u "com/example/placerfill/placerfill/OrderAction$1")] 18

/-- com/example/placerfill/placerfill/OrderAction$1 -/
def k7 : Class := { plain "com/example/placerfill/placerfill/OrderAction$1" (some 6) with
  accessFlags := 16432
  interfaces := #[]
  cf := some (fileOf pool7 66 #[.nestHost 1] #[] 16432 1 #[] #[])
  fields := #[]
  methods := #[]
  instanceTypes := #[(.object "java/lang/String"), .int, .int, (.object "java/lang/String"), (.object "java/lang/String"), (.object "java/lang/String"), (.object "com/example/placerfill/placerfill/ResponseFlag"), (.object "com/example/placerfill/placerfill/OrderStatus"), (.object "java/util/Set")]
  staticTypes := #[]
  resolved := Array.replicate 86 none
  statics := none }

def pool8 : Array CpInfo := pool [(2, .class_ 4), (1, u "com/example/placerfill/placerfill/OrderAction"), (24, .class_ 30), (0, u "com/example/placerfill/placerfill/OrderAction$2"), (3, u "reachesChildren"), (0, u "()Z")] 10

def k8c0 : Code := { maxStack := 1, maxLocals := 1, code := prog_37_method_2_code, exceptionTable := #[], attributes := #[] }
def k8m0 : Method := { name := "reachesChildren", desc := "()Z", sig := { parameters := [], returnType := some .boolean }, accessFlags := 0, code := some k8c0 }
/-- com/example/placerfill/placerfill/OrderAction$2 -/
def k8 : Class := { plain "com/example/placerfill/placerfill/OrderAction$2" (some 6) with
  accessFlags := 16432
  interfaces := #[]
  cf := some (fileOf pool8 29 #[.nestHost 2] #[{ accessFlags := 0, nameIndex := 34, descriptorIndex := 35, attributes := #[] }] 16432 2 #[] #[])
  fields := #[]
  methods := #[k8m0]
  instanceTypes := #[(.object "java/lang/String"), .int, .int, (.object "java/lang/String"), (.object "java/lang/String"), (.object "java/lang/String"), (.object "com/example/placerfill/placerfill/ResponseFlag"), (.object "com/example/placerfill/placerfill/OrderStatus"), (.object "java/util/Set")]
  staticTypes := #[]
  resolved := Array.replicate 46 none
  statics := none }

def pool9 : Array CpInfo := pool [(1, .class_ 2), (0, u "com/example/placerfill/placerfill/OrderAction"), (71, .class_ 75), (0, u "com/example/placerfill/placerfill/OrderAction$3")] 18

/-- com/example/placerfill/placerfill/OrderAction$3 -/
def k9 : Class := { plain "com/example/placerfill/placerfill/OrderAction$3" (some 6) with
  accessFlags := 16432
  interfaces := #[]
  cf := some (fileOf pool9 74 #[.nestHost 1] #[] 16432 1 #[] #[])
  fields := #[]
  methods := #[]
  instanceTypes := #[(.object "java/lang/String"), .int, .int, (.object "java/lang/String"), (.object "java/lang/String"), (.object "java/lang/String"), (.object "com/example/placerfill/placerfill/ResponseFlag"), (.object "com/example/placerfill/placerfill/OrderStatus"), (.object "java/util/Set")]
  staticTypes := #[]
  resolved := Array.replicate 94 none
  statics := none }

def pool10 : Array CpInfo := pool [(2, .class_ 4), (1, u "com/example/placerfill/placerfill/OrderAction"), (2, .class_ 8), (0, u "com/example/placerfill/placerfill/OrderAction$4")] 10

/-- com/example/placerfill/placerfill/OrderAction$4 -/
def k10 : Class := { plain "com/example/placerfill/placerfill/OrderAction$4" (some 6) with
  accessFlags := 16432
  interfaces := #[]
  cf := some (fileOf pool10 7 #[.nestHost 2] #[] 16432 2 #[] #[])
  fields := #[]
  methods := #[]
  instanceTypes := #[(.object "java/lang/String"), .int, .int, (.object "java/lang/String"), (.object "java/lang/String"), (.object "java/lang/String"), (.object "com/example/placerfill/placerfill/ResponseFlag"), (.object "com/example/placerfill/placerfill/OrderStatus"), (.object "java/util/Set")]
  staticTypes := #[]
  resolved := Array.replicate 19 none
  statics := none }

def pool11 : Array CpInfo := pool [(1, .class_ 2), (0, u "com/example/placerfill/placerfill/OrderStatus"), (2, u "IN_PROCESS"), (0, u "Lcom/example/placerfill/placerfill/OrderStatus;"), (2, u "ON_HOLD"), (2, u "CANCELED"), (2, u "DISCONTINUED"), (2, u "SCHEDULED"), (2, u "REPLACED"), (2, u "SOME_RESULTS"), (2, u "COMPLETED"), (2, u "NOT_FOUND"), (2, u "$VALUES"), (0, u "[Lcom/example/placerfill/placerfill/OrderStatus;"), (6, .class_ 43), (1, u "java/lang/Enum"), (8, u "code"), (0, u "Ljava/lang/String;")] 57

/-- com/example/placerfill/placerfill/OrderStatus -/
def k11 : Class := { plain "com/example/placerfill/placerfill/OrderStatus" (some 5) with
  accessFlags := 16432
  interfaces := #[]
  cf := some (fileOf pool11 1 #[] #[] 16432 41 #[] #[{ accessFlags := 16409, nameIndex := 5, descriptorIndex := 6, attributes := #[] }, { accessFlags := 16409, nameIndex := 9, descriptorIndex := 6, attributes := #[] }, { accessFlags := 16409, nameIndex := 12, descriptorIndex := 6, attributes := #[] }, { accessFlags := 16409, nameIndex := 15, descriptorIndex := 6, attributes := #[] }, { accessFlags := 16409, nameIndex := 18, descriptorIndex := 6, attributes := #[] }, { accessFlags := 16409, nameIndex := 21, descriptorIndex := 6, attributes := #[] }, { accessFlags := 16409, nameIndex := 24, descriptorIndex := 6, attributes := #[] }, { accessFlags := 16409, nameIndex := 27, descriptorIndex := 6, attributes := #[] }, { accessFlags := 16409, nameIndex := 30, descriptorIndex := 6, attributes := #[] }, { accessFlags := 18, nameIndex := 52, descriptorIndex := 53, attributes := #[] }, { accessFlags := 4122, nameIndex := 33, descriptorIndex := 34, attributes := #[] }])
  fields := #[{ name := "IN_PROCESS", type := (.object "com/example/placerfill/placerfill/OrderStatus"), accessFlags := 16409, slot := 0, constantValue := 0 }, { name := "ON_HOLD", type := (.object "com/example/placerfill/placerfill/OrderStatus"), accessFlags := 16409, slot := 1, constantValue := 0 }, { name := "CANCELED", type := (.object "com/example/placerfill/placerfill/OrderStatus"), accessFlags := 16409, slot := 2, constantValue := 0 }, { name := "DISCONTINUED", type := (.object "com/example/placerfill/placerfill/OrderStatus"), accessFlags := 16409, slot := 3, constantValue := 0 }, { name := "SCHEDULED", type := (.object "com/example/placerfill/placerfill/OrderStatus"), accessFlags := 16409, slot := 4, constantValue := 0 }, { name := "REPLACED", type := (.object "com/example/placerfill/placerfill/OrderStatus"), accessFlags := 16409, slot := 5, constantValue := 0 }, { name := "SOME_RESULTS", type := (.object "com/example/placerfill/placerfill/OrderStatus"), accessFlags := 16409, slot := 6, constantValue := 0 }, { name := "COMPLETED", type := (.object "com/example/placerfill/placerfill/OrderStatus"), accessFlags := 16409, slot := 7, constantValue := 0 }, { name := "NOT_FOUND", type := (.object "com/example/placerfill/placerfill/OrderStatus"), accessFlags := 16409, slot := 8, constantValue := 0 }, { name := "code", type := (.object "java/lang/String"), accessFlags := 18, slot := 3, constantValue := 0 }, { name := "$VALUES", type := (.array (.object "com/example/placerfill/placerfill/OrderStatus")), accessFlags := 4122, slot := 9, constantValue := 0 }]
  methods := #[]
  instanceTypes := #[(.object "java/lang/String"), .int, .int, (.object "java/lang/String")]
  staticTypes := #[(.object "com/example/placerfill/placerfill/OrderStatus"), (.object "com/example/placerfill/placerfill/OrderStatus"), (.object "com/example/placerfill/placerfill/OrderStatus"), (.object "com/example/placerfill/placerfill/OrderStatus"), (.object "com/example/placerfill/placerfill/OrderStatus"), (.object "com/example/placerfill/placerfill/OrderStatus"), (.object "com/example/placerfill/placerfill/OrderStatus"), (.object "com/example/placerfill/placerfill/OrderStatus"), (.object "com/example/placerfill/placerfill/OrderStatus"), (.array (.object "com/example/placerfill/placerfill/OrderStatus"))]
  resolved := Array.replicate 111 none
  statics := some 1 }

def pool12 : Array CpInfo := pool [(1, u "java/lang/Cloneable"), (0, .class_ 1), (0, u "java/lang/Object"), (0, .class_ 3)] 3

/-- java/lang/Cloneable -/
def k12 : Class := { plain "java/lang/Cloneable" (some 0) with
  accessFlags := 1537
  interfaces := #[]
  cf := some (fileOf pool12 2 #[] #[] 1537 4 #[] #[])
  fields := #[]
  methods := #[]
  instanceTypes := #[]
  staticTypes := #[]
  resolved := Array.replicate 8 none
  statics := none }

/-- the primitive boolean -/
def k13 : Class := { plain "boolean" none with kind := .primitive 'Z', accessFlags := 0x411 }
/-- [Z -/
def k14 : Class := { plain "[Z" (some 0) with kind := .array 13 .boolean, interfaces := #[12, 4], accessFlags := 1041 }

/-- the primitive byte -/
def k15 : Class := { plain "byte" none with kind := .primitive 'B', accessFlags := 0x411 }
/-- [B -/
def k16 : Class := { plain "[B" (some 0) with kind := .array 15 .byte, interfaces := #[12, 4], accessFlags := 1041 }

/-- the primitive int -/
def k17 : Class := { plain "int" none with kind := .primitive 'I', accessFlags := 0x411 }
/-- [I -/
def k18 : Class := { plain "[I" (some 0) with kind := .array 17 .int, interfaces := #[12, 4], accessFlags := 1041 }

/-- [Lcom/example/placerfill/placerfill/OrderAction; -/
def k19 : Class := { plain "[Lcom/example/placerfill/placerfill/OrderAction;" (some 0) with kind := .array 6 (.object "com/example/placerfill/placerfill/OrderAction"), interfaces := #[12, 4], accessFlags := 1041 }

def heap : Heap := #[{ cls := 6, slots := #[.ref 2, .ref 3, .ref 4, .ref 5, .ref 6, .ref 7, .ref 8, .ref 9, .ref 10, .ref 11, .null, .null, .null, .int 0, .null], vm := .statics 6 },
  { cls := 11, slots := #[.ref 14, .ref 12, .ref 13, .ref 15, .null, .ref 16, .null, .null, .null, .null], vm := .statics 11 },
  { cls := 7, slots := #[.null, .int 0, .int 0, .null, .null, .null, .null, .null, .null], vm := .none },
  { cls := 6, slots := #[.null, .int 0, .int 0, .null, .null, .null, .null, .ref 13, .null], vm := .none },
  { cls := 6, slots := #[.null, .int 0, .int 0, .null, .null, .null, .null, .ref 15, .null], vm := .none },
  { cls := 6, slots := #[.null, .int 0, .int 0, .null, .null, .null, .null, .ref 12, .null], vm := .none },
  { cls := 6, slots := #[.null, .int 0, .int 0, .null, .null, .null, .null, .ref 14, .null], vm := .none },
  { cls := 8, slots := #[.null, .int 0, .int 0, .null, .null, .null, .null, .null, .null], vm := .none },
  { cls := 6, slots := #[.null, .int 0, .int 0, .null, .null, .null, .null, .ref 16, .null], vm := .none },
  { cls := 9, slots := #[.null, .int 0, .int 0, .null, .null, .null, .null, .null, .null], vm := .none },
  { cls := 6, slots := #[.null, .int 0, .int 0, .null, .null, .null, .null, .null, .null], vm := .none },
  { cls := 10, slots := #[.null, .int 0, .int 0, .null, .null, .null, .null, .null, .null], vm := .none },
  { cls := 11, slots := #[.null, .int 0, .int 0, .null], vm := .none },
  { cls := 11, slots := #[.null, .int 0, .int 0, .null], vm := .none },
  { cls := 11, slots := #[.null, .int 0, .int 0, .null], vm := .none },
  { cls := 11, slots := #[.null, .int 0, .int 0, .null], vm := .none },
  { cls := 11, slots := #[.null, .int 0, .int 0, .null], vm := .none }]
def classes : Array Class := #[k0, k1, k2, k3, k4, k5, k6, k7, k8, k9, k10, k11, k12, k13, k14, k15, k16, k17, k18, k19]
def interned : List (Array UInt16 × Addr) := []
def slotsUsed : Nat := 135
def theMethod : MethodId := ⟨1, 1⟩
def args0 : Array Value := #[.int 5]
def aboutOver (below : List Frame) : State where
  vm := { classes := classes, interned := interned.toArray }
  heap := heap
  slotsUsed := slotsUsed
  threads := #[{ frames := .invoking theMethod args0 :: below }]
def below0 : List Frame := [.native { method := ⟨0, 0⟩, args := #[] }]
def about1 : State := aboutOver below0
def p0 : Program := .bare "" "" ""
def e0 : Env := launch0.env 0 0 0
theorem w_frames : about1.frames = Frame.invoking theMethod args0 :: below0 := rfl
set_option maxRecDepth 65536 in
theorem w_args : argsFit about1.vm theMethod args0 = true := by decide +kernel
set_option maxRecDepth 65536 in
theorem w_heap : heapFits about1 = true := by decide +kernel
set_option maxRecDepth 65536 in
theorem w_runnable : about1.curStatus? = some .runnable := by decide +kernel
set_option maxRecDepth 65536 in
theorem w_alone : about1.alone = true := by decide +kernel
set_option maxRecDepth 65536 in
theorem w_named : about1.methodNamed? x = some theMethod := by decide +kernel
set_option maxRecDepth 65536 in
theorem w_hears : about1.hears theMethod below0 = true := by decide +kernel
set_option maxRecDepth 65536 in
theorem w_ripe : about1.ripe theMethod args0 below0 = true := by decide +kernel
theorem w_running : about1.status = .running := rfl
set_option maxRecDepth 65536 in
theorem w_room : about1.hasRoom e0.platform room_1 = true :=
  launch0.hasRoom_least _ room_1 (by decide +kernel) (by decide +kernel) (by decide +kernel) (by decide +kernel) (by decide +kernel) (by decide +kernel)
theorem allAtoms_all (ts : List Jvm.Cond) (a : Array Jvm.Value) (st : Jvm.State) : (allAtoms ts).before a st = ts.all (fun c => c.before a st) := by
  induction ts with
  | nil => rfl
  | cons c t ih =>
    show (Jvm.Cond.and c (allAtoms t)).before a st = _
    rw [Jvm.Cond.before_and, ih, List.all_cons]
def words1 : List Jvm.Cond := Jvm.Cond.code x code maxLocals ret :: tables_1
/-- a 'code' word, met by the world's own term for the bytes: nothing is compared byte by byte -/
theorem code_word {y : MethodName} {bytes : ByteArray} {mx : Nat} {rt : Option FieldType} {a : Array Value} {s : State} {m : MethodId} {meth : Method} {c : Code} (h1 : s.methodNamed? y = some m) (h2 : s.vm.method? m = some meth) (h3 : meth.code = some c) (h4 : c.code = bytes)
    (h5 : (c.maxLocals == mx && c.exceptionTable.isEmpty && decide (c.maxStack ≤ mostOperands) && decide (meth.sig.returnType = rt) && !meth.locks && decide (parseMethodDescriptor y.desc = some meth.sig)) = true) : (Jvm.Cond.code y bytes mx rt).before a s = true := by
  simp only [Bool.and_eq_true, beq_iff_eq, Bool.not_eq_true', decide_eq_true_eq] at h5
  obtain ⟨⟨⟨⟨⟨g1, g2⟩, g3⟩, g4⟩, g5⟩, g6⟩ := h5
  simp [Cond.before, Cond.holds, Cond.value, h1, h2, h3, h4, g1, g2, g3, g4, g5, g6]
def isCode : Jvm.Cond → Bool
  | .code _ _ _ _ => true
  | _ => false
theorem all_split {L : List Jvm.Cond} {P : Jvm.Cond → Bool} (h1 : L.all (fun c => isCode c || P c) = true) (h2 : ∀ c ∈ L.filter isCode, P c = true) : L.all P = true := by
  refine List.all_eq_true.mpr fun c hc => ?_
  have h := List.all_eq_true.mp h1 c hc
  rcases Bool.eq_false_or_eq_true (isCode c) with hi | hi
  · exact h2 c (List.mem_filter.mpr ⟨hc, hi⟩)
  · simpa [hi] using h
set_option maxRecDepth 65536 in
theorem w_c0 : (Jvm.Cond.code x code maxLocals ret).before args0 about1 = true := code_word (m := ⟨1, 1⟩) (meth := k1m1) (c := k1c1) (by decide +kernel) rfl rfl rfl (by decide +kernel)
set_option maxRecDepth 65536 in
theorem w_c1 : (Jvm.Cond.code ({ cls := "com/example/placerfill/placerfill/OrderAction", name := "reachesChildren", desc := "()Z" } : Jvm.MethodName) prog_35_method_19_code (1 : Nat) (Option.some Jvm.ClassFile.FieldType.boolean)).before args0 about1 = true := code_word (m := ⟨6, 0⟩) (meth := k6m0) (c := k6c0) (by decide +kernel) rfl rfl rfl (by decide +kernel)
set_option maxRecDepth 65536 in
theorem w_c2 : (Jvm.Cond.code ({ cls := "com/example/placerfill/placerfill/OrderAction$2", name := "reachesChildren", desc := "()Z" } : Jvm.MethodName) prog_37_method_2_code (1 : Nat) (Option.some Jvm.ClassFile.FieldType.boolean)).before args0 about1 = true := code_word (m := ⟨8, 0⟩) (meth := k8m0) (c := k8c0) (by decide +kernel) rfl rfl rfl (by decide +kernel)
def codes1 : List Jvm.Cond := [Jvm.Cond.code x code maxLocals ret, Jvm.Cond.code ({ cls := "com/example/placerfill/placerfill/OrderAction", name := "reachesChildren", desc := "()Z" } : Jvm.MethodName) prog_35_method_19_code (1 : Nat) (Option.some Jvm.ClassFile.FieldType.boolean), Jvm.Cond.code ({ cls := "com/example/placerfill/placerfill/OrderAction$2", name := "reachesChildren", desc := "()Z" } : Jvm.MethodName) prog_37_method_2_code (1 : Nat) (Option.some Jvm.ClassFile.FieldType.boolean)]
set_option maxRecDepth 65536 in
theorem codes_eq : words1.filter isCode = codes1 := rfl
theorem w_codes : ∀ c ∈ words1.filter isCode, c.before args0 about1 = true := by
  rw [codes_eq]
  intro c hc
  simp only [codes1, List.mem_cons, List.not_mem_nil, or_false] at hc
  rcases hc with rfl | rfl | rfl
  · exact w_c0
  · exact w_c1
  · exact w_c2
set_option maxRecDepth 65536 in
theorem w_t1 : (words1.take 24).all (fun c => isCode c || c.before args0 about1) = true := by decide +kernel
set_option maxRecDepth 65536 in
theorem w_t2 : ((words1.drop 24).take 24).all (fun c => isCode c || c.before args0 about1) = true := by decide +kernel
set_option maxRecDepth 65536 in
theorem w_t3 : ((words1.drop 24).drop 24).all (fun c => isCode c || c.before args0 about1) = true := by decide +kernel
theorem w_tables : (allAtoms (Jvm.Cond.code x code maxLocals ret :: tables_1)).before args0 about1 = true := by
  rw [allAtoms_all]
  show words1.all (fun c => c.before args0 about1) = true
  refine all_split ?_ w_codes
  rw [← List.take_append_drop 24 words1, List.all_append, w_t1, ← List.take_append_drop 24 (words1.drop 24), List.all_append, w_t2, w_t3]
  rfl
set_option maxRecDepth 65536 in
theorem w_case : (Jvm.Cond.and given_1 narrow_1).before args0 about1 = true := by decide +kernel
theorem w_applies : (headSpec (Jvm.Cond.code x code maxLocals ret :: tables_1) room_1).applies x e0.platform about1 = true :=
  (Spec.applies_iff w_frames).mpr ⟨w_running, w_runnable, w_alone, w_named, w_hears, w_ripe, w_room, w_tables⟩
theorem atStart : AtStart classFile x code maxLocals ret World_1 tables_1 room_1 Calls_1 rest_1 Pre_1 launch0 p0 e0 about1 theMethod args0 below0 :=
  ⟨lists_1, trivial, launch0.admits_env _ _ _, launch0.least_env, fairChoices_fair.cas, fairChoices_fair.clock, w_frames, w_args, w_heap, w_applies, trivial, trivial, w_case⟩
end start1
theorem witness_1 : WitnessClaimed_1 := ⟨start1.p0, start1.e0, start1.about1, start1.theMethod, start1.args0, start1.below0, start1.atStart⟩
end Jvm.Pilot.@@N@@
