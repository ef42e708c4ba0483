import JvmDerived
import JvmDerived.Pilot.@@N@@Statement
import JvmDerived.Pilot.@@N@@Code
set_option linter.unusedVariables false
set_option linter.unusedSimpArgs false
namespace Jvm.Pilot.@@N@@
open Jvm Jvm.ClassFile Sem Op Lib Jvm.Free Jvm.Stand Jvm.LawKit Jvm.RoadKit Bundle Jvm.Pilot.@@N@@.Jvm.D
/-- from S the run goes on to an end that answers Q -/
def own_Go (p : Program) (e : Env) (below : List Frame) (s : State) (Q : Option Value → Heap → List Loc → Prop) (rm : Room) (S : State) : Prop :=
  ∃ t o, Steps p.tables e below S t ∧ t.status = .running ∧ Ended t below o ∧ ∃ v L, o = .returned v ∧ Q v t.heap L ∧ FrameEnd s o t L rm.cells rm.slots
section OwnKit
variable {p : Program} {l : Launch} {e : Env} {R rm : Room} {s S S' : State} {m : MethodId} {args : Array Value} {below : List Frame} {meth : Method} {c : Code} {T : State} {locs : List Loc} {cells slots : Nat} {Q : Option Value → Heap → List Loc → Prop}
theorem own_by (st : ∀ t, Steps p.tables e below S' t → Steps p.tables e below S t) (k : own_Go p e below s Q rm S') : own_Go p e below s Q rm S := by
  obtain ⟨t, o, h, r⟩ := k
  exact ⟨t, o, st _ h, r⟩
theorem own_via (st : Steps p.tables e below S S') (k : own_Go p e below s Q rm S') : own_Go p e below s Q rm S := own_by (fun _ h => st.trans h) k
theorem own_out {v : Option Value} {pc : Nat} {Ls : Array Slot} {st : List Value} (X : Stand p l e rm s m args below meth c T locs cells slots) (hlk : meth.locks = false) (hv : meth.sig.returnType = none → v = none) (hc : cells ≤ rm.cells) (hs : slots ≤ rm.slots)
    (step : ∀ fs, (∀ (f : JFrame) (acts : List Action), f.method = m → f.locked = none → f.entered = [] → (doReturn e (T.setTop f) acts v).1 = T.setFrames fs) → Steps p.tables e below (T.setTop (mkF m pc Ls st)) (T.setFrames fs)) (hQ : Q v T.heap locs) : own_Go p e below s Q rm (T.setTop (mkF m pc Ls st)) := by
  obtain ⟨fs, hr, hrun, hended, hW, hsame⟩ := X.leave (v := v) hv hlk
  exact ⟨_, _, step fs hr, hrun, hended, v, locs, rfl, hQ, ⟨_, rfl⟩, hW, hsame.mono hc hs⟩
theorem own_retV (X : Stand p l e rm s m args below meth c T locs cells slots) (hx : p.tables.exec = Jvm.exec) (hlk : meth.locks = false) {pc : Nat} {Ls : Array Slot} (hret : meth.sig.returnType = none) (hd : decode c.code pc = .ok (.return_, 1)) (hQ : Q none T.heap locs) (hc : cells ≤ rm.cells) (hs : slots ≤ rm.slots) :
    own_Go p e below s Q rm (T.setTop (mkF m pc Ls [])) := own_out X hlk (fun _ => rfl) hc hs (fun fs hr => X.returnOut hx hret hd hr) hQ
theorem own_retI (X : Stand p l e rm s m args below meth c T locs cells slots) (hx : p.tables.exec = Jvm.exec) (hlk : meth.locks = false) {pc : Nat} {Ls : Array Slot} {z : Int32} {t : FieldType} {rest : List Value} (hret : meth.sig.returnType = some t) (ht : t = .int ∨ t = .boolean ∨ t = .byte ∨ t = .char ∨ t = .short) (hn : narrow t (.int z) = .int z) (hd : decode c.code pc = .ok (.ireturn, 1)) (hQ : Q (some (.int z)) T.heap locs) (hc : cells ≤ rm.cells) (hs : slots ≤ rm.slots) :
    own_Go p e below s Q rm (T.setTop (mkF m pc Ls (.int z :: rest))) := own_out X hlk (fun h => by rw [hret] at h; cases h) hc hs (fun fs hr => retOut X hx hret hn (Or.inl ⟨rfl, ht, z, rfl⟩) hd hr) hQ
theorem own_retL (X : Stand p l e rm s m args below meth c T locs cells slots) (hx : p.tables.exec = Jvm.exec) (hlk : meth.locks = false) {pc : Nat} {Ls : Array Slot} {z : Int64} {rest : List Value} (hret : meth.sig.returnType = some .long) (hd : decode c.code pc = .ok (.lreturn, 1)) (hQ : Q (some (.long z)) T.heap locs) (hc : cells ≤ rm.cells) (hs : slots ≤ rm.slots) :
    own_Go p e below s Q rm (T.setTop (mkF m pc Ls (.long z :: rest))) := own_out X hlk (fun h => by rw [hret] at h; cases h) hc hs (fun fs hr => retOut X hx hret rfl (Or.inr (Or.inl ⟨rfl, rfl, z, rfl⟩)) hd hr) hQ
theorem own_retA (X : Stand p l e rm s m args below meth c T locs cells slots) (hx : p.tables.exec = Jvm.exec) (hlk : meth.locks = false) {pc : Nat} {Ls : Array Slot} {w : Value} {t : FieldType} {rest : List Value} (hret : meth.sig.returnType = some t) (ht : t.isReference = true) (hw : w.isRef = true) (hd : decode c.code pc = .ok (.areturn, 1)) (hQ : Q (some w) T.heap locs) (hc : cells ≤ rm.cells) (hs : slots ≤ rm.slots) :
    own_Go p e below s Q rm (T.setTop (mkF m pc Ls (w :: rest))) := by
  have hn : narrow t w = w := by cases w <;> first | (simp [Value.isRef] at hw; done) | (cases t <;> first | (simp [FieldType.isReference] at ht; done) | rfl)
  exact own_out X hlk (fun h => by rw [hret] at h; cases h) hc hs (fun fs hr => retOut X hx hret hn (Or.inr (Or.inr (Or.inr (Or.inr ⟨rfl, ht, hw⟩)))) hd hr) hQ
theorem own_enter {Z : State} {h0 : Heap} {y : MethodName} {bytes : ByteArray} {maxL : Nat} {ret : Option FieldType} {ws : List Jvm.Cond} {as : Array Value} (hp : plainFor y = true)
    (body : ∀ p e s m below meth c s₁, Stand p l e rm s m as below meth c s₁ [] 0 0 → p.tables.exec = Jvm.exec → Z.Warmed39 s.vm → c.code = bytes → c.maxLocals = maxL → s.vm.findClass y.cls = some m.cls → meth.name = y.name → meth.sig.returnType = ret → meth.locks = false → s₁.heap = h0 →
      own_Go p e below s Q rm (s₁.setTop (entryFrame m as maxL))) :
    MetFree l y (head1 (Jvm.Cond.code y bytes maxL ret :: ws) rm) (fun a U => a = as ∧ Z.Warmed39 U.vm ∧ U.heap = h0) (fun _ _ _ _ _ => True) (fun _ U o U' => ∃ v L, o = .returned v ∧ Q v U'.heap L ∧ FrameEnd U o U' L rm.cells rm.slots) := by
  refine MetFree.of_bodySF hp hisR ?_
  intro p e s m args below meth c s₁ Bd hml0 hP hK
  obtain ⟨rfl, hZ, hh⟩ := hP
  have X0 : Stand p l e rm s m args below meth c s₁ [] 0 0 := Stand.of_body Bd
  exact body p e s m below meth c s₁ X0 Bd.exec hZ Bd.bytes hml0 (findClass_of_methodNamed Bd.named) (name_of_methodNamed Bd.named Bd.method).1 Bd.returns (BodyLoose.notSynchronized Bd) (by rw [← hh, Bd.state]; rfl)
end OwnKit
theorem own_len31 {Z : State} {args : Array Value} {t : Term} {v : Value} {a : Addr} {cl : Cell} (h : (Term.length t).eval args Z none [] Z = some v) (ht : t.eval args Z none [] Z = some (.ref a)) (hc : Z.heap[a]? = some cl) : cl.slots.size < 2 ^ 31 := by
  simp only [Term.eval, ht, Option.bind_eq_bind, Option.bind_some] at h
  cases ha : Z.arrayAt? a with
  | none => simp [ha] at h
  | some c2 =>
    cases (State.arrayAt?_spec ha).1.symm.trans hc
    by_cases q : cl.slots.size < 2 ^ 31
    · exact q
    · simp [ha, q] at h
theorem own_eqr {Z : State} {args : Array Value} {X F : Term} {y : Value} (hy : y.isRef = true) (hF : F.eval args Z none [] Z = some y) (h : (Jvm.Cond.eq X F).value args Z none Z [] = some true) : X.eval args Z none [] Z = some y := by
  obtain ⟨x, y', e1, e2, k1, k2⟩ := cmp_v (Or.inl h)
  cases hF.symm.trans e2
  have hx : x.isRef = true := by
    rcases ref_cases hy with rfl | ⟨a, rfl⟩
    · exact k2.2
    · exact k2.2
  exact e1.trans (congrArg some (gotT (eq_R e1 hF hx hy) h))
theorem pl_0 : plainFor x = true := plainFor_of_name (by first | (simp [plainName, overriddenIn]; done) | decide +kernel)
theorem d1_0 : decode prog_37_method_7_code 0 = .ok (.aload_n 0, 1) := by decide +kernel
theorem d1_1 : decode prog_37_method_7_code 1 = .ok (.getfield 33, 3) := by decide +kernel
theorem d1_4 : decode prog_37_method_7_code 4 = .ok (.aload_n 0, 1) := by decide +kernel
theorem d1_5 : decode prog_37_method_7_code 5 = .ok (.invokevirtual 122, 3) := by decide +kernel
theorem d1_8 : decode prog_37_method_7_code 8 = .ok (.invokestatic 130, 3) := by decide +kernel
theorem d1_11 : decode prog_37_method_7_code 11 = .ok (.astore_n 1, 1) := by decide +kernel
theorem d1_12 : decode prog_37_method_7_code 12 = .ok (.aload_n 1, 1) := by decide +kernel
theorem d1_13 : decode prog_37_method_7_code 13 = .ok (.aload_n 0, 1) := by decide +kernel
theorem d1_14 : decode prog_37_method_7_code 14 = .ok (.getfield 33, 3) := by decide +kernel
theorem d1_17 : decode prog_37_method_7_code 17 = .ok (.arraylength, 1) := by decide +kernel
theorem d1_18 : decode prog_37_method_7_code 18 = .ok (.aload_n 0, 1) := by decide +kernel
theorem d1_19 : decode prog_37_method_7_code 19 = .ok (.getfield 37, 3) := by decide +kernel
theorem d1_22 : decode prog_37_method_7_code 22 = .ok (.i2b, 1) := by decide +kernel
theorem d1_23 : decode prog_37_method_7_code 23 = .ok (.bastore, 1) := by decide +kernel
theorem d1_24 : decode prog_37_method_7_code 24 = .ok (.aload_n 1, 1) := by decide +kernel
theorem d1_25 : decode prog_37_method_7_code 25 = .ok (.areturn, 1) := by decide +kernel
theorem pl_1 : plainFor (⟨"com/example/weft/weft/formats/FileFormat", "getIdentifier", "()[B"⟩ : MethodName) = true := plainFor_of_name (by first | (simp [plainName, overriddenIn]; done) | decide +kernel)
theorem d2_0 : decode prog_37_method_9_code 0 = .ok (.aload_n 0, 1) := by decide +kernel
theorem d2_1 : decode prog_37_method_9_code 1 = .ok (.getfield 33, 3) := by decide +kernel
theorem d2_4 : decode prog_37_method_9_code 4 = .ok (.arraylength, 1) := by decide +kernel
theorem d2_5 : decode prog_37_method_9_code 5 = .ok (.iconst 1, 1) := by decide +kernel
theorem d2_6 : decode prog_37_method_9_code 6 = .ok (.iadd, 1) := by decide +kernel
theorem d2_7 : decode prog_37_method_9_code 7 = .ok (.ireturn, 1) := by decide +kernel
theorem pl_2 : plainFor (⟨"com/example/weft/weft/formats/FileFormat", "getIdentifierSize", "()I"⟩ : MethodName) = true := plainFor_of_name (by first | (simp [plainName, overriddenIn]; done) | decide +kernel)
theorem d3_0 : decode jdk_65_method_121_code 0 = .ok (.iload_n 1, 1) := by decide +kernel
theorem d3_1 : decode jdk_65_method_121_code 1 = .ok (.aload_n 0, 1) := by decide +kernel
theorem d3_2 : decode jdk_65_method_121_code 2 = .ok (.arraylength, 1) := by decide +kernel
theorem d3_3 : decode jdk_65_method_121_code 3 = .ok (.if_icmp .ne 11, 3) := by decide +kernel
theorem d3_6 : decode jdk_65_method_121_code 6 = .ok (.aload_n 0, 1) := by decide +kernel
theorem d3_7 : decode jdk_65_method_121_code 7 = .ok (.invokevirtual 310, 3) := by decide +kernel
theorem d3_10 : decode jdk_65_method_121_code 10 = .ok (.checkcast 311, 3) := by decide +kernel
theorem d3_13 : decode jdk_65_method_121_code 13 = .ok (.areturn, 1) := by decide +kernel
theorem d3_14 : decode jdk_65_method_121_code 14 = .ok (.iload_n 1, 1) := by decide +kernel
theorem d3_15 : decode jdk_65_method_121_code 15 = .ok (.newarray .byte, 2) := by decide +kernel
theorem d3_17 : decode jdk_65_method_121_code 17 = .ok (.astore_n 2, 1) := by decide +kernel
theorem d3_18 : decode jdk_65_method_121_code 18 = .ok (.aload_n 0, 1) := by decide +kernel
theorem d3_19 : decode jdk_65_method_121_code 19 = .ok (.iconst 0, 1) := by decide +kernel
theorem d3_20 : decode jdk_65_method_121_code 20 = .ok (.aload_n 2, 1) := by decide +kernel
theorem d3_21 : decode jdk_65_method_121_code 21 = .ok (.iconst 0, 1) := by decide +kernel
theorem d3_22 : decode jdk_65_method_121_code 22 = .ok (.aload_n 0, 1) := by decide +kernel
theorem d3_23 : decode jdk_65_method_121_code 23 = .ok (.arraylength, 1) := by decide +kernel
theorem d3_24 : decode jdk_65_method_121_code 24 = .ok (.iload_n 1, 1) := by decide +kernel
theorem d3_25 : decode jdk_65_method_121_code 25 = .ok (.invokestatic 304, 3) := by decide +kernel
theorem d3_28 : decode jdk_65_method_121_code 28 = .ok (.invokestatic 150, 3) := by decide +kernel
theorem d3_31 : decode jdk_65_method_121_code 31 = .ok (.aload_n 2, 1) := by decide +kernel
theorem d3_32 : decode jdk_65_method_121_code 32 = .ok (.areturn, 1) := by decide +kernel
theorem pl_3 : plainFor (⟨"java/util/Arrays", "copyOf", "([BI)[B"⟩ : MethodName) = true := plainFor_of_name (by first | (simp [plainName, overriddenIn]; done) | decide +kernel)
theorem d4_0 : decode jdk_29_method_69_code 0 = .ok (.iload_n 0, 1) := by decide +kernel
theorem d4_1 : decode jdk_29_method_69_code 1 = .ok (.iload_n 1, 1) := by decide +kernel
theorem d4_2 : decode jdk_29_method_69_code 2 = .ok (.if_icmp .gt 7, 3) := by decide +kernel
theorem d4_5 : decode jdk_29_method_69_code 5 = .ok (.iload_n 0, 1) := by decide +kernel
theorem d4_6 : decode jdk_29_method_69_code 6 = .ok (.goto 4, 3) := by decide +kernel
theorem d4_9 : decode jdk_29_method_69_code 9 = .ok (.iload_n 1, 1) := by decide +kernel
theorem d4_10 : decode jdk_29_method_69_code 10 = .ok (.ireturn, 1) := by decide +kernel
theorem pl_4 : plainFor (⟨"java/lang/Math", "min", "(II)I"⟩ : MethodName) = true := Jvm.Free.JP.mathPlain rfl (by decide +kernel)
theorem pd_0 : parseMethodDescriptor "()[B" = some ⟨[], some (.array .byte)⟩ := by decide +kernel
theorem pd_1 : parseMethodDescriptor "()I" = some ⟨[], some .int⟩ := by decide +kernel
theorem pd_2 : parseMethodDescriptor "([BI)[B" = some ⟨[(.array .byte), .int], some (.array .byte)⟩ := by decide +kernel
theorem pd_3 : parseMethodDescriptor "(II)I" = some ⟨[.int, .int], some .int⟩ := by decide +kernel
theorem pd_4 : parseMethodDescriptor "(Ljava/lang/Object;ILjava/lang/Object;II)V" = some ⟨[(.object "java/lang/Object"), .int, (.object "java/lang/Object"), .int, .int], none⟩ := by decide +kernel
theorem own_mod (x n : Int32) (hn : 0 < n.toInt) : 0 ≤ ((x &&& (2147483647 : Int32)) % n).toInt ∧ ((x &&& (2147483647 : Int32)) % n).toInt < n.toInt := by
  have h := (c_and x 2147483647 (by decide)).1
  have q := (c_iremV (x &&& 2147483647) n).1 h hn
  exact ⟨q.1, q.2.1⟩
theorem own_at6 (m : Nat) (h : m < 6) : ∃ z, ([(.int (12 : Int32)), (.int (117 : Int32)), (.int (13 : Int32)), (.int (5 : Int32)), (.int (14 : Int32)), (.int (5 : Int32))] : List Value).getD m (.int (0 : Int32)) = .int z := by
  match m, h with
  | 0, _ => exact ⟨_, rfl⟩
  | 1, _ => exact ⟨_, rfl⟩
  | 2, _ => exact ⟨_, rfl⟩
  | 3, _ => exact ⟨_, rfl⟩
  | 4, _ => exact ⟨_, rfl⟩
  | 5, _ => exact ⟨_, rfl⟩
  | m + 6, h => exact absurd h (by omega)
theorem own_lt6 {i : Int32} (h : ¬ i < 0 ∧ i < (6 : Int32)) : i.toNatClampNeg < 6 := by
  have a := nat_of h.1
  have b := Int32.lt_iff_toInt_lt.mp h.2
  have c : (6 : Int32).toInt = 6 := by decide
  omega
theorem own_b6 (x : Int32) : ¬ ((x &&& (2147483647 : Int32)) % (6 : Int32)) < 0 ∧ ((x &&& (2147483647 : Int32)) % (6 : Int32)) < (6 : Int32) := by
  have h := own_mod x 6 (by decide)
  exact ⟨fun q => by have := Int32.lt_iff_toInt_lt.mp q; have e : (0 : Int32).toInt = 0 := by decide
                     omega, Int32.lt_iff_toInt_lt.mpr h.2⟩
theorem own_at8 (m : Nat) (h : m < 8) : ∃ z, ([(.int (97 : Int32)), (.int (98 : Int32)), (.int (99 : Int32)), (.int (114 : Int32)), (.int (121 : Int32)), (.int (112 : Int32)), (.int (116 : Int32)), (.int (1 : Int32))] : List Value).getD m (.int (0 : Int32)) = .int z := by
  match m, h with
  | 0, _ => exact ⟨_, rfl⟩
  | 1, _ => exact ⟨_, rfl⟩
  | 2, _ => exact ⟨_, rfl⟩
  | 3, _ => exact ⟨_, rfl⟩
  | 4, _ => exact ⟨_, rfl⟩
  | 5, _ => exact ⟨_, rfl⟩
  | 6, _ => exact ⟨_, rfl⟩
  | 7, _ => exact ⟨_, rfl⟩
  | m + 8, h => exact absurd h (by omega)
theorem own_lt8 {i : Int32} (h : ¬ i < 0 ∧ i < (8 : Int32)) : i.toNatClampNeg < 8 := by
  have a := nat_of h.1
  have b := Int32.lt_iff_toInt_lt.mp h.2
  have c : (8 : Int32).toInt = 8 := by decide
  omega
theorem own_b8 (x : Int32) : ¬ ((x &&& (2147483647 : Int32)) % (8 : Int32)) < 0 ∧ ((x &&& (2147483647 : Int32)) % (8 : Int32)) < (8 : Int32) := by
  have h := own_mod x 8 (by decide)
  exact ⟨fun q => by have := Int32.lt_iff_toInt_lt.mp q; have e : (0 : Int32).toInt = 0 := by decide
                     omega, Int32.lt_iff_toInt_lt.mpr h.2⟩
def Q_rm_min (Z : State) (x y r : Int32) (h0 : Heap) (n0 : Nat) (v : Option Value) (h : Heap) (L : List Loc) : Prop := v = some (.int r) ∧ Fr n0 L ∧ h = h0
set_option maxRecDepth 65536 in
set_option maxHeartbeats 40000000 in
theorem rm_min (l : Launch) (Z : State) (a0 : Array Value) (hw : ∀ d ∈ tables_1, d.before a0 Z = true) (ws : List Jvm.Cond) (x y r : Int32) (h0 : Heap) (n0 : Nat) (hr : r = if y < x then y else x) :
    MetFree l (⟨"java/lang/Math", "min", "(II)I"⟩ : MethodName) (head1 (Jvm.Cond.code (⟨"java/lang/Math", "min", "(II)I"⟩ : MethodName) jdk_29_method_69_code 2 (some .int) :: ws) ({ frames := 0, cells := 0, slots := 0, locals := 0 } : Room)) (fun ar U => ar = #[(.int x), (.int y)] ∧ Z.Warmed39 U.vm ∧ U.heap = h0) (fun _ _ _ _ _ => True) (fun _ U o U' => ∃ v L, o = .returned v ∧ Q_rm_min Z x y r h0 n0 v U'.heap L ∧ FrameEnd U o U' L ({ frames := 0, cells := 0, slots := 0, locals := 0 } : Room).cells ({ frames := 0, cells := 0, slots := 0, locals := 0 } : Room).slots) := by
  refine own_enter (Q := (Q_rm_min Z x y r h0 n0)) pl_4 ?_
  intro p e s m below meth c s₁ X0 hx hZ hby hml hown hnm hret hlk e0
  have N0 := Fr.nil n0
  refine own_by (fun tz kz => castTop (g' := (mkF m 0 #[.val (.int x), .val (.int y)] [])) (by first | rfl | (simp [entryFrame, mkF, argsToLocals, Value.category]; done)) kz) ?_
  show own_Go p e below s _ _ (s₁.setTop (mkF m 0 #[.val (.int x), .val (.int y)] []))
  refine own_by (fun tz kz => XS.iloadN X0.here hx rfl (hb hby d4_0) rfl  kz) ?_
  show own_Go p e below s _ _ (s₁.setTop (mkF m 1 #[.val (.int x), .val (.int y)] [(.int x)]))
  refine own_by (fun tz kz => XS.iloadN X0.here hx rfl (hb hby d4_1) rfl  kz) ?_
  show own_Go p e below s _ _ (s₁.setTop (mkF m 2 #[.val (.int x), .val (.int y)] [(.int y), (.int x)]))
  by_cases hc2_1 : y < x
  · refine own_by (fun tz kz => XS.icmpYes X0.here hx rfl (pc0 := 2) (pc' := 9) rfl (hb hby d4_2) rfl (tlt hc2_1).2.2.1 (by decide) (by decide) kz) ?_
    show own_Go p e below s _ _ (s₁.setTop (mkF m 9 #[.val (.int x), .val (.int y)] []))
    refine own_by (fun tz kz => XS.iloadN X0.here hx rfl (hb hby d4_9) rfl  kz) ?_
    show own_Go p e below s _ _ (s₁.setTop (mkF m 10 #[.val (.int x), .val (.int y)] [(.int y)]))
    refine own_retI X0 hx hlk (t := .int) hret (by simp) rfl (hb hby d4_10) ?_ (by decide) (by decide)
    exact ⟨by simp [hr, hc2_1], N0, e0⟩
  · refine own_by (fun tz kz => XS.icmpNo X0.here hx rfl (hb hby d4_2) rfl (flt hc2_1).2.2.1 kz) ?_
    show own_Go p e below s _ _ (s₁.setTop (mkF m 5 #[.val (.int x), .val (.int y)] []))
    refine own_by (fun tz kz => XS.iloadN X0.here hx rfl (hb hby d4_5) rfl  kz) ?_
    show own_Go p e below s _ _ (s₁.setTop (mkF m 6 #[.val (.int x), .val (.int y)] [(.int x)]))
    refine own_by (fun tz kz => XS.goto X0.here hx rfl (pc0 := 6) (pc' := 10) rfl (hb hby d4_6) (by decide) (by decide) kz) ?_
    show own_Go p e below s _ _ (s₁.setTop (mkF m 10 #[.val (.int x), .val (.int y)] [(.int x)]))
    refine own_retI X0 hx hlk (t := .int) hret (by simp) rfl (hb hby d4_10) ?_ (by decide) (by decide)
    exact ⟨by simp [hr, hc2_1], N0, e0⟩
def Q_rm_size0 (Z : State) (a ma : Addr) (km : ClassId) (h0 : Heap) (n0 : Nat) (v : Option Value) (h : Heap) (L : List Loc) : Prop := v = some (.int (6 : Int32)) ∧ Fr n0 L ∧ h = h0
set_option maxRecDepth 65536 in
set_option maxHeartbeats 40000000 in
theorem rm_size0 (l : Launch) (Z : State) (a0 : Array Value) (hw : ∀ d ∈ tables_1, d.before a0 Z = true) (ws : List Jvm.Cond) (a ma : Addr) (km : ClassId) (h0 : Heap) (n0 : Nat) (O0 : Old Z n0 h0) (V_m : Arv Z Z.heap ma km .byte (5 : Int32) [(.int (12 : Int32)), (.int (117 : Int32)), (.int (13 : Int32)), (.int (5 : Int32)), (.int (14 : Int32))] (.int (0 : Int32))) (F_m : Fld Z Z.heap a "com/example/weft/weft/formats/FileFormat" "magic" "[B" (.ref ma)) (F_v : Fld Z Z.heap a "com/example/weft/weft/formats/FileFormat" "version" "I" (.int (5 : Int32))) :
    MetFree l (⟨"com/example/weft/weft/formats/FileFormat", "getIdentifierSize", "()I"⟩ : MethodName) (head1 (Jvm.Cond.code (⟨"com/example/weft/weft/formats/FileFormat", "getIdentifierSize", "()I"⟩ : MethodName) prog_37_method_9_code 1 (some .int) :: ws) ({ frames := 0, cells := 0, slots := 0, locals := 0 } : Room)) (fun ar U => ar = #[(.ref a)] ∧ Z.Warmed39 U.vm ∧ U.heap = h0) (fun _ _ _ _ _ => True) (fun _ U o U' => ∃ v L, o = .returned v ∧ Q_rm_size0 Z a ma km h0 n0 v U'.heap L ∧ FrameEnd U o U' L ({ frames := 0, cells := 0, slots := 0, locals := 0 } : Room).cells ({ frames := 0, cells := 0, slots := 0, locals := 0 } : Room).slots) := by
  refine own_enter (Q := (Q_rm_size0 Z a ma km h0 n0)) pl_2 ?_
  intro p e s m below meth c s₁ X0 hx hZ hby hml hown hnm hret hlk e0
  have N0 := Fr.nil n0
  refine own_by (fun tz kz => castTop (g' := (mkF m 0 #[.val (.ref a)] [])) (by first | rfl | (simp [entryFrame, mkF, argsToLocals, Value.category]; done)) kz) ?_
  show own_Go p e below s _ _ (s₁.setTop (mkF m 0 #[.val (.ref a)] []))
  refine own_by (fun tz kz => XS.aloadN X0.here hx rfl (hb hby d2_0) rfl rfl kz) ?_
  show own_Go p e below s _ _ (s₁.setTop (mkF m 1 #[.val (.ref a)] [(.ref a)]))
  obtain ⟨T1, X1, e1, st1⟩ := getF X0 hx hZ hown (host := "") (Or.inl (hw _ (List.mem_of_getElem? (i := 9) rfl))) Via.refl e0 (F_m.ext O0.2) (g := (mkF m 1 #[.val (.ref a)] [(.ref a)])) rfl rfl (hb hby d2_1)
  refine own_by st1 ?_
  show own_Go p e below s _ _ (T1.setTop (mkF m 4 #[.val (.ref a)] [(.ref ma)]))
  obtain ⟨c2, Ar2, q2, S2, M2, Hh2, G2⟩ := id (Arv.ext V_m O0.2)
  refine own_by (fun tz kz => X1.arraylength hx (by rw [e1]; exact Ar2.1) (State.isArrayOf_alike hZ.alike Ar2.2.1) (g := (mkF m 4 #[.val (.ref a)] [(.ref ma)])) rfl rfl (hb hby d2_4) _ kz) ?_
  rw [len_of S2 M2]
  show own_Go p e below s _ _ (T1.setTop (mkF m 5 #[.val (.ref a)] [(.int (5 : Int32))]))
  refine own_by (fun tz kz => XS.iconst X1.here hx rfl (hb hby d2_5) kz) ?_
  show own_Go p e below s _ _ (T1.setTop (mkF m 6 #[.val (.ref a)] [(.int (1 : Int32)), (.int (5 : Int32))]))
  refine own_by (fun tz kz => XS.iadd X1.here hx rfl (hb hby d2_6) rfl kz) ?_
  show own_Go p e below s _ _ (T1.setTop (mkF m 7 #[.val (.ref a)] [(.int ((5 : Int32) + (1 : Int32)))]))
  refine own_retI X1 hx hlk (t := .int) hret (by simp) rfl (hb hby d2_7) ?_ (by decide) (by decide)
  exact ⟨congrArg (fun z => some (Value.int z)) (by decide), N0, e1⟩
def Q_rm_copy0 (Z : State) (ma : Addr) (km : ClassId) (h0 : Heap) (n0 : Nat) (v : Option Value) (h : Heap) (L : List Loc) : Prop := ∃ b kb, v = some (.ref b) ∧ Fr n0 L ∧ n0 ≤ b ∧ h0.size ≤ b ∧ Keep h0 h [] ∧ Arv Z h b kb .byte (6 : Int32) [(.int (12 : Int32)), (.int (117 : Int32)), (.int (13 : Int32)), (.int (5 : Int32)), (.int (14 : Int32)), (.int (0 : Int32))] (.int (0 : Int32))
set_option maxRecDepth 65536 in
set_option maxHeartbeats 40000000 in
theorem rm_copy0 (l : Launch) (Z : State) (a0 : Array Value) (hw : ∀ d ∈ tables_1, d.before a0 Z = true) (ws : List Jvm.Cond) (ma : Addr) (km : ClassId) (h0 : Heap) (n0 : Nat) (O0 : Old Z n0 h0) (V_m : Arv Z Z.heap ma km .byte (5 : Int32) [(.int (12 : Int32)), (.int (117 : Int32)), (.int (13 : Int32)), (.int (5 : Int32)), (.int (14 : Int32))] (.int (0 : Int32))) :
    MetFree l (⟨"java/util/Arrays", "copyOf", "([BI)[B"⟩ : MethodName) (head1 (Jvm.Cond.code (⟨"java/util/Arrays", "copyOf", "([BI)[B"⟩ : MethodName) jdk_65_method_121_code 3 (some (.array .byte)) :: ws) ({ frames := 1, cells := 1, slots := 6, locals := 64 } : Room)) (fun ar U => ar = #[(.ref ma), (.int (6 : Int32))] ∧ Z.Warmed39 U.vm ∧ U.heap = h0) (fun _ _ _ _ _ => True) (fun _ U o U' => ∃ v L, o = .returned v ∧ Q_rm_copy0 Z ma km h0 n0 v U'.heap L ∧ FrameEnd U o U' L ({ frames := 1, cells := 1, slots := 6, locals := 64 } : Room).cells ({ frames := 1, cells := 1, slots := 6, locals := 64 } : Room).slots) := by
  refine own_enter (Q := (Q_rm_copy0 Z ma km h0 n0)) pl_3 ?_
  intro p e s m below meth c s₁ X0 hx hZ hby hml hown hnm hret hlk e0
  have N0 := Fr.nil n0
  refine own_by (fun tz kz => castTop (g' := (mkF m 0 #[.val (.ref ma), .val (.int (6 : Int32)), .unset] [])) (by first | rfl | (simp [entryFrame, mkF, argsToLocals, Value.category]; done)) kz) ?_
  have K0 := Keep.refl h0 []
  show own_Go p e below s _ _ (s₁.setTop (mkF m 0 #[.val (.ref ma), .val (.int (6 : Int32)), .unset] []))
  refine own_by (fun tz kz => XS.iloadN X0.here hx rfl (hb hby d3_0) rfl  kz) ?_
  show own_Go p e below s _ _ (s₁.setTop (mkF m 1 #[.val (.ref ma), .val (.int (6 : Int32)), .unset] [(.int (6 : Int32))]))
  refine own_by (fun tz kz => XS.aloadN X0.here hx rfl (hb hby d3_1) rfl rfl kz) ?_
  show own_Go p e below s _ _ (s₁.setTop (mkF m 2 #[.val (.ref ma), .val (.int (6 : Int32)), .unset] [(.ref ma), (.int (6 : Int32))]))
  obtain ⟨c1, Ar1, q1, S1, M1, Hh1, G1⟩ := id (Arv.ext V_m O0.2)
  refine own_by (fun tz kz => X0.arraylength hx (by rw [e0]; exact Ar1.1) (State.isArrayOf_alike hZ.alike Ar1.2.1) (g := (mkF m 2 #[.val (.ref ma), .val (.int (6 : Int32)), .unset] [(.ref ma), (.int (6 : Int32))])) rfl rfl (hb hby d3_2) _ kz) ?_
  rw [len_of S1 M1]
  show own_Go p e below s _ _ (s₁.setTop (mkF m 3 #[.val (.ref ma), .val (.int (6 : Int32)), .unset] [(.int (5 : Int32)), (.int (6 : Int32))]))
  refine own_by (fun tz kz => XS.icmpYes X0.here hx rfl (pc0 := 3) (pc' := 14) rfl (hb hby d3_3) rfl (feq (by decide : ¬ (6 : Int32) = (5 : Int32))).2 (by decide) (by decide) kz) ?_
  show own_Go p e below s _ _ (s₁.setTop (mkF m 14 #[.val (.ref ma), .val (.int (6 : Int32)), .unset] []))
  refine own_by (fun tz kz => XS.iloadN X0.here hx rfl (hb hby d3_14) rfl  kz) ?_
  show own_Go p e below s _ _ (s₁.setTop (mkF m 15 #[.val (.ref ma), .val (.int (6 : Int32)), .unset] [(.int (6 : Int32))]))
  obtain ⟨T2, h2, k2, X2, e2, E2, A2, st2⟩ := newP X0 hx hZ (hw _ (List.mem_of_getElem? (i := 3) rfl)) e0 (g := (mkF m 15 #[.val (.ref ma), .val (.int (6 : Int32)), .unset] [(.int (6 : Int32))])) rfl (hb hby d3_15) rfl (by decide) (cap := 6) (by decide) (by decide) (by decide) (by decide)
  obtain ⟨b2, g2⟩ : ∃ z, z = h0.size := ⟨_, rfl⟩
  have ne_ma_b2 : ma ≠ b2 := by rw [g2]; exact Nat.ne_of_lt (Arv.lt (Arv.ext V_m O0.2))
  rw [← g2] at A2 st2
  have g_b2 : n0 ≤ b2 := by rw [g2]; exact O0.1 ▸ O0.2.1
  have sz_b2 : h0.size ≤ b2 := by rw [g2]; exact K0.1
  have O2 := O0.ext E2
  have K2 := K0.ext E2
  refine own_by st2 ?_
  have V2 : Arv Z h2 b2 k2 .byte (6 : Int32) [(.int (0 : Int32)), (.int (0 : Int32)), (.int (0 : Int32)), (.int (0 : Int32)), (.int (0 : Int32)), (.int (0 : Int32))] (.int (0 : Int32)) := (Arv.new A2 (by decide)).pad (pad_rep [] (.int (0 : Int32)) 6)
  show own_Go p e below s _ _ (T2.setTop (mkF m 17 #[.val (.ref ma), .val (.int (6 : Int32)), .unset] [(.ref b2)]))
  refine own_by (fun tz kz => XS.astoreN X2.here hx rfl (hb hby d3_17) rfl rfl (l' := #[.val (.ref ma), .val (.int (6 : Int32)), .val (.ref b2)]) rfl kz) ?_
  show own_Go p e below s _ _ (T2.setTop (mkF m 18 #[.val (.ref ma), .val (.int (6 : Int32)), .val (.ref b2)] []))
  refine own_by (fun tz kz => XS.aloadN X2.here hx rfl (hb hby d3_18) rfl rfl kz) ?_
  show own_Go p e below s _ _ (T2.setTop (mkF m 19 #[.val (.ref ma), .val (.int (6 : Int32)), .val (.ref b2)] [(.ref ma)]))
  refine own_by (fun tz kz => XS.iconst X2.here hx rfl (hb hby d3_19) kz) ?_
  show own_Go p e below s _ _ (T2.setTop (mkF m 20 #[.val (.ref ma), .val (.int (6 : Int32)), .val (.ref b2)] [(.int (0 : Int32)), (.ref ma)]))
  refine own_by (fun tz kz => XS.aloadN X2.here hx rfl (hb hby d3_20) rfl rfl kz) ?_
  show own_Go p e below s _ _ (T2.setTop (mkF m 21 #[.val (.ref ma), .val (.int (6 : Int32)), .val (.ref b2)] [(.ref b2), (.int (0 : Int32)), (.ref ma)]))
  refine own_by (fun tz kz => XS.iconst X2.here hx rfl (hb hby d3_21) kz) ?_
  show own_Go p e below s _ _ (T2.setTop (mkF m 22 #[.val (.ref ma), .val (.int (6 : Int32)), .val (.ref b2)] [(.int (0 : Int32)), (.ref b2), (.int (0 : Int32)), (.ref ma)]))
  refine own_by (fun tz kz => XS.aloadN X2.here hx rfl (hb hby d3_22) rfl rfl kz) ?_
  show own_Go p e below s _ _ (T2.setTop (mkF m 23 #[.val (.ref ma), .val (.int (6 : Int32)), .val (.ref b2)] [(.ref ma), (.int (0 : Int32)), (.ref b2), (.int (0 : Int32)), (.ref ma)]))
  have f4 := (Arv.ext (Arv.ext V_m O0.2) E2)
  obtain ⟨c3, Ar3, q3, S3, M3, Hh3, G3⟩ := id f4
  refine own_by (fun tz kz => X2.arraylength hx (by rw [e2]; exact Ar3.1) (State.isArrayOf_alike hZ.alike Ar3.2.1) (g := (mkF m 23 #[.val (.ref ma), .val (.int (6 : Int32)), .val (.ref b2)] [(.ref ma), (.int (0 : Int32)), (.ref b2), (.int (0 : Int32)), (.ref ma)])) rfl rfl (hb hby d3_23) _ kz) ?_
  rw [len_of S3 M3]
  show own_Go p e below s _ _ (T2.setTop (mkF m 24 #[.val (.ref ma), .val (.int (6 : Int32)), .val (.ref b2)] [(.int (5 : Int32)), (.int (0 : Int32)), (.ref b2), (.int (0 : Int32)), (.ref ma)]))
  refine own_by (fun tz kz => XS.iloadN X2.here hx rfl (hb hby d3_24) rfl  kz) ?_
  show own_Go p e below s _ _ (T2.setTop (mkF m 25 #[.val (.ref ma), .val (.int (6 : Int32)), .val (.ref b2)] [(.int (6 : Int32)), (.int (5 : Int32)), (.int (0 : Int32)), (.ref b2), (.int (0 : Int32)), (.ref ma)]))
  obtain ⟨_, _, ⟨T5, L5, k5, n5⟩, -, X5, ⟨Lc5, hQ5, l5, y5, z5⟩, st5⟩ := Jvm.LawKit.callS X2 hx (y := (⟨"java/lang/Math", "min", "(II)I"⟩ : MethodName)) hown (mvT hZ (hw _ (List.mem_of_getElem? (i := 20) rfl))) (mvT hZ (hw _ (List.mem_of_getElem? (i := 21) rfl))) (mvT hZ (hw _ (List.mem_of_getElem? (i := 22) rfl))) (mvT hZ (hw _ (List.mem_of_getElem? (i := 23) rfl))) (by decide) (backOf (W := 4) (rm_min l Z a0 hw [] (5 : Int32) (6 : Int32) (5 : Int32) h2 n0 (by decide)) hZ (hw _ (List.mem_of_getElem? (i := 23) rfl)) (hw _ (List.mem_of_getElem? (i := 22) rfl)) (by decide) (by decide)) (g := (mkF m 25 #[.val (.ref ma), .val (.int (6 : Int32)), .val (.ref b2)] [(.int (6 : Int32)), (.int (5 : Int32)), (.int (0 : Int32)), (.ref b2), (.int (0 : Int32)), (.ref ma)])) rfl (by rw [hml]; rfl) (argsL := [(.int (5 : Int32)), (.int (6 : Int32))]) (rest := [(.int (0 : Int32)), (.ref b2), (.int (0 : Int32)), (.ref ma)]) (lenOf pd_3 rfl) rfl (by show 2 * 0 + _ ≤ _; exact Nat.le_of_eq rfl) (hb hby d3_25) (fun _ _ => ⟨rfl, e2, (by decide : 1 + 0 ≤ _), (by decide : 6 + 0 ≤ _)⟩)
  dsimp only [Pt.U, Pt.locs, Pt.cells, Pt.slots] at X5 l5 y5 z5 st5 hQ5
  rw [l5, y5, z5] at X5
  obtain ⟨rfl, Nq5, e5⟩ := hQ5
  have N5 := Fr.app N0 Nq5
  refine own_by st5 ?_
  show own_Go p e below s _ _ (T5.setTop (mkF m 28 #[.val (.ref ma), .val (.int (6 : Int32)), .val (.ref b2)] [(.int (5 : Int32)), (.int (0 : Int32)), (.ref b2), (.int (0 : Int32)), (.ref ma)]))
  obtain ⟨T6, h6, L6, X6, e6, N6, Kq6, Vq6, st6⟩ := cpA X5 hx hZ hown (hw _ (List.mem_of_getElem? (i := 24) rfl)) (hw _ (List.mem_of_getElem? (i := 27) rfl)) (hw _ (List.mem_of_getElem? (i := 25) rfl)) (hw _ (List.mem_of_getElem? (i := 26) rfl)) e5 f4 V2 (us := [(.int (12 : Int32)), (.int (117 : Int32)), (.int (13 : Int32)), (.int (5 : Int32)), (.int (14 : Int32))]) (Or.inl ⟨rfl, rfl⟩) (by decide) (by decide) (by decide) (by decide) (by decide) rfl (by decide) N5 g_b2 (g := (mkF m 28 #[.val (.ref ma), .val (.int (6 : Int32)), .val (.ref b2)] [(.int (5 : Int32)), (.int (0 : Int32)), (.ref b2), (.int (0 : Int32)), (.ref ma)])) rfl (by rw [hml]; rfl) rfl (hb hby d3_28) (by decide) (W := 0) (by show 2 * 0 + _ ≤ _; exact Nat.le_of_eq rfl) (by decide)
  have Vr6 : Arv Z h6 b2 k2 .byte (6 : Int32) [(.int (12 : Int32)), (.int (117 : Int32)), (.int (13 : Int32)), (.int (5 : Int32)), (.int (14 : Int32)), (.int (0 : Int32))] (.int (0 : Int32)) := Vq6
  have O6 := O2.keep Kq6 (allS g_b2 all0)
  have K6 := K2.trans Kq6 (allS (Or.inr sz_b2) all0)
  refine own_by st6 ?_
  show own_Go p e below s _ _ (T6.setTop (mkF m 31 #[.val (.ref ma), .val (.int (6 : Int32)), .val (.ref b2)] []))
  refine own_by (fun tz kz => XS.aloadN X6.here hx rfl (hb hby d3_31) rfl rfl kz) ?_
  show own_Go p e below s _ _ (T6.setTop (mkF m 32 #[.val (.ref ma), .val (.int (6 : Int32)), .val (.ref b2)] [(.ref b2)]))
  refine own_retA X6 hx hlk (t := (.array .byte)) hret rfl rfl (hb hby d3_32) ?_ (by decide) (by decide)
  exact ⟨b2, k2, rfl, N6, g_b2, sz_b2, by rw [e6]; exact K6, by rw [e6]; exact Vr6⟩
def Q_rm_get0 (Z : State) (a ma : Addr) (km : ClassId) (h0 : Heap) (n0 : Nat) (v : Option Value) (h : Heap) (L : List Loc) : Prop := ∃ b kb, v = some (.ref b) ∧ Fr n0 L ∧ n0 ≤ b ∧ h0.size ≤ b ∧ Keep h0 h [] ∧ Arv Z h b kb .byte (6 : Int32) [(.int (12 : Int32)), (.int (117 : Int32)), (.int (13 : Int32)), (.int (5 : Int32)), (.int (14 : Int32)), (.int (5 : Int32))] (.int (0 : Int32))
set_option maxRecDepth 65536 in
set_option maxHeartbeats 40000000 in
theorem rm_get0 (l : Launch) (Z : State) (a0 : Array Value) (hw : ∀ d ∈ tables_1, d.before a0 Z = true) (ws : List Jvm.Cond) (a ma : Addr) (km : ClassId) (h0 : Heap) (n0 : Nat) (O0 : Old Z n0 h0) (V_m : Arv Z Z.heap ma km .byte (5 : Int32) [(.int (12 : Int32)), (.int (117 : Int32)), (.int (13 : Int32)), (.int (5 : Int32)), (.int (14 : Int32))] (.int (0 : Int32))) (F_m : Fld Z Z.heap a "com/example/weft/weft/formats/FileFormat" "magic" "[B" (.ref ma)) (F_v : Fld Z Z.heap a "com/example/weft/weft/formats/FileFormat" "version" "I" (.int (5 : Int32))) (E_a : Exa Z Z.heap a "com/example/weft/weft/formats/FileFormat") :
    MetFree l (⟨"com/example/weft/weft/formats/FileFormat", "getIdentifier", "()[B"⟩ : MethodName) (head1 (Jvm.Cond.code (⟨"com/example/weft/weft/formats/FileFormat", "getIdentifier", "()[B"⟩ : MethodName) prog_37_method_7_code 2 (some (.array .byte)) :: ws) ({ frames := 2, cells := 1, slots := 6, locals := 96 } : Room)) (fun ar U => ar = #[(.ref a)] ∧ Z.Warmed39 U.vm ∧ U.heap = h0) (fun _ _ _ _ _ => True) (fun _ U o U' => ∃ v L, o = .returned v ∧ Q_rm_get0 Z a ma km h0 n0 v U'.heap L ∧ FrameEnd U o U' L ({ frames := 2, cells := 1, slots := 6, locals := 96 } : Room).cells ({ frames := 2, cells := 1, slots := 6, locals := 96 } : Room).slots) := by
  refine own_enter (Q := (Q_rm_get0 Z a ma km h0 n0)) pl_1 ?_
  intro p e s m below meth c s₁ X0 hx hZ hby hml hown hnm hret hlk e0
  have N0 := Fr.nil n0
  refine own_by (fun tz kz => castTop (g' := (mkF m 0 #[.val (.ref a), .unset] [])) (by first | rfl | (simp [entryFrame, mkF, argsToLocals, Value.category]; done)) kz) ?_
  have K0 := Keep.refl h0 []
  show own_Go p e below s _ _ (s₁.setTop (mkF m 0 #[.val (.ref a), .unset] []))
  refine own_by (fun tz kz => XS.aloadN X0.here hx rfl (hb hby d1_0) rfl rfl kz) ?_
  show own_Go p e below s _ _ (s₁.setTop (mkF m 1 #[.val (.ref a), .unset] [(.ref a)]))
  obtain ⟨T1, X1, e1, st1⟩ := getF X0 hx hZ hown (host := "") (Or.inl (hw _ (List.mem_of_getElem? (i := 9) rfl))) Via.refl e0 (F_m.ext O0.2) (g := (mkF m 1 #[.val (.ref a), .unset] [(.ref a)])) rfl rfl (hb hby d1_1)
  refine own_by st1 ?_
  show own_Go p e below s _ _ (T1.setTop (mkF m 4 #[.val (.ref a), .unset] [(.ref ma)]))
  refine own_by (fun tz kz => XS.aloadN X1.here hx rfl (hb hby d1_4) rfl rfl kz) ?_
  show own_Go p e below s _ _ (T1.setTop (mkF m 5 #[.val (.ref a), .unset] [(.ref a), (.ref ma)]))
  obtain ⟨cq2, kq2, q2a, q2b, q2c⟩ := isOf hZ e1 (E_a.ext O0.2)
  obtain ⟨_, _, ⟨T2, L2, k2, n2⟩, -, X2, ⟨Lc2, hQ2, l2, y2, z2⟩, st2⟩ := X1.virtualBack hx (y := (⟨"com/example/weft/weft/formats/FileFormat", "getIdentifierSize", "()I"⟩ : MethodName)) (z := (⟨"com/example/weft/weft/formats/FileFormat", "getIdentifierSize", "()I"⟩ : MethodName)) hown (mvT hZ (hw _ (List.mem_of_getElem? (i := 11) rfl))) (mvT hZ (hw _ (List.mem_of_getElem? (i := 12) rfl))) (notFace_of_selects (args := #[]) (mvT hZ (hw _ (List.mem_of_getElem? (i := 14) rfl)))) (mvT hZ (hw _ (List.mem_of_getElem? (i := 14) rfl))) (mvT hZ (hw _ (List.mem_of_getElem? (i := 13) rfl))) (by decide) (backOf (W := 1) (rm_size0 l Z a0 hw [] a ma km h0 n0 O0 V_m F_m F_v) hZ (hw _ (List.mem_of_getElem? (i := 15) rfl)) (hw _ (List.mem_of_getElem? (i := 1) rfl)) (by decide) (by decide)) q2a q2c (g := (mkF m 5 #[.val (.ref a), .unset] [(.ref a), (.ref ma)])) rfl (by rw [hml]; rfl) (Steps.refl _) (argsL := []) (rest := [(.ref ma)]) (lenOf pd_1 rfl) rfl (by show 2 * 0 + _ ≤ _; exact Nat.le_of_eq rfl) (hb hby d1_5) (fun _ _ => ⟨rfl, e1, (by decide : 0 + 0 ≤ _), (by decide : 0 + 0 ≤ _)⟩)
  dsimp only [Pt.U, Pt.locs, Pt.cells, Pt.slots] at X2 l2 y2 z2 st2 hQ2
  rw [l2, y2, z2] at X2
  obtain ⟨rfl, Nq2, e2⟩ := hQ2
  have N2 := Fr.app N0 Nq2
  refine own_via st2 ?_
  show own_Go p e below s _ _ (T2.setTop (mkF m 8 #[.val (.ref a), .unset] [(.int (6 : Int32)), (.ref ma)]))
  obtain ⟨_, _, ⟨T3, L3, k3, n3⟩, -, X3, ⟨Lc3, hQ3, l3, y3, z3⟩, st3⟩ := Jvm.LawKit.callS X2 hx (y := (⟨"java/util/Arrays", "copyOf", "([BI)[B"⟩ : MethodName)) hown (mvT hZ (hw _ (List.mem_of_getElem? (i := 16) rfl))) (mvT hZ (hw _ (List.mem_of_getElem? (i := 17) rfl))) (mvT hZ (hw _ (List.mem_of_getElem? (i := 18) rfl))) (mvT hZ (hw _ (List.mem_of_getElem? (i := 19) rfl))) (by decide) (backOf (W := 0) (rm_copy0 l Z a0 hw [] ma km h0 n0 O0 V_m) hZ (hw _ (List.mem_of_getElem? (i := 19) rfl)) (hw _ (List.mem_of_getElem? (i := 18) rfl)) (by decide) (by decide)) (g := (mkF m 8 #[.val (.ref a), .unset] [(.int (6 : Int32)), (.ref ma)])) rfl (by rw [hml]; rfl) (argsL := [(.ref ma), (.int (6 : Int32))]) (rest := []) (lenOf pd_2 rfl) rfl (by show 2 * 0 + _ ≤ _; exact Nat.le_of_eq rfl) (hb hby d1_8) (fun _ _ => ⟨rfl, e2, (by decide : 0 + 1 ≤ _), (by decide : 0 + 6 ≤ _)⟩)
  dsimp only [Pt.U, Pt.locs, Pt.cells, Pt.slots] at X3 l3 y3 z3 st3 hQ3
  rw [l3, y3, z3] at X3
  obtain ⟨b3, k3', rfl, Nq3, g_b3, sz3, Kq3, Vq3⟩ := hQ3
  have N3 := Fr.app N2 Nq3
  have e3 : T3.heap = T3.heap := rfl
  refine own_by st3 ?_
  have O3 := O0.keep Kq3 all0
  have K3 := K0.trans Kq3 all0
  have ne_ma_b3 : ma ≠ b3 := Nat.ne_of_lt (Nat.lt_of_lt_of_le (Arv.lt (Arv.ext V_m O0.2)) sz3)
  have sz_b3 : h0.size ≤ b3 := Nat.le_trans K0.1 sz3
  show own_Go p e below s _ _ (T3.setTop (mkF m 11 #[.val (.ref a), .unset] [(.ref b3)]))
  refine own_by (fun tz kz => XS.astoreN X3.here hx rfl (hb hby d1_11) rfl rfl (l' := #[.val (.ref a), .val (.ref b3)]) rfl kz) ?_
  show own_Go p e below s _ _ (T3.setTop (mkF m 12 #[.val (.ref a), .val (.ref b3)] []))
  refine own_by (fun tz kz => XS.aloadN X3.here hx rfl (hb hby d1_12) rfl rfl kz) ?_
  show own_Go p e below s _ _ (T3.setTop (mkF m 13 #[.val (.ref a), .val (.ref b3)] [(.ref b3)]))
  refine own_by (fun tz kz => XS.aloadN X3.here hx rfl (hb hby d1_13) rfl rfl kz) ?_
  show own_Go p e below s _ _ (T3.setTop (mkF m 14 #[.val (.ref a), .val (.ref b3)] [(.ref a), (.ref b3)]))
  obtain ⟨T4, X4, e4, st4⟩ := getF X3 hx hZ hown (host := "") (Or.inl (hw _ (List.mem_of_getElem? (i := 9) rfl))) Via.refl e3 (F_m.ext O3.2) (g := (mkF m 14 #[.val (.ref a), .val (.ref b3)] [(.ref a), (.ref b3)])) rfl rfl (hb hby d1_14)
  refine own_by st4 ?_
  show own_Go p e below s _ _ (T4.setTop (mkF m 17 #[.val (.ref a), .val (.ref b3)] [(.ref ma), (.ref b3)]))
  have f6 := ((Arv.ext V_m O0.2).keep Kq3 nin0)
  obtain ⟨c5, Ar5, q5, S5, M5, Hh5, G5⟩ := id f6
  refine own_by (fun tz kz => X4.arraylength hx (by rw [e4]; exact Ar5.1) (State.isArrayOf_alike hZ.alike Ar5.2.1) (g := (mkF m 17 #[.val (.ref a), .val (.ref b3)] [(.ref ma), (.ref b3)])) rfl rfl (hb hby d1_17) _ kz) ?_
  rw [len_of S5 M5]
  show own_Go p e below s _ _ (T4.setTop (mkF m 18 #[.val (.ref a), .val (.ref b3)] [(.int (5 : Int32)), (.ref b3)]))
  refine own_by (fun tz kz => XS.aloadN X4.here hx rfl (hb hby d1_18) rfl rfl kz) ?_
  show own_Go p e below s _ _ (T4.setTop (mkF m 19 #[.val (.ref a), .val (.ref b3)] [(.ref a), (.int (5 : Int32)), (.ref b3)]))
  obtain ⟨T7, X7, e7, st7⟩ := getF X4 hx hZ hown (host := "") (Or.inl (hw _ (List.mem_of_getElem? (i := 28) rfl))) Via.refl e4 (F_v.ext O3.2) (g := (mkF m 19 #[.val (.ref a), .val (.ref b3)] [(.ref a), (.int (5 : Int32)), (.ref b3)])) rfl rfl (hb hby d1_19)
  refine own_by st7 ?_
  show own_Go p e below s _ _ (T7.setTop (mkF m 22 #[.val (.ref a), .val (.ref b3)] [(.int (5 : Int32)), (.int (5 : Int32)), (.ref b3)]))
  refine own_by (fun tz kz => XS.i2b X7.here hx rfl (hb hby d1_22) rfl kz) ?_
  show own_Go p e below s _ _ (T7.setTop (mkF m 23 #[.val (.ref a), .val (.ref b3)] [(.int ((5 : Int32).toInt8.toInt32)), (.int (5 : Int32)), (.ref b3)]))
  obtain ⟨c8, Ar8, q8, S8, M8, Hh8, G8⟩ := id Vq3
  have hin8 : ¬ ((5 : Int32) < 0 ∨ c8.slots.size ≤ ((5 : Int32)).toNatClampNeg) := inb_of S8 ⟨by decide, by decide⟩
  obtain ⟨T8, h8, X8, e8, W8, st8⟩ := stB X7 hx hZ e7 Ar8 (j := (5 : Int32)) hin8 (g := (mkF m 23 #[.val (.ref a), .val (.ref b3)] [(.int ((5 : Int32).toInt8.toInt32)), (.int (5 : Int32)), (.ref b3)])) rfl rfl (hb hby d1_23)
  have V8 : Arv Z h8 b3 k3' .byte (6 : Int32) [(.int (12 : Int32)), (.int (117 : Int32)), (.int (13 : Int32)), (.int (5 : Int32)), (.int (14 : Int32)), (.int (5 : Int32))] (.int (0 : Int32)) := Arv.set Ar8 q8 S8 M8 Hh8 G8 rfl W8 5 (by decide) (Nat.le_of_ble_eq_true rfl)
  have O8 := O3.wr W8 g_b3
  have N8 := Fr.snoc X8 N3 g_b3
  have K8 := K3.wr W8 (Or.inr sz_b3)
  refine own_by st8 ?_
  show own_Go p e below s _ _ (T8.setTop (mkF m 24 #[.val (.ref a), .val (.ref b3)] []))
  refine own_by (fun tz kz => XS.aloadN X8.here hx rfl (hb hby d1_24) rfl rfl kz) ?_
  show own_Go p e below s _ _ (T8.setTop (mkF m 25 #[.val (.ref a), .val (.ref b3)] [(.ref b3)]))
  refine own_retA X8 hx hlk (t := (.array .byte)) hret rfl rfl (hb hby d1_25) ?_ (by decide) (by decide)
  exact ⟨b3, k3', rfl, N8, g_b3, sz_b3, by rw [e8]; exact K8, by rw [e8]; exact V8⟩
def Q_rm_size1 (Z : State) (a ma : Addr) (km : ClassId) (h0 : Heap) (n0 : Nat) (v : Option Value) (h : Heap) (L : List Loc) : Prop := v = some (.int (8 : Int32)) ∧ Fr n0 L ∧ h = h0
set_option maxRecDepth 65536 in
set_option maxHeartbeats 40000000 in
theorem rm_size1 (l : Launch) (Z : State) (a0 : Array Value) (hw : ∀ d ∈ tables_1, d.before a0 Z = true) (ws : List Jvm.Cond) (a ma : Addr) (km : ClassId) (h0 : Heap) (n0 : Nat) (O0 : Old Z n0 h0) (V_m : Arv Z Z.heap ma km .byte (7 : Int32) [(.int (97 : Int32)), (.int (98 : Int32)), (.int (99 : Int32)), (.int (114 : Int32)), (.int (121 : Int32)), (.int (112 : Int32)), (.int (116 : Int32))] (.int (0 : Int32))) (F_m : Fld Z Z.heap a "com/example/weft/weft/formats/FileFormat" "magic" "[B" (.ref ma)) (F_v : Fld Z Z.heap a "com/example/weft/weft/formats/FileFormat" "version" "I" (.int (1 : Int32))) :
    MetFree l (⟨"com/example/weft/weft/formats/FileFormat", "getIdentifierSize", "()I"⟩ : MethodName) (head1 (Jvm.Cond.code (⟨"com/example/weft/weft/formats/FileFormat", "getIdentifierSize", "()I"⟩ : MethodName) prog_37_method_9_code 1 (some .int) :: ws) ({ frames := 0, cells := 0, slots := 0, locals := 0 } : Room)) (fun ar U => ar = #[(.ref a)] ∧ Z.Warmed39 U.vm ∧ U.heap = h0) (fun _ _ _ _ _ => True) (fun _ U o U' => ∃ v L, o = .returned v ∧ Q_rm_size1 Z a ma km h0 n0 v U'.heap L ∧ FrameEnd U o U' L ({ frames := 0, cells := 0, slots := 0, locals := 0 } : Room).cells ({ frames := 0, cells := 0, slots := 0, locals := 0 } : Room).slots) := by
  refine own_enter (Q := (Q_rm_size1 Z a ma km h0 n0)) pl_2 ?_
  intro p e s m below meth c s₁ X0 hx hZ hby hml hown hnm hret hlk e0
  have N0 := Fr.nil n0
  refine own_by (fun tz kz => castTop (g' := (mkF m 0 #[.val (.ref a)] [])) (by first | rfl | (simp [entryFrame, mkF, argsToLocals, Value.category]; done)) kz) ?_
  show own_Go p e below s _ _ (s₁.setTop (mkF m 0 #[.val (.ref a)] []))
  refine own_by (fun tz kz => XS.aloadN X0.here hx rfl (hb hby d2_0) rfl rfl kz) ?_
  show own_Go p e below s _ _ (s₁.setTop (mkF m 1 #[.val (.ref a)] [(.ref a)]))
  obtain ⟨T1, X1, e1, st1⟩ := getF X0 hx hZ hown (host := "") (Or.inl (hw _ (List.mem_of_getElem? (i := 9) rfl))) Via.refl e0 (F_m.ext O0.2) (g := (mkF m 1 #[.val (.ref a)] [(.ref a)])) rfl rfl (hb hby d2_1)
  refine own_by st1 ?_
  show own_Go p e below s _ _ (T1.setTop (mkF m 4 #[.val (.ref a)] [(.ref ma)]))
  obtain ⟨c2, Ar2, q2, S2, M2, Hh2, G2⟩ := id (Arv.ext V_m O0.2)
  refine own_by (fun tz kz => X1.arraylength hx (by rw [e1]; exact Ar2.1) (State.isArrayOf_alike hZ.alike Ar2.2.1) (g := (mkF m 4 #[.val (.ref a)] [(.ref ma)])) rfl rfl (hb hby d2_4) _ kz) ?_
  rw [len_of S2 M2]
  show own_Go p e below s _ _ (T1.setTop (mkF m 5 #[.val (.ref a)] [(.int (7 : Int32))]))
  refine own_by (fun tz kz => XS.iconst X1.here hx rfl (hb hby d2_5) kz) ?_
  show own_Go p e below s _ _ (T1.setTop (mkF m 6 #[.val (.ref a)] [(.int (1 : Int32)), (.int (7 : Int32))]))
  refine own_by (fun tz kz => XS.iadd X1.here hx rfl (hb hby d2_6) rfl kz) ?_
  show own_Go p e below s _ _ (T1.setTop (mkF m 7 #[.val (.ref a)] [(.int ((7 : Int32) + (1 : Int32)))]))
  refine own_retI X1 hx hlk (t := .int) hret (by simp) rfl (hb hby d2_7) ?_ (by decide) (by decide)
  exact ⟨congrArg (fun z => some (Value.int z)) (by decide), N0, e1⟩
def Q_rm_copy1 (Z : State) (ma : Addr) (km : ClassId) (h0 : Heap) (n0 : Nat) (v : Option Value) (h : Heap) (L : List Loc) : Prop := ∃ b kb, v = some (.ref b) ∧ Fr n0 L ∧ n0 ≤ b ∧ h0.size ≤ b ∧ Keep h0 h [] ∧ Arv Z h b kb .byte (8 : Int32) [(.int (97 : Int32)), (.int (98 : Int32)), (.int (99 : Int32)), (.int (114 : Int32)), (.int (121 : Int32)), (.int (112 : Int32)), (.int (116 : Int32)), (.int (0 : Int32))] (.int (0 : Int32))
set_option maxRecDepth 65536 in
set_option maxHeartbeats 40000000 in
theorem rm_copy1 (l : Launch) (Z : State) (a0 : Array Value) (hw : ∀ d ∈ tables_1, d.before a0 Z = true) (ws : List Jvm.Cond) (ma : Addr) (km : ClassId) (h0 : Heap) (n0 : Nat) (O0 : Old Z n0 h0) (V_m : Arv Z Z.heap ma km .byte (7 : Int32) [(.int (97 : Int32)), (.int (98 : Int32)), (.int (99 : Int32)), (.int (114 : Int32)), (.int (121 : Int32)), (.int (112 : Int32)), (.int (116 : Int32))] (.int (0 : Int32))) :
    MetFree l (⟨"java/util/Arrays", "copyOf", "([BI)[B"⟩ : MethodName) (head1 (Jvm.Cond.code (⟨"java/util/Arrays", "copyOf", "([BI)[B"⟩ : MethodName) jdk_65_method_121_code 3 (some (.array .byte)) :: ws) ({ frames := 1, cells := 1, slots := 8, locals := 64 } : Room)) (fun ar U => ar = #[(.ref ma), (.int (8 : Int32))] ∧ Z.Warmed39 U.vm ∧ U.heap = h0) (fun _ _ _ _ _ => True) (fun _ U o U' => ∃ v L, o = .returned v ∧ Q_rm_copy1 Z ma km h0 n0 v U'.heap L ∧ FrameEnd U o U' L ({ frames := 1, cells := 1, slots := 8, locals := 64 } : Room).cells ({ frames := 1, cells := 1, slots := 8, locals := 64 } : Room).slots) := by
  refine own_enter (Q := (Q_rm_copy1 Z ma km h0 n0)) pl_3 ?_
  intro p e s m below meth c s₁ X0 hx hZ hby hml hown hnm hret hlk e0
  have N0 := Fr.nil n0
  refine own_by (fun tz kz => castTop (g' := (mkF m 0 #[.val (.ref ma), .val (.int (8 : Int32)), .unset] [])) (by first | rfl | (simp [entryFrame, mkF, argsToLocals, Value.category]; done)) kz) ?_
  have K0 := Keep.refl h0 []
  show own_Go p e below s _ _ (s₁.setTop (mkF m 0 #[.val (.ref ma), .val (.int (8 : Int32)), .unset] []))
  refine own_by (fun tz kz => XS.iloadN X0.here hx rfl (hb hby d3_0) rfl  kz) ?_
  show own_Go p e below s _ _ (s₁.setTop (mkF m 1 #[.val (.ref ma), .val (.int (8 : Int32)), .unset] [(.int (8 : Int32))]))
  refine own_by (fun tz kz => XS.aloadN X0.here hx rfl (hb hby d3_1) rfl rfl kz) ?_
  show own_Go p e below s _ _ (s₁.setTop (mkF m 2 #[.val (.ref ma), .val (.int (8 : Int32)), .unset] [(.ref ma), (.int (8 : Int32))]))
  obtain ⟨c1, Ar1, q1, S1, M1, Hh1, G1⟩ := id (Arv.ext V_m O0.2)
  refine own_by (fun tz kz => X0.arraylength hx (by rw [e0]; exact Ar1.1) (State.isArrayOf_alike hZ.alike Ar1.2.1) (g := (mkF m 2 #[.val (.ref ma), .val (.int (8 : Int32)), .unset] [(.ref ma), (.int (8 : Int32))])) rfl rfl (hb hby d3_2) _ kz) ?_
  rw [len_of S1 M1]
  show own_Go p e below s _ _ (s₁.setTop (mkF m 3 #[.val (.ref ma), .val (.int (8 : Int32)), .unset] [(.int (7 : Int32)), (.int (8 : Int32))]))
  refine own_by (fun tz kz => XS.icmpYes X0.here hx rfl (pc0 := 3) (pc' := 14) rfl (hb hby d3_3) rfl (feq (by decide : ¬ (8 : Int32) = (7 : Int32))).2 (by decide) (by decide) kz) ?_
  show own_Go p e below s _ _ (s₁.setTop (mkF m 14 #[.val (.ref ma), .val (.int (8 : Int32)), .unset] []))
  refine own_by (fun tz kz => XS.iloadN X0.here hx rfl (hb hby d3_14) rfl  kz) ?_
  show own_Go p e below s _ _ (s₁.setTop (mkF m 15 #[.val (.ref ma), .val (.int (8 : Int32)), .unset] [(.int (8 : Int32))]))
  obtain ⟨T2, h2, k2, X2, e2, E2, A2, st2⟩ := newP X0 hx hZ (hw _ (List.mem_of_getElem? (i := 3) rfl)) e0 (g := (mkF m 15 #[.val (.ref ma), .val (.int (8 : Int32)), .unset] [(.int (8 : Int32))])) rfl (hb hby d3_15) rfl (by decide) (cap := 8) (by decide) (by decide) (by decide) (by decide)
  obtain ⟨b2, g2⟩ : ∃ z, z = h0.size := ⟨_, rfl⟩
  have ne_ma_b2 : ma ≠ b2 := by rw [g2]; exact Nat.ne_of_lt (Arv.lt (Arv.ext V_m O0.2))
  rw [← g2] at A2 st2
  have g_b2 : n0 ≤ b2 := by rw [g2]; exact O0.1 ▸ O0.2.1
  have sz_b2 : h0.size ≤ b2 := by rw [g2]; exact K0.1
  have O2 := O0.ext E2
  have K2 := K0.ext E2
  refine own_by st2 ?_
  have V2 : Arv Z h2 b2 k2 .byte (8 : Int32) [(.int (0 : Int32)), (.int (0 : Int32)), (.int (0 : Int32)), (.int (0 : Int32)), (.int (0 : Int32)), (.int (0 : Int32)), (.int (0 : Int32)), (.int (0 : Int32))] (.int (0 : Int32)) := (Arv.new A2 (by decide)).pad (pad_rep [] (.int (0 : Int32)) 8)
  show own_Go p e below s _ _ (T2.setTop (mkF m 17 #[.val (.ref ma), .val (.int (8 : Int32)), .unset] [(.ref b2)]))
  refine own_by (fun tz kz => XS.astoreN X2.here hx rfl (hb hby d3_17) rfl rfl (l' := #[.val (.ref ma), .val (.int (8 : Int32)), .val (.ref b2)]) rfl kz) ?_
  show own_Go p e below s _ _ (T2.setTop (mkF m 18 #[.val (.ref ma), .val (.int (8 : Int32)), .val (.ref b2)] []))
  refine own_by (fun tz kz => XS.aloadN X2.here hx rfl (hb hby d3_18) rfl rfl kz) ?_
  show own_Go p e below s _ _ (T2.setTop (mkF m 19 #[.val (.ref ma), .val (.int (8 : Int32)), .val (.ref b2)] [(.ref ma)]))
  refine own_by (fun tz kz => XS.iconst X2.here hx rfl (hb hby d3_19) kz) ?_
  show own_Go p e below s _ _ (T2.setTop (mkF m 20 #[.val (.ref ma), .val (.int (8 : Int32)), .val (.ref b2)] [(.int (0 : Int32)), (.ref ma)]))
  refine own_by (fun tz kz => XS.aloadN X2.here hx rfl (hb hby d3_20) rfl rfl kz) ?_
  show own_Go p e below s _ _ (T2.setTop (mkF m 21 #[.val (.ref ma), .val (.int (8 : Int32)), .val (.ref b2)] [(.ref b2), (.int (0 : Int32)), (.ref ma)]))
  refine own_by (fun tz kz => XS.iconst X2.here hx rfl (hb hby d3_21) kz) ?_
  show own_Go p e below s _ _ (T2.setTop (mkF m 22 #[.val (.ref ma), .val (.int (8 : Int32)), .val (.ref b2)] [(.int (0 : Int32)), (.ref b2), (.int (0 : Int32)), (.ref ma)]))
  refine own_by (fun tz kz => XS.aloadN X2.here hx rfl (hb hby d3_22) rfl rfl kz) ?_
  show own_Go p e below s _ _ (T2.setTop (mkF m 23 #[.val (.ref ma), .val (.int (8 : Int32)), .val (.ref b2)] [(.ref ma), (.int (0 : Int32)), (.ref b2), (.int (0 : Int32)), (.ref ma)]))
  have f4 := (Arv.ext (Arv.ext V_m O0.2) E2)
  obtain ⟨c3, Ar3, q3, S3, M3, Hh3, G3⟩ := id f4
  refine own_by (fun tz kz => X2.arraylength hx (by rw [e2]; exact Ar3.1) (State.isArrayOf_alike hZ.alike Ar3.2.1) (g := (mkF m 23 #[.val (.ref ma), .val (.int (8 : Int32)), .val (.ref b2)] [(.ref ma), (.int (0 : Int32)), (.ref b2), (.int (0 : Int32)), (.ref ma)])) rfl rfl (hb hby d3_23) _ kz) ?_
  rw [len_of S3 M3]
  show own_Go p e below s _ _ (T2.setTop (mkF m 24 #[.val (.ref ma), .val (.int (8 : Int32)), .val (.ref b2)] [(.int (7 : Int32)), (.int (0 : Int32)), (.ref b2), (.int (0 : Int32)), (.ref ma)]))
  refine own_by (fun tz kz => XS.iloadN X2.here hx rfl (hb hby d3_24) rfl  kz) ?_
  show own_Go p e below s _ _ (T2.setTop (mkF m 25 #[.val (.ref ma), .val (.int (8 : Int32)), .val (.ref b2)] [(.int (8 : Int32)), (.int (7 : Int32)), (.int (0 : Int32)), (.ref b2), (.int (0 : Int32)), (.ref ma)]))
  obtain ⟨_, _, ⟨T5, L5, k5, n5⟩, -, X5, ⟨Lc5, hQ5, l5, y5, z5⟩, st5⟩ := Jvm.LawKit.callS X2 hx (y := (⟨"java/lang/Math", "min", "(II)I"⟩ : MethodName)) hown (mvT hZ (hw _ (List.mem_of_getElem? (i := 20) rfl))) (mvT hZ (hw _ (List.mem_of_getElem? (i := 21) rfl))) (mvT hZ (hw _ (List.mem_of_getElem? (i := 22) rfl))) (mvT hZ (hw _ (List.mem_of_getElem? (i := 23) rfl))) (by decide) (backOf (W := 4) (rm_min l Z a0 hw [] (7 : Int32) (8 : Int32) (7 : Int32) h2 n0 (by decide)) hZ (hw _ (List.mem_of_getElem? (i := 23) rfl)) (hw _ (List.mem_of_getElem? (i := 22) rfl)) (by decide) (by decide)) (g := (mkF m 25 #[.val (.ref ma), .val (.int (8 : Int32)), .val (.ref b2)] [(.int (8 : Int32)), (.int (7 : Int32)), (.int (0 : Int32)), (.ref b2), (.int (0 : Int32)), (.ref ma)])) rfl (by rw [hml]; rfl) (argsL := [(.int (7 : Int32)), (.int (8 : Int32))]) (rest := [(.int (0 : Int32)), (.ref b2), (.int (0 : Int32)), (.ref ma)]) (lenOf pd_3 rfl) rfl (by show 2 * 0 + _ ≤ _; exact Nat.le_of_eq rfl) (hb hby d3_25) (fun _ _ => ⟨rfl, e2, (by decide : 1 + 0 ≤ _), (by decide : 8 + 0 ≤ _)⟩)
  dsimp only [Pt.U, Pt.locs, Pt.cells, Pt.slots] at X5 l5 y5 z5 st5 hQ5
  rw [l5, y5, z5] at X5
  obtain ⟨rfl, Nq5, e5⟩ := hQ5
  have N5 := Fr.app N0 Nq5
  refine own_by st5 ?_
  show own_Go p e below s _ _ (T5.setTop (mkF m 28 #[.val (.ref ma), .val (.int (8 : Int32)), .val (.ref b2)] [(.int (7 : Int32)), (.int (0 : Int32)), (.ref b2), (.int (0 : Int32)), (.ref ma)]))
  obtain ⟨T6, h6, L6, X6, e6, N6, Kq6, Vq6, st6⟩ := cpA X5 hx hZ hown (hw _ (List.mem_of_getElem? (i := 24) rfl)) (hw _ (List.mem_of_getElem? (i := 27) rfl)) (hw _ (List.mem_of_getElem? (i := 25) rfl)) (hw _ (List.mem_of_getElem? (i := 26) rfl)) e5 f4 V2 (us := [(.int (97 : Int32)), (.int (98 : Int32)), (.int (99 : Int32)), (.int (114 : Int32)), (.int (121 : Int32)), (.int (112 : Int32)), (.int (116 : Int32))]) (Or.inl ⟨rfl, rfl⟩) (by decide) (by decide) (by decide) (by decide) (by decide) rfl (by decide) N5 g_b2 (g := (mkF m 28 #[.val (.ref ma), .val (.int (8 : Int32)), .val (.ref b2)] [(.int (7 : Int32)), (.int (0 : Int32)), (.ref b2), (.int (0 : Int32)), (.ref ma)])) rfl (by rw [hml]; rfl) rfl (hb hby d3_28) (by decide) (W := 0) (by show 2 * 0 + _ ≤ _; exact Nat.le_of_eq rfl) (by decide)
  have Vr6 : Arv Z h6 b2 k2 .byte (8 : Int32) [(.int (97 : Int32)), (.int (98 : Int32)), (.int (99 : Int32)), (.int (114 : Int32)), (.int (121 : Int32)), (.int (112 : Int32)), (.int (116 : Int32)), (.int (0 : Int32))] (.int (0 : Int32)) := Vq6
  have O6 := O2.keep Kq6 (allS g_b2 all0)
  have K6 := K2.trans Kq6 (allS (Or.inr sz_b2) all0)
  refine own_by st6 ?_
  show own_Go p e below s _ _ (T6.setTop (mkF m 31 #[.val (.ref ma), .val (.int (8 : Int32)), .val (.ref b2)] []))
  refine own_by (fun tz kz => XS.aloadN X6.here hx rfl (hb hby d3_31) rfl rfl kz) ?_
  show own_Go p e below s _ _ (T6.setTop (mkF m 32 #[.val (.ref ma), .val (.int (8 : Int32)), .val (.ref b2)] [(.ref b2)]))
  refine own_retA X6 hx hlk (t := (.array .byte)) hret rfl rfl (hb hby d3_32) ?_ (by decide) (by decide)
  exact ⟨b2, k2, rfl, N6, g_b2, sz_b2, by rw [e6]; exact K6, by rw [e6]; exact Vr6⟩
def Q_rm_get1 (Z : State) (a ma : Addr) (km : ClassId) (h0 : Heap) (n0 : Nat) (v : Option Value) (h : Heap) (L : List Loc) : Prop := ∃ b kb, v = some (.ref b) ∧ Fr n0 L ∧ n0 ≤ b ∧ h0.size ≤ b ∧ Keep h0 h [] ∧ Arv Z h b kb .byte (8 : Int32) [(.int (97 : Int32)), (.int (98 : Int32)), (.int (99 : Int32)), (.int (114 : Int32)), (.int (121 : Int32)), (.int (112 : Int32)), (.int (116 : Int32)), (.int (1 : Int32))] (.int (0 : Int32))
set_option maxRecDepth 65536 in
set_option maxHeartbeats 40000000 in
theorem rm_get1 (l : Launch) (Z : State) (a0 : Array Value) (hw : ∀ d ∈ tables_1, d.before a0 Z = true) (ws : List Jvm.Cond) (a ma : Addr) (km : ClassId) (h0 : Heap) (n0 : Nat) (O0 : Old Z n0 h0) (V_m : Arv Z Z.heap ma km .byte (7 : Int32) [(.int (97 : Int32)), (.int (98 : Int32)), (.int (99 : Int32)), (.int (114 : Int32)), (.int (121 : Int32)), (.int (112 : Int32)), (.int (116 : Int32))] (.int (0 : Int32))) (F_m : Fld Z Z.heap a "com/example/weft/weft/formats/FileFormat" "magic" "[B" (.ref ma)) (F_v : Fld Z Z.heap a "com/example/weft/weft/formats/FileFormat" "version" "I" (.int (1 : Int32))) (E_a : Exa Z Z.heap a "com/example/weft/weft/formats/FileFormat") :
    MetFree l (⟨"com/example/weft/weft/formats/FileFormat", "getIdentifier", "()[B"⟩ : MethodName) (head1 (Jvm.Cond.code (⟨"com/example/weft/weft/formats/FileFormat", "getIdentifier", "()[B"⟩ : MethodName) prog_37_method_7_code 2 (some (.array .byte)) :: ws) ({ frames := 2, cells := 1, slots := 8, locals := 96 } : Room)) (fun ar U => ar = #[(.ref a)] ∧ Z.Warmed39 U.vm ∧ U.heap = h0) (fun _ _ _ _ _ => True) (fun _ U o U' => ∃ v L, o = .returned v ∧ Q_rm_get1 Z a ma km h0 n0 v U'.heap L ∧ FrameEnd U o U' L ({ frames := 2, cells := 1, slots := 8, locals := 96 } : Room).cells ({ frames := 2, cells := 1, slots := 8, locals := 96 } : Room).slots) := by
  refine own_enter (Q := (Q_rm_get1 Z a ma km h0 n0)) pl_1 ?_
  intro p e s m below meth c s₁ X0 hx hZ hby hml hown hnm hret hlk e0
  have N0 := Fr.nil n0
  refine own_by (fun tz kz => castTop (g' := (mkF m 0 #[.val (.ref a), .unset] [])) (by first | rfl | (simp [entryFrame, mkF, argsToLocals, Value.category]; done)) kz) ?_
  have K0 := Keep.refl h0 []
  show own_Go p e below s _ _ (s₁.setTop (mkF m 0 #[.val (.ref a), .unset] []))
  refine own_by (fun tz kz => XS.aloadN X0.here hx rfl (hb hby d1_0) rfl rfl kz) ?_
  show own_Go p e below s _ _ (s₁.setTop (mkF m 1 #[.val (.ref a), .unset] [(.ref a)]))
  obtain ⟨T1, X1, e1, st1⟩ := getF X0 hx hZ hown (host := "") (Or.inl (hw _ (List.mem_of_getElem? (i := 9) rfl))) Via.refl e0 (F_m.ext O0.2) (g := (mkF m 1 #[.val (.ref a), .unset] [(.ref a)])) rfl rfl (hb hby d1_1)
  refine own_by st1 ?_
  show own_Go p e below s _ _ (T1.setTop (mkF m 4 #[.val (.ref a), .unset] [(.ref ma)]))
  refine own_by (fun tz kz => XS.aloadN X1.here hx rfl (hb hby d1_4) rfl rfl kz) ?_
  show own_Go p e below s _ _ (T1.setTop (mkF m 5 #[.val (.ref a), .unset] [(.ref a), (.ref ma)]))
  obtain ⟨cq2, kq2, q2a, q2b, q2c⟩ := isOf hZ e1 (E_a.ext O0.2)
  obtain ⟨_, _, ⟨T2, L2, k2, n2⟩, -, X2, ⟨Lc2, hQ2, l2, y2, z2⟩, st2⟩ := X1.virtualBack hx (y := (⟨"com/example/weft/weft/formats/FileFormat", "getIdentifierSize", "()I"⟩ : MethodName)) (z := (⟨"com/example/weft/weft/formats/FileFormat", "getIdentifierSize", "()I"⟩ : MethodName)) hown (mvT hZ (hw _ (List.mem_of_getElem? (i := 11) rfl))) (mvT hZ (hw _ (List.mem_of_getElem? (i := 12) rfl))) (notFace_of_selects (args := #[]) (mvT hZ (hw _ (List.mem_of_getElem? (i := 14) rfl)))) (mvT hZ (hw _ (List.mem_of_getElem? (i := 14) rfl))) (mvT hZ (hw _ (List.mem_of_getElem? (i := 13) rfl))) (by decide) (backOf (W := 1) (rm_size1 l Z a0 hw [] a ma km h0 n0 O0 V_m F_m F_v) hZ (hw _ (List.mem_of_getElem? (i := 15) rfl)) (hw _ (List.mem_of_getElem? (i := 1) rfl)) (by decide) (by decide)) q2a q2c (g := (mkF m 5 #[.val (.ref a), .unset] [(.ref a), (.ref ma)])) rfl (by rw [hml]; rfl) (Steps.refl _) (argsL := []) (rest := [(.ref ma)]) (lenOf pd_1 rfl) rfl (by show 2 * 0 + _ ≤ _; exact Nat.le_of_eq rfl) (hb hby d1_5) (fun _ _ => ⟨rfl, e1, (by decide : 0 + 0 ≤ _), (by decide : 0 + 0 ≤ _)⟩)
  dsimp only [Pt.U, Pt.locs, Pt.cells, Pt.slots] at X2 l2 y2 z2 st2 hQ2
  rw [l2, y2, z2] at X2
  obtain ⟨rfl, Nq2, e2⟩ := hQ2
  have N2 := Fr.app N0 Nq2
  refine own_via st2 ?_
  show own_Go p e below s _ _ (T2.setTop (mkF m 8 #[.val (.ref a), .unset] [(.int (8 : Int32)), (.ref ma)]))
  obtain ⟨_, _, ⟨T3, L3, k3, n3⟩, -, X3, ⟨Lc3, hQ3, l3, y3, z3⟩, st3⟩ := Jvm.LawKit.callS X2 hx (y := (⟨"java/util/Arrays", "copyOf", "([BI)[B"⟩ : MethodName)) hown (mvT hZ (hw _ (List.mem_of_getElem? (i := 16) rfl))) (mvT hZ (hw _ (List.mem_of_getElem? (i := 17) rfl))) (mvT hZ (hw _ (List.mem_of_getElem? (i := 18) rfl))) (mvT hZ (hw _ (List.mem_of_getElem? (i := 19) rfl))) (by decide) (backOf (W := 0) (rm_copy1 l Z a0 hw [] ma km h0 n0 O0 V_m) hZ (hw _ (List.mem_of_getElem? (i := 19) rfl)) (hw _ (List.mem_of_getElem? (i := 18) rfl)) (by decide) (by decide)) (g := (mkF m 8 #[.val (.ref a), .unset] [(.int (8 : Int32)), (.ref ma)])) rfl (by rw [hml]; rfl) (argsL := [(.ref ma), (.int (8 : Int32))]) (rest := []) (lenOf pd_2 rfl) rfl (by show 2 * 0 + _ ≤ _; exact Nat.le_of_eq rfl) (hb hby d1_8) (fun _ _ => ⟨rfl, e2, (by decide : 0 + 1 ≤ _), (by decide : 0 + 8 ≤ _)⟩)
  dsimp only [Pt.U, Pt.locs, Pt.cells, Pt.slots] at X3 l3 y3 z3 st3 hQ3
  rw [l3, y3, z3] at X3
  obtain ⟨b3, k3', rfl, Nq3, g_b3, sz3, Kq3, Vq3⟩ := hQ3
  have N3 := Fr.app N2 Nq3
  have e3 : T3.heap = T3.heap := rfl
  refine own_by st3 ?_
  have O3 := O0.keep Kq3 all0
  have K3 := K0.trans Kq3 all0
  have ne_ma_b3 : ma ≠ b3 := Nat.ne_of_lt (Nat.lt_of_lt_of_le (Arv.lt (Arv.ext V_m O0.2)) sz3)
  have sz_b3 : h0.size ≤ b3 := Nat.le_trans K0.1 sz3
  show own_Go p e below s _ _ (T3.setTop (mkF m 11 #[.val (.ref a), .unset] [(.ref b3)]))
  refine own_by (fun tz kz => XS.astoreN X3.here hx rfl (hb hby d1_11) rfl rfl (l' := #[.val (.ref a), .val (.ref b3)]) rfl kz) ?_
  show own_Go p e below s _ _ (T3.setTop (mkF m 12 #[.val (.ref a), .val (.ref b3)] []))
  refine own_by (fun tz kz => XS.aloadN X3.here hx rfl (hb hby d1_12) rfl rfl kz) ?_
  show own_Go p e below s _ _ (T3.setTop (mkF m 13 #[.val (.ref a), .val (.ref b3)] [(.ref b3)]))
  refine own_by (fun tz kz => XS.aloadN X3.here hx rfl (hb hby d1_13) rfl rfl kz) ?_
  show own_Go p e below s _ _ (T3.setTop (mkF m 14 #[.val (.ref a), .val (.ref b3)] [(.ref a), (.ref b3)]))
  obtain ⟨T4, X4, e4, st4⟩ := getF X3 hx hZ hown (host := "") (Or.inl (hw _ (List.mem_of_getElem? (i := 9) rfl))) Via.refl e3 (F_m.ext O3.2) (g := (mkF m 14 #[.val (.ref a), .val (.ref b3)] [(.ref a), (.ref b3)])) rfl rfl (hb hby d1_14)
  refine own_by st4 ?_
  show own_Go p e below s _ _ (T4.setTop (mkF m 17 #[.val (.ref a), .val (.ref b3)] [(.ref ma), (.ref b3)]))
  have f6 := ((Arv.ext V_m O0.2).keep Kq3 nin0)
  obtain ⟨c5, Ar5, q5, S5, M5, Hh5, G5⟩ := id f6
  refine own_by (fun tz kz => X4.arraylength hx (by rw [e4]; exact Ar5.1) (State.isArrayOf_alike hZ.alike Ar5.2.1) (g := (mkF m 17 #[.val (.ref a), .val (.ref b3)] [(.ref ma), (.ref b3)])) rfl rfl (hb hby d1_17) _ kz) ?_
  rw [len_of S5 M5]
  show own_Go p e below s _ _ (T4.setTop (mkF m 18 #[.val (.ref a), .val (.ref b3)] [(.int (7 : Int32)), (.ref b3)]))
  refine own_by (fun tz kz => XS.aloadN X4.here hx rfl (hb hby d1_18) rfl rfl kz) ?_
  show own_Go p e below s _ _ (T4.setTop (mkF m 19 #[.val (.ref a), .val (.ref b3)] [(.ref a), (.int (7 : Int32)), (.ref b3)]))
  obtain ⟨T7, X7, e7, st7⟩ := getF X4 hx hZ hown (host := "") (Or.inl (hw _ (List.mem_of_getElem? (i := 28) rfl))) Via.refl e4 (F_v.ext O3.2) (g := (mkF m 19 #[.val (.ref a), .val (.ref b3)] [(.ref a), (.int (7 : Int32)), (.ref b3)])) rfl rfl (hb hby d1_19)
  refine own_by st7 ?_
  show own_Go p e below s _ _ (T7.setTop (mkF m 22 #[.val (.ref a), .val (.ref b3)] [(.int (1 : Int32)), (.int (7 : Int32)), (.ref b3)]))
  refine own_by (fun tz kz => XS.i2b X7.here hx rfl (hb hby d1_22) rfl kz) ?_
  show own_Go p e below s _ _ (T7.setTop (mkF m 23 #[.val (.ref a), .val (.ref b3)] [(.int ((1 : Int32).toInt8.toInt32)), (.int (7 : Int32)), (.ref b3)]))
  obtain ⟨c8, Ar8, q8, S8, M8, Hh8, G8⟩ := id Vq3
  have hin8 : ¬ ((7 : Int32) < 0 ∨ c8.slots.size ≤ ((7 : Int32)).toNatClampNeg) := inb_of S8 ⟨by decide, by decide⟩
  obtain ⟨T8, h8, X8, e8, W8, st8⟩ := stB X7 hx hZ e7 Ar8 (j := (7 : Int32)) hin8 (g := (mkF m 23 #[.val (.ref a), .val (.ref b3)] [(.int ((1 : Int32).toInt8.toInt32)), (.int (7 : Int32)), (.ref b3)])) rfl rfl (hb hby d1_23)
  have V8 : Arv Z h8 b3 k3' .byte (8 : Int32) [(.int (97 : Int32)), (.int (98 : Int32)), (.int (99 : Int32)), (.int (114 : Int32)), (.int (121 : Int32)), (.int (112 : Int32)), (.int (116 : Int32)), (.int (1 : Int32))] (.int (0 : Int32)) := Arv.set Ar8 q8 S8 M8 Hh8 G8 rfl W8 7 (by decide) (Nat.le_of_ble_eq_true rfl)
  have O8 := O3.wr W8 g_b3
  have N8 := Fr.snoc X8 N3 g_b3
  have K8 := K3.wr W8 (Or.inr sz_b3)
  refine own_by st8 ?_
  show own_Go p e below s _ _ (T8.setTop (mkF m 24 #[.val (.ref a), .val (.ref b3)] []))
  refine own_by (fun tz kz => XS.aloadN X8.here hx rfl (hb hby d1_24) rfl rfl kz) ?_
  show own_Go p e below s _ _ (T8.setTop (mkF m 25 #[.val (.ref a), .val (.ref b3)] [(.ref b3)]))
  refine own_retA X8 hx hlk (t := (.array .byte)) hret rfl rfl (hb hby d1_25) ?_ (by decide) (by decide)
  exact ⟨b3, k3', rfl, N8, g_b3, sz_b3, by rw [e8]; exact K8, by rw [e8]; exact V8⟩
def Q_rm0 (Z : State) (p0 p1 p2 : Int32) (w0 w1 ma0 ma1 : Addr) (km0 km1 : ClassId) (h0 : Heap) (n0 : Nat) (v : Option Value) (h : Heap) (L : List Loc) : Prop := v = some (.int 1) ∧ Fr n0 L
set_option maxRecDepth 65536 in
set_option maxHeartbeats 40000000 in
theorem rm0 (l : Launch) (Z : State) (a0 : Array Value) (hw : ∀ d ∈ tables_1, d.before a0 Z = true) (ws : List Jvm.Cond) (p0 p1 p2 : Int32) (w0 w1 ma0 ma1 : Addr) (km0 km1 : ClassId) (h0 : Heap) (n0 : Nat) (O0 : Old Z n0 h0) (S_0 : Sta Z Z.heap "com/example/weft/weft/formats/FileFormat" "ALGEBRAICFILE" "Lcom/example/weft/weft/formats/FileFormat;" (.ref w0)) (E_0 : Exa Z Z.heap w0 "com/example/weft/weft/formats/FileFormat") (V_0 : Arv Z Z.heap ma0 km0 .byte (5 : Int32) [(.int (12 : Int32)), (.int (117 : Int32)), (.int (13 : Int32)), (.int (5 : Int32)), (.int (14 : Int32))] (.int (0 : Int32))) (F_m0 : Fld Z Z.heap w0 "com/example/weft/weft/formats/FileFormat" "magic" "[B" (.ref ma0)) (F_v0 : Fld Z Z.heap w0 "com/example/weft/weft/formats/FileFormat" "version" "I" (.int (5 : Int32))) (S_1 : Sta Z Z.heap "com/example/weft/weft/formats/FileFormat" "ABCRYPT" "Lcom/example/weft/weft/formats/FileFormat;" (.ref w1)) (E_1 : Exa Z Z.heap w1 "com/example/weft/weft/formats/FileFormat") (V_1 : Arv Z Z.heap ma1 km1 .byte (7 : Int32) [(.int (97 : Int32)), (.int (98 : Int32)), (.int (99 : Int32)), (.int (114 : Int32)), (.int (121 : Int32)), (.int (112 : Int32)), (.int (116 : Int32))] (.int (0 : Int32))) (F_m1 : Fld Z Z.heap w1 "com/example/weft/weft/formats/FileFormat" "magic" "[B" (.ref ma1)) (F_v1 : Fld Z Z.heap w1 "com/example/weft/weft/formats/FileFormat" "version" "I" (.int (1 : Int32))) :
    MetFree l x (head1 (Jvm.Cond.code x code maxLocals ret :: ws) room_1) (fun ar U => ar = #[(.int p0), (.int p1), (.int p2)] ∧ Z.Warmed39 U.vm ∧ U.heap = h0) (fun _ _ _ _ _ => True) (fun _ U o U' => ∃ v L, o = .returned v ∧ Q_rm0 Z p0 p1 p2 w0 w1 ma0 ma1 km0 km1 h0 n0 v U'.heap L ∧ FrameEnd U o U' L room_1.cells room_1.slots) := by
  refine own_enter (Q := (Q_rm0 Z p0 p1 p2 w0 w1 ma0 ma1 km0 km1 h0 n0)) pl_0 ?_
  intro p e s m below meth c s₁ X0 hx hZ hby hml hown hnm hret hlk e0
  have N0 := Fr.nil n0
  refine own_by (fun tz kz => castTop (g' := (mkF m 0 #[.val (.int p0), .val (.int p1), .val (.int p2), .unset, .unset, .unset, .unset, .unset, .unset, .unset] [])) (by first | rfl | (simp [entryFrame, mkF, argsToLocals, Value.category, maxLocals]; done)) kz) ?_
  have K0 := Keep.refl h0 []
  show own_Go p e below s _ _ (s₁.setTop (mkF m 0 #[.val (.int p0), .val (.int p1), .val (.int p2), .unset, .unset, .unset, .unset, .unset, .unset, .unset] []))
  refine own_by (fun tz kz => XS.iloadN X0.here hx rfl (hb hby at_0) rfl  kz) ?_
  show own_Go p e below s _ _ (s₁.setTop (mkF m 1 #[.val (.int p0), .val (.int p1), .val (.int p2), .unset, .unset, .unset, .unset, .unset, .unset, .unset] [(.int p0)]))
  refine own_by (fun tz kz => XS.iconst X0.here hx rfl (hb hby at_1) kz) ?_
  show own_Go p e below s _ _ (s₁.setTop (mkF m 2 #[.val (.int p0), .val (.int p1), .val (.int p2), .unset, .unset, .unset, .unset, .unset, .unset, .unset] [(.int (1 : Int32)), (.int p0)]))
  refine own_by (fun tz kz => XS.iand X0.here hx rfl (hb hby at_2) rfl kz) ?_
  show own_Go p e below s _ _ (s₁.setTop (mkF m 3 #[.val (.int p0), .val (.int p1), .val (.int p2), .unset, .unset, .unset, .unset, .unset, .unset, .unset] [(.int (p0 &&& (1 : Int32)))]))
  by_cases hc3_1 : (p0 &&& (1 : Int32)) = (0 : Int32)
  · refine own_by (fun tz kz => XS.ifNo X0.here hx rfl (hb hby at_3) rfl ((if0 _ _).trans (teq hc3_1).2) kz) ?_
    show own_Go p e below s _ _ (s₁.setTop (mkF m 6 #[.val (.int p0), .val (.int p1), .val (.int p2), .unset, .unset, .unset, .unset, .unset, .unset, .unset] []))
    refine own_by (fun tz kz => XS.iconst X0.here hx rfl (hb hby at_6) kz) ?_
    show own_Go p e below s _ _ (s₁.setTop (mkF m 7 #[.val (.int p0), .val (.int p1), .val (.int p2), .unset, .unset, .unset, .unset, .unset, .unset, .unset] [(.int (1 : Int32))]))
    refine own_by (fun tz kz => XS.goto X0.here hx rfl (pc0 := 7) (pc' := 11) rfl (hb hby at_7) (by decide) (by decide) kz) ?_
    show own_Go p e below s _ _ (s₁.setTop (mkF m 11 #[.val (.int p0), .val (.int p1), .val (.int p2), .unset, .unset, .unset, .unset, .unset, .unset, .unset] [(.int (1 : Int32))]))
    refine own_by (fun tz kz => XS.istoreN X0.here hx rfl (hb hby at_11) rfl (l' := #[.val (.int p0), .val (.int p1), .val (.int p2), .val (.int (1 : Int32)), .unset, .unset, .unset, .unset, .unset, .unset]) rfl kz) ?_
    show own_Go p e below s _ _ (s₁.setTop (mkF m 12 #[.val (.int p0), .val (.int p1), .val (.int p2), .val (.int (1 : Int32)), .unset, .unset, .unset, .unset, .unset, .unset] []))
    refine own_by (fun tz kz => XS.iloadN X0.here hx rfl (hb hby at_12) rfl  kz) ?_
    show own_Go p e below s _ _ (s₁.setTop (mkF m 13 #[.val (.int p0), .val (.int p1), .val (.int p2), .val (.int (1 : Int32)), .unset, .unset, .unset, .unset, .unset, .unset] [(.int (1 : Int32))]))
    refine own_by (fun tz kz => XS.ifNo X0.here hx rfl (hb hby at_13) rfl ((if0 _ _).trans (feq (by decide : ¬ (1 : Int32) = (0 : Int32))).1) kz) ?_
    show own_Go p e below s _ _ (s₁.setTop (mkF m 16 #[.val (.int p0), .val (.int p1), .val (.int p2), .val (.int (1 : Int32)), .unset, .unset, .unset, .unset, .unset, .unset] []))
    obtain ⟨T2, X2, e2, st2⟩ := getS2 X0 hx hZ hown (host := "") (Or.inl (hw _ (List.mem_of_getElem? (i := 0) rfl))) Via.refl e0 (S_0.ext O0.2) (g := (mkF m 16 #[.val (.int p0), .val (.int p1), .val (.int p2), .val (.int (1 : Int32)), .unset, .unset, .unset, .unset, .unset, .unset] [])) rfl (hb hby at_16)
    refine own_by st2 ?_
    show own_Go p e below s _ _ (T2.setTop (mkF m 19 #[.val (.int p0), .val (.int p1), .val (.int p2), .val (.int (1 : Int32)), .unset, .unset, .unset, .unset, .unset, .unset] [(.ref w0)]))
    refine own_by (fun tz kz => XS.goto X2.here hx rfl (pc0 := 19) (pc' := 25) rfl (hb hby at_19) (by decide) (by decide) kz) ?_
    show own_Go p e below s _ _ (T2.setTop (mkF m 25 #[.val (.int p0), .val (.int p1), .val (.int p2), .val (.int (1 : Int32)), .unset, .unset, .unset, .unset, .unset, .unset] [(.ref w0)]))
    refine own_by (fun tz kz => XS.astore X2.here hx rfl (hb hby at_25) rfl rfl (l' := #[.val (.int p0), .val (.int p1), .val (.int p2), .val (.int (1 : Int32)), .val (.ref w0), .unset, .unset, .unset, .unset, .unset]) rfl kz) ?_
    show own_Go p e below s _ _ (T2.setTop (mkF m 27 #[.val (.int p0), .val (.int p1), .val (.int p2), .val (.int (1 : Int32)), .val (.ref w0), .unset, .unset, .unset, .unset, .unset] []))
    refine own_by (fun tz kz => XS.iloadN X2.here hx rfl (hb hby at_27) rfl  kz) ?_
    show own_Go p e below s _ _ (T2.setTop (mkF m 28 #[.val (.int p0), .val (.int p1), .val (.int p2), .val (.int (1 : Int32)), .val (.ref w0), .unset, .unset, .unset, .unset, .unset] [(.int (1 : Int32))]))
    refine own_by (fun tz kz => XS.ifNo X2.here hx rfl (hb hby at_28) rfl ((if0 _ _).trans (feq (by decide : ¬ (1 : Int32) = (0 : Int32))).1) kz) ?_
    show own_Go p e below s _ _ (T2.setTop (mkF m 31 #[.val (.int p0), .val (.int p1), .val (.int p2), .val (.int (1 : Int32)), .val (.ref w0), .unset, .unset, .unset, .unset, .unset] []))
    refine own_by (fun tz kz => XS.bipush X2.here hx rfl (hb hby at_31) kz) ?_
    show own_Go p e below s _ _ (T2.setTop (mkF m 33 #[.val (.int p0), .val (.int p1), .val (.int p2), .val (.int (1 : Int32)), .val (.ref w0), .unset, .unset, .unset, .unset, .unset] [(.int (6 : Int32))]))
    obtain ⟨T3, h3, k3, X3, e3, E3, A3, st3⟩ := newP X2 hx hZ (hw _ (List.mem_of_getElem? (i := 3) rfl)) e2 (g := (mkF m 33 #[.val (.int p0), .val (.int p1), .val (.int p2), .val (.int (1 : Int32)), .val (.ref w0), .unset, .unset, .unset, .unset, .unset] [(.int (6 : Int32))])) rfl (hb hby at_33) rfl (by decide) (cap := 6) (by decide) (by decide) (by decide) (by decide)
    obtain ⟨b3, g3⟩ : ∃ z, z = h0.size := ⟨_, rfl⟩
    rw [← g3] at A3 st3
    have g_b3 : n0 ≤ b3 := by rw [g3]; exact O0.1 ▸ O0.2.1
    have sz_b3 : h0.size ≤ b3 := by rw [g3]; exact K0.1
    have O3 := O0.ext E3
    have K3 := K0.ext E3
    refine own_by st3 ?_
    have V3 : Arv Z h3 b3 k3 .byte (6 : Int32) [(.int (0 : Int32)), (.int (0 : Int32)), (.int (0 : Int32)), (.int (0 : Int32)), (.int (0 : Int32)), (.int (0 : Int32))] (.int (0 : Int32)) := (Arv.new A3 (by decide)).pad (pad_rep [] (.int (0 : Int32)) 6)
    show own_Go p e below s _ _ (T3.setTop (mkF m 35 #[.val (.int p0), .val (.int p1), .val (.int p2), .val (.int (1 : Int32)), .val (.ref w0), .unset, .unset, .unset, .unset, .unset] [(.ref b3)]))
    refine own_by (fun tz kz => XS.dup X3.here hx rfl (hb hby at_35) rfl rfl kz) ?_
    show own_Go p e below s _ _ (T3.setTop (mkF m 36 #[.val (.int p0), .val (.int p1), .val (.int p2), .val (.int (1 : Int32)), .val (.ref w0), .unset, .unset, .unset, .unset, .unset] [(.ref b3), (.ref b3)]))
    refine own_by (fun tz kz => XS.iconst X3.here hx rfl (hb hby at_36) kz) ?_
    show own_Go p e below s _ _ (T3.setTop (mkF m 37 #[.val (.int p0), .val (.int p1), .val (.int p2), .val (.int (1 : Int32)), .val (.ref w0), .unset, .unset, .unset, .unset, .unset] [(.int (0 : Int32)), (.ref b3), (.ref b3)]))
    refine own_by (fun tz kz => XS.bipush X3.here hx rfl (hb hby at_37) kz) ?_
    show own_Go p e below s _ _ (T3.setTop (mkF m 39 #[.val (.int p0), .val (.int p1), .val (.int p2), .val (.int (1 : Int32)), .val (.ref w0), .unset, .unset, .unset, .unset, .unset] [(.int (12 : Int32)), (.int (0 : Int32)), (.ref b3), (.ref b3)]))
    obtain ⟨c4, Ar4, q4, S4, M4, Hh4, G4⟩ := id V3
    have hin4 : ¬ ((0 : Int32) < 0 ∨ c4.slots.size ≤ ((0 : Int32)).toNatClampNeg) := inb_of S4 ⟨by decide, by decide⟩
    obtain ⟨T4, h4, X4, e4, W4, st4⟩ := stB X3 hx hZ e3 Ar4 (j := (0 : Int32)) hin4 (g := (mkF m 39 #[.val (.int p0), .val (.int p1), .val (.int p2), .val (.int (1 : Int32)), .val (.ref w0), .unset, .unset, .unset, .unset, .unset] [(.int (12 : Int32)), (.int (0 : Int32)), (.ref b3), (.ref b3)])) rfl rfl (hb hby at_39)
    have V4 : Arv Z h4 b3 k3 .byte (6 : Int32) [(.int (12 : Int32)), (.int (0 : Int32)), (.int (0 : Int32)), (.int (0 : Int32)), (.int (0 : Int32)), (.int (0 : Int32))] (.int (0 : Int32)) := Arv.set Ar4 q4 S4 M4 Hh4 G4 rfl W4 0 (by decide) (Nat.le_of_ble_eq_true rfl)
    have O4 := O3.wr W4 g_b3
    have N4 := Fr.snoc X4 N0 g_b3
    have K4 := K3.wr W4 (Or.inr sz_b3)
    refine own_by st4 ?_
    show own_Go p e below s _ _ (T4.setTop (mkF m 40 #[.val (.int p0), .val (.int p1), .val (.int p2), .val (.int (1 : Int32)), .val (.ref w0), .unset, .unset, .unset, .unset, .unset] [(.ref b3)]))
    refine own_by (fun tz kz => XS.dup X4.here hx rfl (hb hby at_40) rfl rfl kz) ?_
    show own_Go p e below s _ _ (T4.setTop (mkF m 41 #[.val (.int p0), .val (.int p1), .val (.int p2), .val (.int (1 : Int32)), .val (.ref w0), .unset, .unset, .unset, .unset, .unset] [(.ref b3), (.ref b3)]))
    refine own_by (fun tz kz => XS.iconst X4.here hx rfl (hb hby at_41) kz) ?_
    show own_Go p e below s _ _ (T4.setTop (mkF m 42 #[.val (.int p0), .val (.int p1), .val (.int p2), .val (.int (1 : Int32)), .val (.ref w0), .unset, .unset, .unset, .unset, .unset] [(.int (1 : Int32)), (.ref b3), (.ref b3)]))
    refine own_by (fun tz kz => XS.bipush X4.here hx rfl (hb hby at_42) kz) ?_
    show own_Go p e below s _ _ (T4.setTop (mkF m 44 #[.val (.int p0), .val (.int p1), .val (.int p2), .val (.int (1 : Int32)), .val (.ref w0), .unset, .unset, .unset, .unset, .unset] [(.int (117 : Int32)), (.int (1 : Int32)), (.ref b3), (.ref b3)]))
    obtain ⟨c5, Ar5, q5, S5, M5, Hh5, G5⟩ := id V4
    have hin5 : ¬ ((1 : Int32) < 0 ∨ c5.slots.size ≤ ((1 : Int32)).toNatClampNeg) := inb_of S5 ⟨by decide, by decide⟩
    obtain ⟨T5, h5, X5, e5, W5, st5⟩ := stB X4 hx hZ e4 Ar5 (j := (1 : Int32)) hin5 (g := (mkF m 44 #[.val (.int p0), .val (.int p1), .val (.int p2), .val (.int (1 : Int32)), .val (.ref w0), .unset, .unset, .unset, .unset, .unset] [(.int (117 : Int32)), (.int (1 : Int32)), (.ref b3), (.ref b3)])) rfl rfl (hb hby at_44)
    have V5 : Arv Z h5 b3 k3 .byte (6 : Int32) [(.int (12 : Int32)), (.int (117 : Int32)), (.int (0 : Int32)), (.int (0 : Int32)), (.int (0 : Int32)), (.int (0 : Int32))] (.int (0 : Int32)) := Arv.set Ar5 q5 S5 M5 Hh5 G5 rfl W5 1 (by decide) (Nat.le_of_ble_eq_true rfl)
    have O5 := O4.wr W5 g_b3
    have N5 := Fr.snoc X5 N4 g_b3
    have K5 := K4.wr W5 (Or.inr sz_b3)
    refine own_by st5 ?_
    show own_Go p e below s _ _ (T5.setTop (mkF m 45 #[.val (.int p0), .val (.int p1), .val (.int p2), .val (.int (1 : Int32)), .val (.ref w0), .unset, .unset, .unset, .unset, .unset] [(.ref b3)]))
    refine own_by (fun tz kz => XS.dup X5.here hx rfl (hb hby at_45) rfl rfl kz) ?_
    show own_Go p e below s _ _ (T5.setTop (mkF m 46 #[.val (.int p0), .val (.int p1), .val (.int p2), .val (.int (1 : Int32)), .val (.ref w0), .unset, .unset, .unset, .unset, .unset] [(.ref b3), (.ref b3)]))
    refine own_by (fun tz kz => XS.iconst X5.here hx rfl (hb hby at_46) kz) ?_
    show own_Go p e below s _ _ (T5.setTop (mkF m 47 #[.val (.int p0), .val (.int p1), .val (.int p2), .val (.int (1 : Int32)), .val (.ref w0), .unset, .unset, .unset, .unset, .unset] [(.int (2 : Int32)), (.ref b3), (.ref b3)]))
    refine own_by (fun tz kz => XS.bipush X5.here hx rfl (hb hby at_47) kz) ?_
    show own_Go p e below s _ _ (T5.setTop (mkF m 49 #[.val (.int p0), .val (.int p1), .val (.int p2), .val (.int (1 : Int32)), .val (.ref w0), .unset, .unset, .unset, .unset, .unset] [(.int (13 : Int32)), (.int (2 : Int32)), (.ref b3), (.ref b3)]))
    obtain ⟨c6, Ar6, q6, S6, M6, Hh6, G6⟩ := id V5
    have hin6 : ¬ ((2 : Int32) < 0 ∨ c6.slots.size ≤ ((2 : Int32)).toNatClampNeg) := inb_of S6 ⟨by decide, by decide⟩
    obtain ⟨T6, h6, X6, e6, W6, st6⟩ := stB X5 hx hZ e5 Ar6 (j := (2 : Int32)) hin6 (g := (mkF m 49 #[.val (.int p0), .val (.int p1), .val (.int p2), .val (.int (1 : Int32)), .val (.ref w0), .unset, .unset, .unset, .unset, .unset] [(.int (13 : Int32)), (.int (2 : Int32)), (.ref b3), (.ref b3)])) rfl rfl (hb hby at_49)
    have V6 : Arv Z h6 b3 k3 .byte (6 : Int32) [(.int (12 : Int32)), (.int (117 : Int32)), (.int (13 : Int32)), (.int (0 : Int32)), (.int (0 : Int32)), (.int (0 : Int32))] (.int (0 : Int32)) := Arv.set Ar6 q6 S6 M6 Hh6 G6 rfl W6 2 (by decide) (Nat.le_of_ble_eq_true rfl)
    have O6 := O5.wr W6 g_b3
    have N6 := Fr.snoc X6 N5 g_b3
    have K6 := K5.wr W6 (Or.inr sz_b3)
    refine own_by st6 ?_
    show own_Go p e below s _ _ (T6.setTop (mkF m 50 #[.val (.int p0), .val (.int p1), .val (.int p2), .val (.int (1 : Int32)), .val (.ref w0), .unset, .unset, .unset, .unset, .unset] [(.ref b3)]))
    refine own_by (fun tz kz => XS.dup X6.here hx rfl (hb hby at_50) rfl rfl kz) ?_
    show own_Go p e below s _ _ (T6.setTop (mkF m 51 #[.val (.int p0), .val (.int p1), .val (.int p2), .val (.int (1 : Int32)), .val (.ref w0), .unset, .unset, .unset, .unset, .unset] [(.ref b3), (.ref b3)]))
    refine own_by (fun tz kz => XS.iconst X6.here hx rfl (hb hby at_51) kz) ?_
    show own_Go p e below s _ _ (T6.setTop (mkF m 52 #[.val (.int p0), .val (.int p1), .val (.int p2), .val (.int (1 : Int32)), .val (.ref w0), .unset, .unset, .unset, .unset, .unset] [(.int (3 : Int32)), (.ref b3), (.ref b3)]))
    refine own_by (fun tz kz => XS.iconst X6.here hx rfl (hb hby at_52) kz) ?_
    show own_Go p e below s _ _ (T6.setTop (mkF m 53 #[.val (.int p0), .val (.int p1), .val (.int p2), .val (.int (1 : Int32)), .val (.ref w0), .unset, .unset, .unset, .unset, .unset] [(.int (5 : Int32)), (.int (3 : Int32)), (.ref b3), (.ref b3)]))
    obtain ⟨c7, Ar7, q7, S7, M7, Hh7, G7⟩ := id V6
    have hin7 : ¬ ((3 : Int32) < 0 ∨ c7.slots.size ≤ ((3 : Int32)).toNatClampNeg) := inb_of S7 ⟨by decide, by decide⟩
    obtain ⟨T7, h7, X7, e7, W7, st7⟩ := stB X6 hx hZ e6 Ar7 (j := (3 : Int32)) hin7 (g := (mkF m 53 #[.val (.int p0), .val (.int p1), .val (.int p2), .val (.int (1 : Int32)), .val (.ref w0), .unset, .unset, .unset, .unset, .unset] [(.int (5 : Int32)), (.int (3 : Int32)), (.ref b3), (.ref b3)])) rfl rfl (hb hby at_53)
    have V7 : Arv Z h7 b3 k3 .byte (6 : Int32) [(.int (12 : Int32)), (.int (117 : Int32)), (.int (13 : Int32)), (.int (5 : Int32)), (.int (0 : Int32)), (.int (0 : Int32))] (.int (0 : Int32)) := Arv.set Ar7 q7 S7 M7 Hh7 G7 rfl W7 3 (by decide) (Nat.le_of_ble_eq_true rfl)
    have O7 := O6.wr W7 g_b3
    have N7 := Fr.snoc X7 N6 g_b3
    have K7 := K6.wr W7 (Or.inr sz_b3)
    refine own_by st7 ?_
    show own_Go p e below s _ _ (T7.setTop (mkF m 54 #[.val (.int p0), .val (.int p1), .val (.int p2), .val (.int (1 : Int32)), .val (.ref w0), .unset, .unset, .unset, .unset, .unset] [(.ref b3)]))
    refine own_by (fun tz kz => XS.dup X7.here hx rfl (hb hby at_54) rfl rfl kz) ?_
    show own_Go p e below s _ _ (T7.setTop (mkF m 55 #[.val (.int p0), .val (.int p1), .val (.int p2), .val (.int (1 : Int32)), .val (.ref w0), .unset, .unset, .unset, .unset, .unset] [(.ref b3), (.ref b3)]))
    refine own_by (fun tz kz => XS.iconst X7.here hx rfl (hb hby at_55) kz) ?_
    show own_Go p e below s _ _ (T7.setTop (mkF m 56 #[.val (.int p0), .val (.int p1), .val (.int p2), .val (.int (1 : Int32)), .val (.ref w0), .unset, .unset, .unset, .unset, .unset] [(.int (4 : Int32)), (.ref b3), (.ref b3)]))
    refine own_by (fun tz kz => XS.bipush X7.here hx rfl (hb hby at_56) kz) ?_
    show own_Go p e below s _ _ (T7.setTop (mkF m 58 #[.val (.int p0), .val (.int p1), .val (.int p2), .val (.int (1 : Int32)), .val (.ref w0), .unset, .unset, .unset, .unset, .unset] [(.int (14 : Int32)), (.int (4 : Int32)), (.ref b3), (.ref b3)]))
    obtain ⟨c8, Ar8, q8, S8, M8, Hh8, G8⟩ := id V7
    have hin8 : ¬ ((4 : Int32) < 0 ∨ c8.slots.size ≤ ((4 : Int32)).toNatClampNeg) := inb_of S8 ⟨by decide, by decide⟩
    obtain ⟨T8, h8, X8, e8, W8, st8⟩ := stB X7 hx hZ e7 Ar8 (j := (4 : Int32)) hin8 (g := (mkF m 58 #[.val (.int p0), .val (.int p1), .val (.int p2), .val (.int (1 : Int32)), .val (.ref w0), .unset, .unset, .unset, .unset, .unset] [(.int (14 : Int32)), (.int (4 : Int32)), (.ref b3), (.ref b3)])) rfl rfl (hb hby at_58)
    have V8 : Arv Z h8 b3 k3 .byte (6 : Int32) [(.int (12 : Int32)), (.int (117 : Int32)), (.int (13 : Int32)), (.int (5 : Int32)), (.int (14 : Int32)), (.int (0 : Int32))] (.int (0 : Int32)) := Arv.set Ar8 q8 S8 M8 Hh8 G8 rfl W8 4 (by decide) (Nat.le_of_ble_eq_true rfl)
    have O8 := O7.wr W8 g_b3
    have N8 := Fr.snoc X8 N7 g_b3
    have K8 := K7.wr W8 (Or.inr sz_b3)
    refine own_by st8 ?_
    show own_Go p e below s _ _ (T8.setTop (mkF m 59 #[.val (.int p0), .val (.int p1), .val (.int p2), .val (.int (1 : Int32)), .val (.ref w0), .unset, .unset, .unset, .unset, .unset] [(.ref b3)]))
    refine own_by (fun tz kz => XS.dup X8.here hx rfl (hb hby at_59) rfl rfl kz) ?_
    show own_Go p e below s _ _ (T8.setTop (mkF m 60 #[.val (.int p0), .val (.int p1), .val (.int p2), .val (.int (1 : Int32)), .val (.ref w0), .unset, .unset, .unset, .unset, .unset] [(.ref b3), (.ref b3)]))
    refine own_by (fun tz kz => XS.iconst X8.here hx rfl (hb hby at_60) kz) ?_
    show own_Go p e below s _ _ (T8.setTop (mkF m 61 #[.val (.int p0), .val (.int p1), .val (.int p2), .val (.int (1 : Int32)), .val (.ref w0), .unset, .unset, .unset, .unset, .unset] [(.int (5 : Int32)), (.ref b3), (.ref b3)]))
    refine own_by (fun tz kz => XS.iconst X8.here hx rfl (hb hby at_61) kz) ?_
    show own_Go p e below s _ _ (T8.setTop (mkF m 62 #[.val (.int p0), .val (.int p1), .val (.int p2), .val (.int (1 : Int32)), .val (.ref w0), .unset, .unset, .unset, .unset, .unset] [(.int (5 : Int32)), (.int (5 : Int32)), (.ref b3), (.ref b3)]))
    obtain ⟨c9, Ar9, q9, S9, M9, Hh9, G9⟩ := id V8
    have hin9 : ¬ ((5 : Int32) < 0 ∨ c9.slots.size ≤ ((5 : Int32)).toNatClampNeg) := inb_of S9 ⟨by decide, by decide⟩
    obtain ⟨T9, h9, X9, e9, W9, st9⟩ := stB X8 hx hZ e8 Ar9 (j := (5 : Int32)) hin9 (g := (mkF m 62 #[.val (.int p0), .val (.int p1), .val (.int p2), .val (.int (1 : Int32)), .val (.ref w0), .unset, .unset, .unset, .unset, .unset] [(.int (5 : Int32)), (.int (5 : Int32)), (.ref b3), (.ref b3)])) rfl rfl (hb hby at_62)
    have V9 : Arv Z h9 b3 k3 .byte (6 : Int32) [(.int (12 : Int32)), (.int (117 : Int32)), (.int (13 : Int32)), (.int (5 : Int32)), (.int (14 : Int32)), (.int (5 : Int32))] (.int (0 : Int32)) := Arv.set Ar9 q9 S9 M9 Hh9 G9 rfl W9 5 (by decide) (Nat.le_of_ble_eq_true rfl)
    have O9 := O8.wr W9 g_b3
    have N9 := Fr.snoc X9 N8 g_b3
    have K9 := K8.wr W9 (Or.inr sz_b3)
    refine own_by st9 ?_
    show own_Go p e below s _ _ (T9.setTop (mkF m 63 #[.val (.int p0), .val (.int p1), .val (.int p2), .val (.int (1 : Int32)), .val (.ref w0), .unset, .unset, .unset, .unset, .unset] [(.ref b3)]))
    refine own_by (fun tz kz => XS.goto X9.here hx rfl (pc0 := 63) (pc' := 111) rfl (hb hby at_63) (by decide) (by decide) kz) ?_
    show own_Go p e below s _ _ (T9.setTop (mkF m 111 #[.val (.int p0), .val (.int p1), .val (.int p2), .val (.int (1 : Int32)), .val (.ref w0), .unset, .unset, .unset, .unset, .unset] [(.ref b3)]))
    refine own_by (fun tz kz => XS.astore X9.here hx rfl (hb hby at_111) rfl rfl (l' := #[.val (.int p0), .val (.int p1), .val (.int p2), .val (.int (1 : Int32)), .val (.ref w0), .val (.ref b3), .unset, .unset, .unset, .unset]) rfl kz) ?_
    show own_Go p e below s _ _ (T9.setTop (mkF m 113 #[.val (.int p0), .val (.int p1), .val (.int p2), .val (.int (1 : Int32)), .val (.ref w0), .val (.ref b3), .unset, .unset, .unset, .unset] []))
    refine own_by (fun tz kz => XS.aload X9.here hx rfl (hb hby at_113) rfl rfl kz) ?_
    show own_Go p e below s _ _ (T9.setTop (mkF m 115 #[.val (.int p0), .val (.int p1), .val (.int p2), .val (.int (1 : Int32)), .val (.ref w0), .val (.ref b3), .unset, .unset, .unset, .unset] [(.ref w0)]))
    obtain ⟨cq10, kq10, q10a, q10b, q10c⟩ := isOf hZ e9 (E_0.ext O9.2)
    obtain ⟨_, _, ⟨T10, L10, k10, n10⟩, -, X10, ⟨Lc10, hQ10, l10, y10, z10⟩, st10⟩ := X9.virtualBack hx (y := (⟨"com/example/weft/weft/formats/FileFormat", "getIdentifier", "()[B"⟩ : MethodName)) (z := (⟨"com/example/weft/weft/formats/FileFormat", "getIdentifier", "()[B"⟩ : MethodName)) hown (mvT hZ (hw _ (List.mem_of_getElem? (i := 4) rfl))) (mvT hZ (hw _ (List.mem_of_getElem? (i := 5) rfl))) (notFace_of_selects (args := #[]) (mvT hZ (hw _ (List.mem_of_getElem? (i := 7) rfl)))) (mvT hZ (hw _ (List.mem_of_getElem? (i := 7) rfl))) (mvT hZ (hw _ (List.mem_of_getElem? (i := 6) rfl))) (by decide) (backOf (W := 0) (rm_get0 l Z a0 hw [] w0 ma0 km0 h9 n0 O9 V_0 F_m0 F_v0 E_0) hZ (hw _ (List.mem_of_getElem? (i := 8) rfl)) (hw _ (List.mem_of_getElem? (i := 1) rfl)) (by decide) (by decide)) q10a q10c (g := (mkF m 115 #[.val (.int p0), .val (.int p1), .val (.int p2), .val (.int (1 : Int32)), .val (.ref w0), .val (.ref b3), .unset, .unset, .unset, .unset] [(.ref w0)])) rfl (by rw [hml]; rfl) (Steps.refl _) (argsL := []) (rest := []) (lenOf pd_0 rfl) rfl (by show 2 * 0 + _ ≤ _; exact Nat.le_of_eq rfl) (hb hby at_115) (fun _ _ => ⟨rfl, e9, (by decide : 1 + 1 ≤ _), (by decide : 6 + 6 ≤ _)⟩)
    dsimp only [Pt.U, Pt.locs, Pt.cells, Pt.slots] at X10 l10 y10 z10 st10 hQ10
    rw [l10, y10, z10] at X10
    obtain ⟨b10, k10', rfl, Nq10, g_b10, sz10, Kq10, Vq10⟩ := hQ10
    have N10 := Fr.app N9 Nq10
    have e10 : T10.heap = T10.heap := rfl
    refine own_via st10 ?_
    have O10 := O9.keep Kq10 all0
    have K10 := K9.trans Kq10 all0
    have ne_b3_b10 : b3 ≠ b10 := Nat.ne_of_lt (Nat.lt_of_lt_of_le (Arv.lt V9) sz10)
    have sz_b10 : h0.size ≤ b10 := Nat.le_trans K9.1 sz10
    show own_Go p e below s _ _ (T10.setTop (mkF m 118 #[.val (.int p0), .val (.int p1), .val (.int p2), .val (.int (1 : Int32)), .val (.ref w0), .val (.ref b3), .unset, .unset, .unset, .unset] [(.ref b10)]))
    refine own_by (fun tz kz => XS.astore X10.here hx rfl (hb hby at_118) rfl rfl (l' := #[.val (.int p0), .val (.int p1), .val (.int p2), .val (.int (1 : Int32)), .val (.ref w0), .val (.ref b3), .val (.ref b10), .unset, .unset, .unset]) rfl kz) ?_
    show own_Go p e below s _ _ (T10.setTop (mkF m 120 #[.val (.int p0), .val (.int p1), .val (.int p2), .val (.int (1 : Int32)), .val (.ref w0), .val (.ref b3), .val (.ref b10), .unset, .unset, .unset] []))
    refine own_by (fun tz kz => XS.aload X10.here hx rfl (hb hby at_120) rfl rfl kz) ?_
    show own_Go p e below s _ _ (T10.setTop (mkF m 122 #[.val (.int p0), .val (.int p1), .val (.int p2), .val (.int (1 : Int32)), .val (.ref w0), .val (.ref b3), .val (.ref b10), .unset, .unset, .unset] [(.ref b10)]))
    refine own_by (fun tz kz => XS.ifnullNo X10.here hx rfl (hb hby at_122) rfl kz) ?_
    show own_Go p e below s _ _ (T10.setTop (mkF m 125 #[.val (.int p0), .val (.int p1), .val (.int p2), .val (.int (1 : Int32)), .val (.ref w0), .val (.ref b3), .val (.ref b10), .unset, .unset, .unset] []))
    refine own_by (fun tz kz => XS.aload X10.here hx rfl (hb hby at_125) rfl rfl kz) ?_
    show own_Go p e below s _ _ (T10.setTop (mkF m 127 #[.val (.int p0), .val (.int p1), .val (.int p2), .val (.int (1 : Int32)), .val (.ref w0), .val (.ref b3), .val (.ref b10), .unset, .unset, .unset] [(.ref b10)]))
    obtain ⟨c11, Ar11, q11, S11, M11, Hh11, G11⟩ := id Vq10
    refine own_by (fun tz kz => X10.arraylength hx (by rw [e10]; exact Ar11.1) (State.isArrayOf_alike hZ.alike Ar11.2.1) (g := (mkF m 127 #[.val (.int p0), .val (.int p1), .val (.int p2), .val (.int (1 : Int32)), .val (.ref w0), .val (.ref b3), .val (.ref b10), .unset, .unset, .unset] [(.ref b10)])) rfl rfl (hb hby at_127) _ kz) ?_
    rw [len_of S11 M11]
    show own_Go p e below s _ _ (T10.setTop (mkF m 128 #[.val (.int p0), .val (.int p1), .val (.int p2), .val (.int (1 : Int32)), .val (.ref w0), .val (.ref b3), .val (.ref b10), .unset, .unset, .unset] [(.int (6 : Int32))]))
    refine own_by (fun tz kz => XS.aload X10.here hx rfl (hb hby at_128) rfl rfl kz) ?_
    show own_Go p e below s _ _ (T10.setTop (mkF m 130 #[.val (.int p0), .val (.int p1), .val (.int p2), .val (.int (1 : Int32)), .val (.ref w0), .val (.ref b3), .val (.ref b10), .unset, .unset, .unset] [(.ref b3), (.int (6 : Int32))]))
    have f13 := (V9.keep Kq10 nin0)
    obtain ⟨c12, Ar12, q12, S12, M12, Hh12, G12⟩ := id f13
    refine own_by (fun tz kz => X10.arraylength hx (by rw [e10]; exact Ar12.1) (State.isArrayOf_alike hZ.alike Ar12.2.1) (g := (mkF m 130 #[.val (.int p0), .val (.int p1), .val (.int p2), .val (.int (1 : Int32)), .val (.ref w0), .val (.ref b3), .val (.ref b10), .unset, .unset, .unset] [(.ref b3), (.int (6 : Int32))])) rfl rfl (hb hby at_130) _ kz) ?_
    rw [len_of S12 M12]
    show own_Go p e below s _ _ (T10.setTop (mkF m 131 #[.val (.int p0), .val (.int p1), .val (.int p2), .val (.int (1 : Int32)), .val (.ref w0), .val (.ref b3), .val (.ref b10), .unset, .unset, .unset] [(.int (6 : Int32)), (.int (6 : Int32))]))
    refine own_by (fun tz kz => XS.icmpYes X10.here hx rfl (pc0 := 131) (pc' := 136) rfl (hb hby at_131) rfl (teq (by decide : (6 : Int32) = (6 : Int32))).1 (by decide) (by decide) kz) ?_
    show own_Go p e below s _ _ (T10.setTop (mkF m 136 #[.val (.int p0), .val (.int p1), .val (.int p2), .val (.int (1 : Int32)), .val (.ref w0), .val (.ref b3), .val (.ref b10), .unset, .unset, .unset] []))
    refine own_by (fun tz kz => XS.aload X10.here hx rfl (hb hby at_136) rfl rfl kz) ?_
    show own_Go p e below s _ _ (T10.setTop (mkF m 138 #[.val (.int p0), .val (.int p1), .val (.int p2), .val (.int (1 : Int32)), .val (.ref w0), .val (.ref b3), .val (.ref b10), .unset, .unset, .unset] [(.ref w0)]))
    obtain ⟨cq14, kq14, q14a, q14b, q14c⟩ := isOf hZ e10 (E_0.ext O10.2)
    obtain ⟨_, _, ⟨T14, L14, k14, n14⟩, -, X14, ⟨Lc14, hQ14, l14, y14, z14⟩, st14⟩ := X10.virtualBack hx (y := (⟨"com/example/weft/weft/formats/FileFormat", "getIdentifierSize", "()I"⟩ : MethodName)) (z := (⟨"com/example/weft/weft/formats/FileFormat", "getIdentifierSize", "()I"⟩ : MethodName)) hown (mvT hZ (hw _ (List.mem_of_getElem? (i := 30) rfl))) (mvT hZ (hw _ (List.mem_of_getElem? (i := 12) rfl))) (notFace_of_selects (args := #[]) (mvT hZ (hw _ (List.mem_of_getElem? (i := 14) rfl)))) (mvT hZ (hw _ (List.mem_of_getElem? (i := 14) rfl))) (mvT hZ (hw _ (List.mem_of_getElem? (i := 13) rfl))) (by decide) (backOf (W := 0) (rm_size0 l Z a0 hw [] w0 ma0 km0 T10.heap n0 O10 V_0 F_m0 F_v0) hZ (hw _ (List.mem_of_getElem? (i := 15) rfl)) (hw _ (List.mem_of_getElem? (i := 1) rfl)) (by decide) (by decide)) q14a q14c (g := (mkF m 138 #[.val (.int p0), .val (.int p1), .val (.int p2), .val (.int (1 : Int32)), .val (.ref w0), .val (.ref b3), .val (.ref b10), .unset, .unset, .unset] [(.ref w0)])) rfl (by rw [hml]; rfl) (Steps.refl _) (argsL := []) (rest := []) (lenOf pd_1 rfl) rfl (by show 2 * 0 + _ ≤ _; exact Nat.le_of_eq rfl) (hb hby at_138) (fun _ _ => ⟨rfl, e10, (by decide : (1 + 1) + 0 ≤ _), (by decide : (6 + 6) + 0 ≤ _)⟩)
    dsimp only [Pt.U, Pt.locs, Pt.cells, Pt.slots] at X14 l14 y14 z14 st14 hQ14
    rw [l14, y14, z14] at X14
    obtain ⟨rfl, Nq14, e14⟩ := hQ14
    have N14 := Fr.app N10 Nq14
    refine own_via st14 ?_
    show own_Go p e below s _ _ (T14.setTop (mkF m 141 #[.val (.int p0), .val (.int p1), .val (.int p2), .val (.int (1 : Int32)), .val (.ref w0), .val (.ref b3), .val (.ref b10), .unset, .unset, .unset] [(.int (6 : Int32))]))
    refine own_by (fun tz kz => XS.aload X14.here hx rfl (hb hby at_141) rfl rfl kz) ?_
    show own_Go p e below s _ _ (T14.setTop (mkF m 143 #[.val (.int p0), .val (.int p1), .val (.int p2), .val (.int (1 : Int32)), .val (.ref w0), .val (.ref b3), .val (.ref b10), .unset, .unset, .unset] [(.ref b3), (.int (6 : Int32))]))
    obtain ⟨c15, Ar15, q15, S15, M15, Hh15, G15⟩ := id f13
    refine own_by (fun tz kz => X14.arraylength hx (by rw [e14]; exact Ar15.1) (State.isArrayOf_alike hZ.alike Ar15.2.1) (g := (mkF m 143 #[.val (.int p0), .val (.int p1), .val (.int p2), .val (.int (1 : Int32)), .val (.ref w0), .val (.ref b3), .val (.ref b10), .unset, .unset, .unset] [(.ref b3), (.int (6 : Int32))])) rfl rfl (hb hby at_143) _ kz) ?_
    rw [len_of S15 M15]
    show own_Go p e below s _ _ (T14.setTop (mkF m 144 #[.val (.int p0), .val (.int p1), .val (.int p2), .val (.int (1 : Int32)), .val (.ref w0), .val (.ref b3), .val (.ref b10), .unset, .unset, .unset] [(.int (6 : Int32)), (.int (6 : Int32))]))
    refine own_by (fun tz kz => XS.icmpYes X14.here hx rfl (pc0 := 144) (pc' := 149) rfl (hb hby at_144) rfl (teq (by decide : (6 : Int32) = (6 : Int32))).1 (by decide) (by decide) kz) ?_
    show own_Go p e below s _ _ (T14.setTop (mkF m 149 #[.val (.int p0), .val (.int p1), .val (.int p2), .val (.int (1 : Int32)), .val (.ref w0), .val (.ref b3), .val (.ref b10), .unset, .unset, .unset] []))
    refine own_by (fun tz kz => XS.iloadN X14.here hx rfl (hb hby at_149) rfl  kz) ?_
    show own_Go p e below s _ _ (T14.setTop (mkF m 150 #[.val (.int p0), .val (.int p1), .val (.int p2), .val (.int (1 : Int32)), .val (.ref w0), .val (.ref b3), .val (.ref b10), .unset, .unset, .unset] [(.int p1)]))
    refine own_by (fun tz kz => X14.ldcInt hx hown (mvT hZ (hw _ (List.mem_of_getElem? (i := 31) rfl))) (g := (mkF m 150 #[.val (.int p0), .val (.int p1), .val (.int p2), .val (.int (1 : Int32)), .val (.ref w0), .val (.ref b3), .val (.ref b10), .unset, .unset, .unset] [(.int p1)])) rfl (hb hby at_150) _ kz) ?_
    show own_Go p e below s _ _ (T14.setTop (mkF m 152 #[.val (.int p0), .val (.int p1), .val (.int p2), .val (.int (1 : Int32)), .val (.ref w0), .val (.ref b3), .val (.ref b10), .unset, .unset, .unset] [(.int (2147483647 : Int32)), (.int p1)]))
    refine own_by (fun tz kz => XS.iand X14.here hx rfl (hb hby at_152) rfl kz) ?_
    show own_Go p e below s _ _ (T14.setTop (mkF m 153 #[.val (.int p0), .val (.int p1), .val (.int p2), .val (.int (1 : Int32)), .val (.ref w0), .val (.ref b3), .val (.ref b10), .unset, .unset, .unset] [(.int (p1 &&& (2147483647 : Int32)))]))
    refine own_by (fun tz kz => XS.aload X14.here hx rfl (hb hby at_153) rfl rfl kz) ?_
    show own_Go p e below s _ _ (T14.setTop (mkF m 155 #[.val (.int p0), .val (.int p1), .val (.int p2), .val (.int (1 : Int32)), .val (.ref w0), .val (.ref b3), .val (.ref b10), .unset, .unset, .unset] [(.ref b3), (.int (p1 &&& (2147483647 : Int32)))]))
    obtain ⟨c16, Ar16, q16, S16, M16, Hh16, G16⟩ := id f13
    refine own_by (fun tz kz => X14.arraylength hx (by rw [e14]; exact Ar16.1) (State.isArrayOf_alike hZ.alike Ar16.2.1) (g := (mkF m 155 #[.val (.int p0), .val (.int p1), .val (.int p2), .val (.int (1 : Int32)), .val (.ref w0), .val (.ref b3), .val (.ref b10), .unset, .unset, .unset] [(.ref b3), (.int (p1 &&& (2147483647 : Int32)))])) rfl rfl (hb hby at_155) _ kz) ?_
    rw [len_of S16 M16]
    show own_Go p e below s _ _ (T14.setTop (mkF m 156 #[.val (.int p0), .val (.int p1), .val (.int p2), .val (.int (1 : Int32)), .val (.ref w0), .val (.ref b3), .val (.ref b10), .unset, .unset, .unset] [(.int (6 : Int32)), (.int (p1 &&& (2147483647 : Int32)))]))
    refine own_by (fun tz kz => iremM X14 hx rfl (hb hby at_156) rfl (by decide) kz) ?_
    show own_Go p e below s _ _ (T14.setTop (mkF m 157 #[.val (.int p0), .val (.int p1), .val (.int p2), .val (.int (1 : Int32)), .val (.ref w0), .val (.ref b3), .val (.ref b10), .unset, .unset, .unset] [(.int ((p1 &&& (2147483647 : Int32)) % (6 : Int32)))]))
    refine own_by (fun tz kz => XS.istore X14.here hx rfl (hb hby at_157) rfl (l' := #[.val (.int p0), .val (.int p1), .val (.int p2), .val (.int (1 : Int32)), .val (.ref w0), .val (.ref b3), .val (.ref b10), .val (.int ((p1 &&& (2147483647 : Int32)) % (6 : Int32))), .unset, .unset]) rfl kz) ?_
    obtain ⟨I, hI⟩ : ∃ I, I = (p1 &&& (2147483647 : Int32)) % (6 : Int32) := ⟨_, rfl⟩
    have hIb : ¬ I < 0 ∧ I < (6 : Int32) := by rw [hI]; exact own_b6 p1
    rw [← hI]
    obtain ⟨z, hz⟩ := own_at6 _ (own_lt6 hIb)
    show own_Go p e below s _ _ (T14.setTop (mkF m 159 #[.val (.int p0), .val (.int p1), .val (.int p2), .val (.int (1 : Int32)), .val (.ref w0), .val (.ref b3), .val (.ref b10), .val (.int I), .unset, .unset] []))
    refine own_by (fun tz kz => XS.aload X14.here hx rfl (hb hby at_159) rfl rfl kz) ?_
    show own_Go p e below s _ _ (T14.setTop (mkF m 161 #[.val (.int p0), .val (.int p1), .val (.int p2), .val (.int (1 : Int32)), .val (.ref w0), .val (.ref b3), .val (.ref b10), .val (.int I), .unset, .unset] [(.ref b10)]))
    refine own_by (fun tz kz => XS.iload X14.here hx rfl (hb hby at_161) rfl  kz) ?_
    show own_Go p e below s _ _ (T14.setTop (mkF m 163 #[.val (.int p0), .val (.int p1), .val (.int p2), .val (.int (1 : Int32)), .val (.ref w0), .val (.ref b3), .val (.ref b10), .val (.int I), .unset, .unset] [(.int I), (.ref b10)]))
    obtain ⟨c17, Ar17, q17, S17, M17, Hh17, G17⟩ := id Vq10
    have hin17 : ¬ (I < 0 ∨ c17.slots.size ≤ (I).toNatClampNeg) := inb_of S17 hIb
    have hat17 := Has.at Hh17 hin17 (v := (.int z)) hz
    refine own_by (fun tz kz => X14.baloadBytes hx (j := I) (v := (.int z)) (by rw [e14]; exact Ar17.1) (State.isArrayOf_alike hZ.alike Ar17.2.1) Ar17.2.2 hin17 hat17 (g := (mkF m 163 #[.val (.int p0), .val (.int p1), .val (.int p2), .val (.int (1 : Int32)), .val (.ref w0), .val (.ref b3), .val (.ref b10), .val (.int I), .unset, .unset] [(.int I), (.ref b10)])) rfl rfl (hb hby at_163) _ kz) ?_
    show own_Go p e below s _ _ (T14.setTop (mkF m 164 #[.val (.int p0), .val (.int p1), .val (.int p2), .val (.int (1 : Int32)), .val (.ref w0), .val (.ref b3), .val (.ref b10), .val (.int I), .unset, .unset] [(.int z)]))
    refine own_by (fun tz kz => XS.aload X14.here hx rfl (hb hby at_164) rfl rfl kz) ?_
    show own_Go p e below s _ _ (T14.setTop (mkF m 166 #[.val (.int p0), .val (.int p1), .val (.int p2), .val (.int (1 : Int32)), .val (.ref w0), .val (.ref b3), .val (.ref b10), .val (.int I), .unset, .unset] [(.ref b3), (.int z)]))
    refine own_by (fun tz kz => XS.iload X14.here hx rfl (hb hby at_166) rfl  kz) ?_
    show own_Go p e below s _ _ (T14.setTop (mkF m 168 #[.val (.int p0), .val (.int p1), .val (.int p2), .val (.int (1 : Int32)), .val (.ref w0), .val (.ref b3), .val (.ref b10), .val (.int I), .unset, .unset] [(.int I), (.ref b3), (.int z)]))
    obtain ⟨c18, Ar18, q18, S18, M18, Hh18, G18⟩ := id f13
    have hin18 : ¬ (I < 0 ∨ c18.slots.size ≤ (I).toNatClampNeg) := inb_of S18 hIb
    have hat18 := Has.at Hh18 hin18 (v := (.int z)) hz
    refine own_by (fun tz kz => X14.baloadBytes hx (j := I) (v := (.int z)) (by rw [e14]; exact Ar18.1) (State.isArrayOf_alike hZ.alike Ar18.2.1) Ar18.2.2 hin18 hat18 (g := (mkF m 168 #[.val (.int p0), .val (.int p1), .val (.int p2), .val (.int (1 : Int32)), .val (.ref w0), .val (.ref b3), .val (.ref b10), .val (.int I), .unset, .unset] [(.int I), (.ref b3), (.int z)])) rfl rfl (hb hby at_168) _ kz) ?_
    show own_Go p e below s _ _ (T14.setTop (mkF m 169 #[.val (.int p0), .val (.int p1), .val (.int p2), .val (.int (1 : Int32)), .val (.ref w0), .val (.ref b3), .val (.ref b10), .val (.int I), .unset, .unset] [(.int z), (.int z)]))
    refine own_by (fun tz kz => XS.icmpYes X14.here hx rfl (pc0 := 169) (pc' := 174) rfl (hb hby at_169) rfl (teq rfl).1 (by decide) (by decide) kz) ?_
    show own_Go p e below s _ _ (T14.setTop (mkF m 174 #[.val (.int p0), .val (.int p1), .val (.int p2), .val (.int (1 : Int32)), .val (.ref w0), .val (.ref b3), .val (.ref b10), .val (.int I), .unset, .unset] []))
    refine own_by (fun tz kz => XS.aload X14.here hx rfl (hb hby at_174) rfl rfl kz) ?_
    show own_Go p e below s _ _ (T14.setTop (mkF m 176 #[.val (.int p0), .val (.int p1), .val (.int p2), .val (.int (1 : Int32)), .val (.ref w0), .val (.ref b3), .val (.ref b10), .val (.int I), .unset, .unset] [(.ref b3)]))
    obtain ⟨c19, Ar19, q19, S19, M19, Hh19, G19⟩ := id f13
    refine own_by (fun tz kz => X14.arraylength hx (by rw [e14]; exact Ar19.1) (State.isArrayOf_alike hZ.alike Ar19.2.1) (g := (mkF m 176 #[.val (.int p0), .val (.int p1), .val (.int p2), .val (.int (1 : Int32)), .val (.ref w0), .val (.ref b3), .val (.ref b10), .val (.int I), .unset, .unset] [(.ref b3)])) rfl rfl (hb hby at_176) _ kz) ?_
    rw [len_of S19 M19]
    show own_Go p e below s _ _ (T14.setTop (mkF m 177 #[.val (.int p0), .val (.int p1), .val (.int p2), .val (.int (1 : Int32)), .val (.ref w0), .val (.ref b3), .val (.ref b10), .val (.int I), .unset, .unset] [(.int (6 : Int32))]))
    refine own_by (fun tz kz => XS.iconst X14.here hx rfl (hb hby at_177) kz) ?_
    show own_Go p e below s _ _ (T14.setTop (mkF m 178 #[.val (.int p0), .val (.int p1), .val (.int p2), .val (.int (1 : Int32)), .val (.ref w0), .val (.ref b3), .val (.ref b10), .val (.int I), .unset, .unset] [(.int (1 : Int32)), (.int (6 : Int32))]))
    refine own_by (fun tz kz => XS.isub X14.here hx rfl (hb hby at_178) rfl kz) ?_
    show own_Go p e below s _ _ (T14.setTop (mkF m 179 #[.val (.int p0), .val (.int p1), .val (.int p2), .val (.int (1 : Int32)), .val (.ref w0), .val (.ref b3), .val (.ref b10), .val (.int I), .unset, .unset] [(.int ((6 : Int32) - (1 : Int32)))]))
    refine own_by (fun tz kz => XS.istore X14.here hx rfl (hb hby at_179) rfl (l' := #[.val (.int p0), .val (.int p1), .val (.int p2), .val (.int (1 : Int32)), .val (.ref w0), .val (.ref b3), .val (.ref b10), .val (.int I), .val (.int ((6 : Int32) - (1 : Int32))), .unset]) rfl kz) ?_
    show own_Go p e below s _ _ (T14.setTop (mkF m 181 #[.val (.int p0), .val (.int p1), .val (.int p2), .val (.int (1 : Int32)), .val (.ref w0), .val (.ref b3), .val (.ref b10), .val (.int I), .val (.int ((6 : Int32) - (1 : Int32))), .unset] []))
    refine own_by (fun tz kz => XS.aload X14.here hx rfl (hb hby at_181) rfl rfl kz) ?_
    show own_Go p e below s _ _ (T14.setTop (mkF m 183 #[.val (.int p0), .val (.int p1), .val (.int p2), .val (.int (1 : Int32)), .val (.ref w0), .val (.ref b3), .val (.ref b10), .val (.int I), .val (.int ((6 : Int32) - (1 : Int32))), .unset] [(.ref b10)]))
    refine own_by (fun tz kz => XS.iload X14.here hx rfl (hb hby at_183) rfl  kz) ?_
    show own_Go p e below s _ _ (T14.setTop (mkF m 185 #[.val (.int p0), .val (.int p1), .val (.int p2), .val (.int (1 : Int32)), .val (.ref w0), .val (.ref b3), .val (.ref b10), .val (.int I), .val (.int ((6 : Int32) - (1 : Int32))), .unset] [(.int ((6 : Int32) - (1 : Int32))), (.ref b10)]))
    obtain ⟨c20, Ar20, q20, S20, M20, Hh20, G20⟩ := id Vq10
    have hin20 : ¬ (((6 : Int32) - (1 : Int32)) < 0 ∨ c20.slots.size ≤ (((6 : Int32) - (1 : Int32))).toNatClampNeg) := inb_of S20 ⟨by decide, by decide⟩
    have hat20 := Has.at Hh20 hin20 (v := (.int (5 : Int32))) rfl
    refine own_by (fun tz kz => X14.baloadBytes hx (j := ((6 : Int32) - (1 : Int32))) (v := (.int (5 : Int32))) (by rw [e14]; exact Ar20.1) (State.isArrayOf_alike hZ.alike Ar20.2.1) Ar20.2.2 hin20 hat20 (g := (mkF m 185 #[.val (.int p0), .val (.int p1), .val (.int p2), .val (.int (1 : Int32)), .val (.ref w0), .val (.ref b3), .val (.ref b10), .val (.int I), .val (.int ((6 : Int32) - (1 : Int32))), .unset] [(.int ((6 : Int32) - (1 : Int32))), (.ref b10)])) rfl rfl (hb hby at_185) _ kz) ?_
    show own_Go p e below s _ _ (T14.setTop (mkF m 186 #[.val (.int p0), .val (.int p1), .val (.int p2), .val (.int (1 : Int32)), .val (.ref w0), .val (.ref b3), .val (.ref b10), .val (.int I), .val (.int ((6 : Int32) - (1 : Int32))), .unset] [(.int (5 : Int32))]))
    refine own_by (fun tz kz => XS.aload X14.here hx rfl (hb hby at_186) rfl rfl kz) ?_
    show own_Go p e below s _ _ (T14.setTop (mkF m 188 #[.val (.int p0), .val (.int p1), .val (.int p2), .val (.int (1 : Int32)), .val (.ref w0), .val (.ref b3), .val (.ref b10), .val (.int I), .val (.int ((6 : Int32) - (1 : Int32))), .unset] [(.ref b3), (.int (5 : Int32))]))
    refine own_by (fun tz kz => XS.iload X14.here hx rfl (hb hby at_188) rfl  kz) ?_
    show own_Go p e below s _ _ (T14.setTop (mkF m 190 #[.val (.int p0), .val (.int p1), .val (.int p2), .val (.int (1 : Int32)), .val (.ref w0), .val (.ref b3), .val (.ref b10), .val (.int I), .val (.int ((6 : Int32) - (1 : Int32))), .unset] [(.int ((6 : Int32) - (1 : Int32))), (.ref b3), (.int (5 : Int32))]))
    obtain ⟨c21, Ar21, q21, S21, M21, Hh21, G21⟩ := id f13
    have hin21 : ¬ (((6 : Int32) - (1 : Int32)) < 0 ∨ c21.slots.size ≤ (((6 : Int32) - (1 : Int32))).toNatClampNeg) := inb_of S21 ⟨by decide, by decide⟩
    have hat21 := Has.at Hh21 hin21 (v := (.int (5 : Int32))) rfl
    refine own_by (fun tz kz => X14.baloadBytes hx (j := ((6 : Int32) - (1 : Int32))) (v := (.int (5 : Int32))) (by rw [e14]; exact Ar21.1) (State.isArrayOf_alike hZ.alike Ar21.2.1) Ar21.2.2 hin21 hat21 (g := (mkF m 190 #[.val (.int p0), .val (.int p1), .val (.int p2), .val (.int (1 : Int32)), .val (.ref w0), .val (.ref b3), .val (.ref b10), .val (.int I), .val (.int ((6 : Int32) - (1 : Int32))), .unset] [(.int ((6 : Int32) - (1 : Int32))), (.ref b3), (.int (5 : Int32))])) rfl rfl (hb hby at_190) _ kz) ?_
    show own_Go p e below s _ _ (T14.setTop (mkF m 191 #[.val (.int p0), .val (.int p1), .val (.int p2), .val (.int (1 : Int32)), .val (.ref w0), .val (.ref b3), .val (.ref b10), .val (.int I), .val (.int ((6 : Int32) - (1 : Int32))), .unset] [(.int (5 : Int32)), (.int (5 : Int32))]))
    refine own_by (fun tz kz => XS.icmpYes X14.here hx rfl (pc0 := 191) (pc' := 196) rfl (hb hby at_191) rfl (teq (by decide : (5 : Int32) = (5 : Int32))).1 (by decide) (by decide) kz) ?_
    show own_Go p e below s _ _ (T14.setTop (mkF m 196 #[.val (.int p0), .val (.int p1), .val (.int p2), .val (.int (1 : Int32)), .val (.ref w0), .val (.ref b3), .val (.ref b10), .val (.int I), .val (.int ((6 : Int32) - (1 : Int32))), .unset] []))
    refine own_by (fun tz kz => XS.aload X14.here hx rfl (hb hby at_196) rfl rfl kz) ?_
    show own_Go p e below s _ _ (T14.setTop (mkF m 198 #[.val (.int p0), .val (.int p1), .val (.int p2), .val (.int (1 : Int32)), .val (.ref w0), .val (.ref b3), .val (.ref b10), .val (.int I), .val (.int ((6 : Int32) - (1 : Int32))), .unset] [(.ref b10)]))
    refine own_by (fun tz kz => XS.iload X14.here hx rfl (hb hby at_198) rfl  kz) ?_
    show own_Go p e below s _ _ (T14.setTop (mkF m 200 #[.val (.int p0), .val (.int p1), .val (.int p2), .val (.int (1 : Int32)), .val (.ref w0), .val (.ref b3), .val (.ref b10), .val (.int I), .val (.int ((6 : Int32) - (1 : Int32))), .unset] [(.int I), (.ref b10)]))
    refine own_by (fun tz kz => XS.iloadN X14.here hx rfl (hb hby at_200) rfl  kz) ?_
    show own_Go p e below s _ _ (T14.setTop (mkF m 201 #[.val (.int p0), .val (.int p1), .val (.int p2), .val (.int (1 : Int32)), .val (.ref w0), .val (.ref b3), .val (.ref b10), .val (.int I), .val (.int ((6 : Int32) - (1 : Int32))), .unset] [(.int p2), (.int I), (.ref b10)]))
    refine own_by (fun tz kz => XS.i2b X14.here hx rfl (hb hby at_201) rfl kz) ?_
    show own_Go p e below s _ _ (T14.setTop (mkF m 202 #[.val (.int p0), .val (.int p1), .val (.int p2), .val (.int (1 : Int32)), .val (.ref w0), .val (.ref b3), .val (.ref b10), .val (.int I), .val (.int ((6 : Int32) - (1 : Int32))), .unset] [(.int (p2.toInt8.toInt32)), (.int I), (.ref b10)]))
    obtain ⟨c22, Ar22, q22, S22, M22, Hh22, G22⟩ := id Vq10
    have hin22 := inb_of (j := I) S22 hIb
    obtain ⟨T22, h22, X22, e22, W22, st22⟩ := stB X14 hx hZ e14 Ar22 (j := I) hin22 (g := (mkF m 202 #[.val (.int p0), .val (.int p1), .val (.int p2), .val (.int (1 : Int32)), .val (.ref w0), .val (.ref b3), .val (.ref b10), .val (.int I), .val (.int ((6 : Int32) - (1 : Int32))), .unset] [(.int (p2.toInt8.toInt32)), (.int I), (.ref b10)])) rfl rfl (hb hby at_202)
    have ltx22 := Ar22.lt
    have hs22 : h22.size = T10.heap.size := W22.size
    have O22 := O10.wr W22 g_b10
    have N22 := Fr.snoc X22 N14 g_b10
    have K22 := K10.wr W22 (Or.inr sz_b10)
    refine own_by st22 ?_
    show own_Go p e below s _ _ (T22.setTop (mkF m 203 #[.val (.int p0), .val (.int p1), .val (.int p2), .val (.int (1 : Int32)), .val (.ref w0), .val (.ref b3), .val (.ref b10), .val (.int I), .val (.int ((6 : Int32) - (1 : Int32))), .unset] []))
    refine own_by (fun tz kz => XS.aload X22.here hx rfl (hb hby at_203) rfl rfl kz) ?_
    show own_Go p e below s _ _ (T22.setTop (mkF m 205 #[.val (.int p0), .val (.int p1), .val (.int p2), .val (.int (1 : Int32)), .val (.ref w0), .val (.ref b3), .val (.ref b10), .val (.int I), .val (.int ((6 : Int32) - (1 : Int32))), .unset] [(.ref w0)]))
    have f23 := (f13.other W22 ne_b3_b10)
    obtain ⟨cq24, kq24, q24a, q24b, q24c⟩ := isOf hZ e22 (E_0.ext O22.2)
    obtain ⟨_, _, ⟨T24, L24, k24, n24⟩, -, X24, ⟨Lc24, hQ24, l24, y24, z24⟩, st24⟩ := X22.virtualBack hx (y := (⟨"com/example/weft/weft/formats/FileFormat", "getIdentifier", "()[B"⟩ : MethodName)) (z := (⟨"com/example/weft/weft/formats/FileFormat", "getIdentifier", "()[B"⟩ : MethodName)) hown (mvT hZ (hw _ (List.mem_of_getElem? (i := 4) rfl))) (mvT hZ (hw _ (List.mem_of_getElem? (i := 5) rfl))) (notFace_of_selects (args := #[]) (mvT hZ (hw _ (List.mem_of_getElem? (i := 7) rfl)))) (mvT hZ (hw _ (List.mem_of_getElem? (i := 7) rfl))) (mvT hZ (hw _ (List.mem_of_getElem? (i := 6) rfl))) (by decide) (backOf (W := 0) (rm_get0 l Z a0 hw [] w0 ma0 km0 h22 n0 O22 V_0 F_m0 F_v0 E_0) hZ (hw _ (List.mem_of_getElem? (i := 8) rfl)) (hw _ (List.mem_of_getElem? (i := 1) rfl)) (by decide) (by decide)) q24a q24c (g := (mkF m 205 #[.val (.int p0), .val (.int p1), .val (.int p2), .val (.int (1 : Int32)), .val (.ref w0), .val (.ref b3), .val (.ref b10), .val (.int I), .val (.int ((6 : Int32) - (1 : Int32))), .unset] [(.ref w0)])) rfl (by rw [hml]; rfl) (Steps.refl _) (argsL := []) (rest := []) (lenOf pd_0 rfl) rfl (by show 2 * 0 + _ ≤ _; exact Nat.le_of_eq rfl) (hb hby at_205) (fun _ _ => ⟨rfl, e22, (by decide : (1 + 1) + 1 ≤ _), (by decide : (6 + 6) + 6 ≤ _)⟩)
    dsimp only [Pt.U, Pt.locs, Pt.cells, Pt.slots] at X24 l24 y24 z24 st24 hQ24
    rw [l24, y24, z24] at X24
    obtain ⟨b24, k24', rfl, Nq24, g_b24, sz24, Kq24, Vq24⟩ := hQ24
    have N24 := Fr.app N22 Nq24
    have e24 : T24.heap = T24.heap := rfl
    refine own_via st24 ?_
    have O24 := O22.keep Kq24 all0
    have K24 := K22.trans Kq24 all0
    have ne_b3_b24 : b3 ≠ b24 := Nat.ne_of_lt (Nat.lt_of_lt_of_le (Arv.lt f23) sz24)
    have ne_b10_b24 : b10 ≠ b24 := Nat.ne_of_lt (Nat.lt_of_lt_of_le (hs22 ▸ ltx22) sz24)
    have sz_b24 : h0.size ≤ b24 := Nat.le_trans K22.1 sz24
    show own_Go p e below s _ _ (T24.setTop (mkF m 208 #[.val (.int p0), .val (.int p1), .val (.int p2), .val (.int (1 : Int32)), .val (.ref w0), .val (.ref b3), .val (.ref b10), .val (.int I), .val (.int ((6 : Int32) - (1 : Int32))), .unset] [(.ref b24)]))
    refine own_by (fun tz kz => XS.astore X24.here hx rfl (hb hby at_208) rfl rfl (l' := #[.val (.int p0), .val (.int p1), .val (.int p2), .val (.int (1 : Int32)), .val (.ref w0), .val (.ref b3), .val (.ref b10), .val (.int I), .val (.int ((6 : Int32) - (1 : Int32))), .val (.ref b24)]) rfl kz) ?_
    show own_Go p e below s _ _ (T24.setTop (mkF m 210 #[.val (.int p0), .val (.int p1), .val (.int p2), .val (.int (1 : Int32)), .val (.ref w0), .val (.ref b3), .val (.ref b10), .val (.int I), .val (.int ((6 : Int32) - (1 : Int32))), .val (.ref b24)] []))
    refine own_by (fun tz kz => XS.aload X24.here hx rfl (hb hby at_210) rfl rfl kz) ?_
    show own_Go p e below s _ _ (T24.setTop (mkF m 212 #[.val (.int p0), .val (.int p1), .val (.int p2), .val (.int (1 : Int32)), .val (.ref w0), .val (.ref b3), .val (.ref b10), .val (.int I), .val (.int ((6 : Int32) - (1 : Int32))), .val (.ref b24)] [(.ref b24)]))
    refine own_by (fun tz kz => XS.ifnullNo X24.here hx rfl (hb hby at_212) rfl kz) ?_
    show own_Go p e below s _ _ (T24.setTop (mkF m 215 #[.val (.int p0), .val (.int p1), .val (.int p2), .val (.int (1 : Int32)), .val (.ref w0), .val (.ref b3), .val (.ref b10), .val (.int I), .val (.int ((6 : Int32) - (1 : Int32))), .val (.ref b24)] []))
    refine own_by (fun tz kz => XS.aload X24.here hx rfl (hb hby at_215) rfl rfl kz) ?_
    show own_Go p e below s _ _ (T24.setTop (mkF m 217 #[.val (.int p0), .val (.int p1), .val (.int p2), .val (.int (1 : Int32)), .val (.ref w0), .val (.ref b3), .val (.ref b10), .val (.int I), .val (.int ((6 : Int32) - (1 : Int32))), .val (.ref b24)] [(.ref b24)]))
    refine own_by (fun tz kz => XS.aload X24.here hx rfl (hb hby at_217) rfl rfl kz) ?_
    show own_Go p e below s _ _ (T24.setTop (mkF m 219 #[.val (.int p0), .val (.int p1), .val (.int p2), .val (.int (1 : Int32)), .val (.ref w0), .val (.ref b3), .val (.ref b10), .val (.int I), .val (.int ((6 : Int32) - (1 : Int32))), .val (.ref b24)] [(.ref b10), (.ref b24)]))
    refine own_by (fun tz kz => Jvm.RoadKit.acmp (g := (mkF m 219 #[.val (.int p0), .val (.int p1), .val (.int p2), .val (.int (1 : Int32)), .val (.ref w0), .val (.ref b3), .val (.ref b10), .val (.int I), .val (.int ((6 : Int32) - (1 : Int32))), .val (.ref b24)] [(.ref b10), (.ref b24)])) X24 hx rfl rfl rfl (pc0 := 219) (pc' := 222) (same := false) rfl (hb hby at_219) rfl (decide_eq_false fun q => (Ne.symm ne_b10_b24) (Value.ref.inj q)) (by decide) (by decide) kz) ?_
    show own_Go p e below s _ _ (T24.setTop (mkF m 222 #[.val (.int p0), .val (.int p1), .val (.int p2), .val (.int (1 : Int32)), .val (.ref w0), .val (.ref b3), .val (.ref b10), .val (.int I), .val (.int ((6 : Int32) - (1 : Int32))), .val (.ref b24)] []))
    refine own_by (fun tz kz => XS.aload X24.here hx rfl (hb hby at_222) rfl rfl kz) ?_
    show own_Go p e below s _ _ (T24.setTop (mkF m 224 #[.val (.int p0), .val (.int p1), .val (.int p2), .val (.int (1 : Int32)), .val (.ref w0), .val (.ref b3), .val (.ref b10), .val (.int I), .val (.int ((6 : Int32) - (1 : Int32))), .val (.ref b24)] [(.ref b24)]))
    obtain ⟨c25, Ar25, q25, S25, M25, Hh25, G25⟩ := id Vq24
    refine own_by (fun tz kz => X24.arraylength hx (by rw [e24]; exact Ar25.1) (State.isArrayOf_alike hZ.alike Ar25.2.1) (g := (mkF m 224 #[.val (.int p0), .val (.int p1), .val (.int p2), .val (.int (1 : Int32)), .val (.ref w0), .val (.ref b3), .val (.ref b10), .val (.int I), .val (.int ((6 : Int32) - (1 : Int32))), .val (.ref b24)] [(.ref b24)])) rfl rfl (hb hby at_224) _ kz) ?_
    rw [len_of S25 M25]
    show own_Go p e below s _ _ (T24.setTop (mkF m 225 #[.val (.int p0), .val (.int p1), .val (.int p2), .val (.int (1 : Int32)), .val (.ref w0), .val (.ref b3), .val (.ref b10), .val (.int I), .val (.int ((6 : Int32) - (1 : Int32))), .val (.ref b24)] [(.int (6 : Int32))]))
    refine own_by (fun tz kz => XS.aload X24.here hx rfl (hb hby at_225) rfl rfl kz) ?_
    show own_Go p e below s _ _ (T24.setTop (mkF m 227 #[.val (.int p0), .val (.int p1), .val (.int p2), .val (.int (1 : Int32)), .val (.ref w0), .val (.ref b3), .val (.ref b10), .val (.int I), .val (.int ((6 : Int32) - (1 : Int32))), .val (.ref b24)] [(.ref b3), (.int (6 : Int32))]))
    have f27 := (f23.keep Kq24 nin0)
    obtain ⟨c26, Ar26, q26, S26, M26, Hh26, G26⟩ := id f27
    refine own_by (fun tz kz => X24.arraylength hx (by rw [e24]; exact Ar26.1) (State.isArrayOf_alike hZ.alike Ar26.2.1) (g := (mkF m 227 #[.val (.int p0), .val (.int p1), .val (.int p2), .val (.int (1 : Int32)), .val (.ref w0), .val (.ref b3), .val (.ref b10), .val (.int I), .val (.int ((6 : Int32) - (1 : Int32))), .val (.ref b24)] [(.ref b3), (.int (6 : Int32))])) rfl rfl (hb hby at_227) _ kz) ?_
    rw [len_of S26 M26]
    show own_Go p e below s _ _ (T24.setTop (mkF m 228 #[.val (.int p0), .val (.int p1), .val (.int p2), .val (.int (1 : Int32)), .val (.ref w0), .val (.ref b3), .val (.ref b10), .val (.int I), .val (.int ((6 : Int32) - (1 : Int32))), .val (.ref b24)] [(.int (6 : Int32)), (.int (6 : Int32))]))
    refine own_by (fun tz kz => XS.icmpYes X24.here hx rfl (pc0 := 228) (pc' := 233) rfl (hb hby at_228) rfl (teq (by decide : (6 : Int32) = (6 : Int32))).1 (by decide) (by decide) kz) ?_
    show own_Go p e below s _ _ (T24.setTop (mkF m 233 #[.val (.int p0), .val (.int p1), .val (.int p2), .val (.int (1 : Int32)), .val (.ref w0), .val (.ref b3), .val (.ref b10), .val (.int I), .val (.int ((6 : Int32) - (1 : Int32))), .val (.ref b24)] []))
    refine own_by (fun tz kz => XS.aload X24.here hx rfl (hb hby at_233) rfl rfl kz) ?_
    show own_Go p e below s _ _ (T24.setTop (mkF m 235 #[.val (.int p0), .val (.int p1), .val (.int p2), .val (.int (1 : Int32)), .val (.ref w0), .val (.ref b3), .val (.ref b10), .val (.int I), .val (.int ((6 : Int32) - (1 : Int32))), .val (.ref b24)] [(.ref b24)]))
    refine own_by (fun tz kz => XS.iload X24.here hx rfl (hb hby at_235) rfl  kz) ?_
    show own_Go p e below s _ _ (T24.setTop (mkF m 237 #[.val (.int p0), .val (.int p1), .val (.int p2), .val (.int (1 : Int32)), .val (.ref w0), .val (.ref b3), .val (.ref b10), .val (.int I), .val (.int ((6 : Int32) - (1 : Int32))), .val (.ref b24)] [(.int I), (.ref b24)]))
    obtain ⟨c28, Ar28, q28, S28, M28, Hh28, G28⟩ := id Vq24
    have hin28 : ¬ (I < 0 ∨ c28.slots.size ≤ (I).toNatClampNeg) := inb_of S28 hIb
    have hat28 := Has.at Hh28 hin28 (v := (.int z)) hz
    refine own_by (fun tz kz => X24.baloadBytes hx (j := I) (v := (.int z)) (by rw [e24]; exact Ar28.1) (State.isArrayOf_alike hZ.alike Ar28.2.1) Ar28.2.2 hin28 hat28 (g := (mkF m 237 #[.val (.int p0), .val (.int p1), .val (.int p2), .val (.int (1 : Int32)), .val (.ref w0), .val (.ref b3), .val (.ref b10), .val (.int I), .val (.int ((6 : Int32) - (1 : Int32))), .val (.ref b24)] [(.int I), (.ref b24)])) rfl rfl (hb hby at_237) _ kz) ?_
    show own_Go p e below s _ _ (T24.setTop (mkF m 238 #[.val (.int p0), .val (.int p1), .val (.int p2), .val (.int (1 : Int32)), .val (.ref w0), .val (.ref b3), .val (.ref b10), .val (.int I), .val (.int ((6 : Int32) - (1 : Int32))), .val (.ref b24)] [(.int z)]))
    refine own_by (fun tz kz => XS.aload X24.here hx rfl (hb hby at_238) rfl rfl kz) ?_
    show own_Go p e below s _ _ (T24.setTop (mkF m 240 #[.val (.int p0), .val (.int p1), .val (.int p2), .val (.int (1 : Int32)), .val (.ref w0), .val (.ref b3), .val (.ref b10), .val (.int I), .val (.int ((6 : Int32) - (1 : Int32))), .val (.ref b24)] [(.ref b3), (.int z)]))
    refine own_by (fun tz kz => XS.iload X24.here hx rfl (hb hby at_240) rfl  kz) ?_
    show own_Go p e below s _ _ (T24.setTop (mkF m 242 #[.val (.int p0), .val (.int p1), .val (.int p2), .val (.int (1 : Int32)), .val (.ref w0), .val (.ref b3), .val (.ref b10), .val (.int I), .val (.int ((6 : Int32) - (1 : Int32))), .val (.ref b24)] [(.int I), (.ref b3), (.int z)]))
    obtain ⟨c29, Ar29, q29, S29, M29, Hh29, G29⟩ := id f27
    have hin29 : ¬ (I < 0 ∨ c29.slots.size ≤ (I).toNatClampNeg) := inb_of S29 hIb
    have hat29 := Has.at Hh29 hin29 (v := (.int z)) hz
    refine own_by (fun tz kz => X24.baloadBytes hx (j := I) (v := (.int z)) (by rw [e24]; exact Ar29.1) (State.isArrayOf_alike hZ.alike Ar29.2.1) Ar29.2.2 hin29 hat29 (g := (mkF m 242 #[.val (.int p0), .val (.int p1), .val (.int p2), .val (.int (1 : Int32)), .val (.ref w0), .val (.ref b3), .val (.ref b10), .val (.int I), .val (.int ((6 : Int32) - (1 : Int32))), .val (.ref b24)] [(.int I), (.ref b3), (.int z)])) rfl rfl (hb hby at_242) _ kz) ?_
    show own_Go p e below s _ _ (T24.setTop (mkF m 243 #[.val (.int p0), .val (.int p1), .val (.int p2), .val (.int (1 : Int32)), .val (.ref w0), .val (.ref b3), .val (.ref b10), .val (.int I), .val (.int ((6 : Int32) - (1 : Int32))), .val (.ref b24)] [(.int z), (.int z)]))
    refine own_by (fun tz kz => XS.icmpNo X24.here hx rfl (hb hby at_243) rfl (teq rfl).2 kz) ?_
    show own_Go p e below s _ _ (T24.setTop (mkF m 246 #[.val (.int p0), .val (.int p1), .val (.int p2), .val (.int (1 : Int32)), .val (.ref w0), .val (.ref b3), .val (.ref b10), .val (.int I), .val (.int ((6 : Int32) - (1 : Int32))), .val (.ref b24)] []))
    refine own_by (fun tz kz => XS.aload X24.here hx rfl (hb hby at_246) rfl rfl kz) ?_
    show own_Go p e below s _ _ (T24.setTop (mkF m 248 #[.val (.int p0), .val (.int p1), .val (.int p2), .val (.int (1 : Int32)), .val (.ref w0), .val (.ref b3), .val (.ref b10), .val (.int I), .val (.int ((6 : Int32) - (1 : Int32))), .val (.ref b24)] [(.ref b24)]))
    refine own_by (fun tz kz => XS.iload X24.here hx rfl (hb hby at_248) rfl  kz) ?_
    show own_Go p e below s _ _ (T24.setTop (mkF m 250 #[.val (.int p0), .val (.int p1), .val (.int p2), .val (.int (1 : Int32)), .val (.ref w0), .val (.ref b3), .val (.ref b10), .val (.int I), .val (.int ((6 : Int32) - (1 : Int32))), .val (.ref b24)] [(.int ((6 : Int32) - (1 : Int32))), (.ref b24)]))
    obtain ⟨c30, Ar30, q30, S30, M30, Hh30, G30⟩ := id Vq24
    have hin30 : ¬ (((6 : Int32) - (1 : Int32)) < 0 ∨ c30.slots.size ≤ (((6 : Int32) - (1 : Int32))).toNatClampNeg) := inb_of S30 ⟨by decide, by decide⟩
    have hat30 := Has.at Hh30 hin30 (v := (.int (5 : Int32))) rfl
    refine own_by (fun tz kz => X24.baloadBytes hx (j := ((6 : Int32) - (1 : Int32))) (v := (.int (5 : Int32))) (by rw [e24]; exact Ar30.1) (State.isArrayOf_alike hZ.alike Ar30.2.1) Ar30.2.2 hin30 hat30 (g := (mkF m 250 #[.val (.int p0), .val (.int p1), .val (.int p2), .val (.int (1 : Int32)), .val (.ref w0), .val (.ref b3), .val (.ref b10), .val (.int I), .val (.int ((6 : Int32) - (1 : Int32))), .val (.ref b24)] [(.int ((6 : Int32) - (1 : Int32))), (.ref b24)])) rfl rfl (hb hby at_250) _ kz) ?_
    show own_Go p e below s _ _ (T24.setTop (mkF m 251 #[.val (.int p0), .val (.int p1), .val (.int p2), .val (.int (1 : Int32)), .val (.ref w0), .val (.ref b3), .val (.ref b10), .val (.int I), .val (.int ((6 : Int32) - (1 : Int32))), .val (.ref b24)] [(.int (5 : Int32))]))
    refine own_by (fun tz kz => XS.aload X24.here hx rfl (hb hby at_251) rfl rfl kz) ?_
    show own_Go p e below s _ _ (T24.setTop (mkF m 253 #[.val (.int p0), .val (.int p1), .val (.int p2), .val (.int (1 : Int32)), .val (.ref w0), .val (.ref b3), .val (.ref b10), .val (.int I), .val (.int ((6 : Int32) - (1 : Int32))), .val (.ref b24)] [(.ref b3), (.int (5 : Int32))]))
    refine own_by (fun tz kz => XS.iload X24.here hx rfl (hb hby at_253) rfl  kz) ?_
    show own_Go p e below s _ _ (T24.setTop (mkF m 255 #[.val (.int p0), .val (.int p1), .val (.int p2), .val (.int (1 : Int32)), .val (.ref w0), .val (.ref b3), .val (.ref b10), .val (.int I), .val (.int ((6 : Int32) - (1 : Int32))), .val (.ref b24)] [(.int ((6 : Int32) - (1 : Int32))), (.ref b3), (.int (5 : Int32))]))
    obtain ⟨c31, Ar31, q31, S31, M31, Hh31, G31⟩ := id f27
    have hin31 : ¬ (((6 : Int32) - (1 : Int32)) < 0 ∨ c31.slots.size ≤ (((6 : Int32) - (1 : Int32))).toNatClampNeg) := inb_of S31 ⟨by decide, by decide⟩
    have hat31 := Has.at Hh31 hin31 (v := (.int (5 : Int32))) rfl
    refine own_by (fun tz kz => X24.baloadBytes hx (j := ((6 : Int32) - (1 : Int32))) (v := (.int (5 : Int32))) (by rw [e24]; exact Ar31.1) (State.isArrayOf_alike hZ.alike Ar31.2.1) Ar31.2.2 hin31 hat31 (g := (mkF m 255 #[.val (.int p0), .val (.int p1), .val (.int p2), .val (.int (1 : Int32)), .val (.ref w0), .val (.ref b3), .val (.ref b10), .val (.int I), .val (.int ((6 : Int32) - (1 : Int32))), .val (.ref b24)] [(.int ((6 : Int32) - (1 : Int32))), (.ref b3), (.int (5 : Int32))])) rfl rfl (hb hby at_255) _ kz) ?_
    show own_Go p e below s _ _ (T24.setTop (mkF m 256 #[.val (.int p0), .val (.int p1), .val (.int p2), .val (.int (1 : Int32)), .val (.ref w0), .val (.ref b3), .val (.ref b10), .val (.int I), .val (.int ((6 : Int32) - (1 : Int32))), .val (.ref b24)] [(.int (5 : Int32)), (.int (5 : Int32))]))
    refine own_by (fun tz kz => XS.icmpNo X24.here hx rfl (hb hby at_256) rfl (teq (by decide : (5 : Int32) = (5 : Int32))).2 kz) ?_
    show own_Go p e below s _ _ (T24.setTop (mkF m 259 #[.val (.int p0), .val (.int p1), .val (.int p2), .val (.int (1 : Int32)), .val (.ref w0), .val (.ref b3), .val (.ref b10), .val (.int I), .val (.int ((6 : Int32) - (1 : Int32))), .val (.ref b24)] []))
    refine own_by (fun tz kz => XS.iconst X24.here hx rfl (hb hby at_259) kz) ?_
    show own_Go p e below s _ _ (T24.setTop (mkF m 260 #[.val (.int p0), .val (.int p1), .val (.int p2), .val (.int (1 : Int32)), .val (.ref w0), .val (.ref b3), .val (.ref b10), .val (.int I), .val (.int ((6 : Int32) - (1 : Int32))), .val (.ref b24)] [(.int (1 : Int32))]))
    refine own_by (fun tz kz => XS.goto X24.here hx rfl (pc0 := 260) (pc' := 264) rfl (hb hby at_260) (by decide) (by decide) kz) ?_
    show own_Go p e below s _ _ (T24.setTop (mkF m 264 #[.val (.int p0), .val (.int p1), .val (.int p2), .val (.int (1 : Int32)), .val (.ref w0), .val (.ref b3), .val (.ref b10), .val (.int I), .val (.int ((6 : Int32) - (1 : Int32))), .val (.ref b24)] [(.int (1 : Int32))]))
    refine own_retI X24 hx hlk (t := .boolean) hret (by simp) rfl (hb hby at_264) ?_ (by decide) (by decide)
    exact ⟨rfl, N24⟩
  · refine own_by (fun tz kz => XS.ifYes X0.here hx rfl (pc0 := 3) (pc' := 10) rfl (hb hby at_3) rfl ((if0 _ _).trans (feq hc3_1).2) (by decide) (by decide) kz) ?_
    show own_Go p e below s _ _ (s₁.setTop (mkF m 10 #[.val (.int p0), .val (.int p1), .val (.int p2), .unset, .unset, .unset, .unset, .unset, .unset, .unset] []))
    refine own_by (fun tz kz => XS.iconst X0.here hx rfl (hb hby at_10) kz) ?_
    show own_Go p e below s _ _ (s₁.setTop (mkF m 11 #[.val (.int p0), .val (.int p1), .val (.int p2), .unset, .unset, .unset, .unset, .unset, .unset, .unset] [(.int (0 : Int32))]))
    refine own_by (fun tz kz => XS.istoreN X0.here hx rfl (hb hby at_11) rfl (l' := #[.val (.int p0), .val (.int p1), .val (.int p2), .val (.int (0 : Int32)), .unset, .unset, .unset, .unset, .unset, .unset]) rfl kz) ?_
    show own_Go p e below s _ _ (s₁.setTop (mkF m 12 #[.val (.int p0), .val (.int p1), .val (.int p2), .val (.int (0 : Int32)), .unset, .unset, .unset, .unset, .unset, .unset] []))
    refine own_by (fun tz kz => XS.iloadN X0.here hx rfl (hb hby at_12) rfl  kz) ?_
    show own_Go p e below s _ _ (s₁.setTop (mkF m 13 #[.val (.int p0), .val (.int p1), .val (.int p2), .val (.int (0 : Int32)), .unset, .unset, .unset, .unset, .unset, .unset] [(.int (0 : Int32))]))
    refine own_by (fun tz kz => XS.ifYes X0.here hx rfl (pc0 := 13) (pc' := 22) rfl (hb hby at_13) rfl ((if0 _ _).trans (teq (by decide : (0 : Int32) = (0 : Int32))).1) (by decide) (by decide) kz) ?_
    show own_Go p e below s _ _ (s₁.setTop (mkF m 22 #[.val (.int p0), .val (.int p1), .val (.int p2), .val (.int (0 : Int32)), .unset, .unset, .unset, .unset, .unset, .unset] []))
    obtain ⟨T32, X32, e32, st32⟩ := getS2 X0 hx hZ hown (host := "") (Or.inl (hw _ (List.mem_of_getElem? (i := 32) rfl))) Via.refl e0 (S_1.ext O0.2) (g := (mkF m 22 #[.val (.int p0), .val (.int p1), .val (.int p2), .val (.int (0 : Int32)), .unset, .unset, .unset, .unset, .unset, .unset] [])) rfl (hb hby at_22)
    refine own_by st32 ?_
    show own_Go p e below s _ _ (T32.setTop (mkF m 25 #[.val (.int p0), .val (.int p1), .val (.int p2), .val (.int (0 : Int32)), .unset, .unset, .unset, .unset, .unset, .unset] [(.ref w1)]))
    refine own_by (fun tz kz => XS.astore X32.here hx rfl (hb hby at_25) rfl rfl (l' := #[.val (.int p0), .val (.int p1), .val (.int p2), .val (.int (0 : Int32)), .val (.ref w1), .unset, .unset, .unset, .unset, .unset]) rfl kz) ?_
    show own_Go p e below s _ _ (T32.setTop (mkF m 27 #[.val (.int p0), .val (.int p1), .val (.int p2), .val (.int (0 : Int32)), .val (.ref w1), .unset, .unset, .unset, .unset, .unset] []))
    refine own_by (fun tz kz => XS.iloadN X32.here hx rfl (hb hby at_27) rfl  kz) ?_
    show own_Go p e below s _ _ (T32.setTop (mkF m 28 #[.val (.int p0), .val (.int p1), .val (.int p2), .val (.int (0 : Int32)), .val (.ref w1), .unset, .unset, .unset, .unset, .unset] [(.int (0 : Int32))]))
    refine own_by (fun tz kz => XS.ifYes X32.here hx rfl (pc0 := 28) (pc' := 66) rfl (hb hby at_28) rfl ((if0 _ _).trans (teq (by decide : (0 : Int32) = (0 : Int32))).1) (by decide) (by decide) kz) ?_
    show own_Go p e below s _ _ (T32.setTop (mkF m 66 #[.val (.int p0), .val (.int p1), .val (.int p2), .val (.int (0 : Int32)), .val (.ref w1), .unset, .unset, .unset, .unset, .unset] []))
    refine own_by (fun tz kz => XS.bipush X32.here hx rfl (hb hby at_66) kz) ?_
    show own_Go p e below s _ _ (T32.setTop (mkF m 68 #[.val (.int p0), .val (.int p1), .val (.int p2), .val (.int (0 : Int32)), .val (.ref w1), .unset, .unset, .unset, .unset, .unset] [(.int (8 : Int32))]))
    obtain ⟨T33, h33, k33, X33, e33, E33, A33, st33⟩ := newP X32 hx hZ (hw _ (List.mem_of_getElem? (i := 3) rfl)) e32 (g := (mkF m 68 #[.val (.int p0), .val (.int p1), .val (.int p2), .val (.int (0 : Int32)), .val (.ref w1), .unset, .unset, .unset, .unset, .unset] [(.int (8 : Int32))])) rfl (hb hby at_68) rfl (by decide) (cap := 8) (by decide) (by decide) (by decide) (by decide)
    obtain ⟨b33, g33⟩ : ∃ z, z = h0.size := ⟨_, rfl⟩
    rw [← g33] at A33 st33
    have g_b33 : n0 ≤ b33 := by rw [g33]; exact O0.1 ▸ O0.2.1
    have sz_b33 : h0.size ≤ b33 := by rw [g33]; exact K0.1
    have O33 := O0.ext E33
    have K33 := K0.ext E33
    refine own_by st33 ?_
    have V33 : Arv Z h33 b33 k33 .byte (8 : Int32) [(.int (0 : Int32)), (.int (0 : Int32)), (.int (0 : Int32)), (.int (0 : Int32)), (.int (0 : Int32)), (.int (0 : Int32)), (.int (0 : Int32)), (.int (0 : Int32))] (.int (0 : Int32)) := (Arv.new A33 (by decide)).pad (pad_rep [] (.int (0 : Int32)) 8)
    show own_Go p e below s _ _ (T33.setTop (mkF m 70 #[.val (.int p0), .val (.int p1), .val (.int p2), .val (.int (0 : Int32)), .val (.ref w1), .unset, .unset, .unset, .unset, .unset] [(.ref b33)]))
    refine own_by (fun tz kz => XS.dup X33.here hx rfl (hb hby at_70) rfl rfl kz) ?_
    show own_Go p e below s _ _ (T33.setTop (mkF m 71 #[.val (.int p0), .val (.int p1), .val (.int p2), .val (.int (0 : Int32)), .val (.ref w1), .unset, .unset, .unset, .unset, .unset] [(.ref b33), (.ref b33)]))
    refine own_by (fun tz kz => XS.iconst X33.here hx rfl (hb hby at_71) kz) ?_
    show own_Go p e below s _ _ (T33.setTop (mkF m 72 #[.val (.int p0), .val (.int p1), .val (.int p2), .val (.int (0 : Int32)), .val (.ref w1), .unset, .unset, .unset, .unset, .unset] [(.int (0 : Int32)), (.ref b33), (.ref b33)]))
    refine own_by (fun tz kz => XS.bipush X33.here hx rfl (hb hby at_72) kz) ?_
    show own_Go p e below s _ _ (T33.setTop (mkF m 74 #[.val (.int p0), .val (.int p1), .val (.int p2), .val (.int (0 : Int32)), .val (.ref w1), .unset, .unset, .unset, .unset, .unset] [(.int (97 : Int32)), (.int (0 : Int32)), (.ref b33), (.ref b33)]))
    obtain ⟨c34, Ar34, q34, S34, M34, Hh34, G34⟩ := id V33
    have hin34 : ¬ ((0 : Int32) < 0 ∨ c34.slots.size ≤ ((0 : Int32)).toNatClampNeg) := inb_of S34 ⟨by decide, by decide⟩
    obtain ⟨T34, h34, X34, e34, W34, st34⟩ := stB X33 hx hZ e33 Ar34 (j := (0 : Int32)) hin34 (g := (mkF m 74 #[.val (.int p0), .val (.int p1), .val (.int p2), .val (.int (0 : Int32)), .val (.ref w1), .unset, .unset, .unset, .unset, .unset] [(.int (97 : Int32)), (.int (0 : Int32)), (.ref b33), (.ref b33)])) rfl rfl (hb hby at_74)
    have V34 : Arv Z h34 b33 k33 .byte (8 : Int32) [(.int (97 : Int32)), (.int (0 : Int32)), (.int (0 : Int32)), (.int (0 : Int32)), (.int (0 : Int32)), (.int (0 : Int32)), (.int (0 : Int32)), (.int (0 : Int32))] (.int (0 : Int32)) := Arv.set Ar34 q34 S34 M34 Hh34 G34 rfl W34 0 (by decide) (Nat.le_of_ble_eq_true rfl)
    have O34 := O33.wr W34 g_b33
    have N34 := Fr.snoc X34 N0 g_b33
    have K34 := K33.wr W34 (Or.inr sz_b33)
    refine own_by st34 ?_
    show own_Go p e below s _ _ (T34.setTop (mkF m 75 #[.val (.int p0), .val (.int p1), .val (.int p2), .val (.int (0 : Int32)), .val (.ref w1), .unset, .unset, .unset, .unset, .unset] [(.ref b33)]))
    refine own_by (fun tz kz => XS.dup X34.here hx rfl (hb hby at_75) rfl rfl kz) ?_
    show own_Go p e below s _ _ (T34.setTop (mkF m 76 #[.val (.int p0), .val (.int p1), .val (.int p2), .val (.int (0 : Int32)), .val (.ref w1), .unset, .unset, .unset, .unset, .unset] [(.ref b33), (.ref b33)]))
    refine own_by (fun tz kz => XS.iconst X34.here hx rfl (hb hby at_76) kz) ?_
    show own_Go p e below s _ _ (T34.setTop (mkF m 77 #[.val (.int p0), .val (.int p1), .val (.int p2), .val (.int (0 : Int32)), .val (.ref w1), .unset, .unset, .unset, .unset, .unset] [(.int (1 : Int32)), (.ref b33), (.ref b33)]))
    refine own_by (fun tz kz => XS.bipush X34.here hx rfl (hb hby at_77) kz) ?_
    show own_Go p e below s _ _ (T34.setTop (mkF m 79 #[.val (.int p0), .val (.int p1), .val (.int p2), .val (.int (0 : Int32)), .val (.ref w1), .unset, .unset, .unset, .unset, .unset] [(.int (98 : Int32)), (.int (1 : Int32)), (.ref b33), (.ref b33)]))
    obtain ⟨c35, Ar35, q35, S35, M35, Hh35, G35⟩ := id V34
    have hin35 : ¬ ((1 : Int32) < 0 ∨ c35.slots.size ≤ ((1 : Int32)).toNatClampNeg) := inb_of S35 ⟨by decide, by decide⟩
    obtain ⟨T35, h35, X35, e35, W35, st35⟩ := stB X34 hx hZ e34 Ar35 (j := (1 : Int32)) hin35 (g := (mkF m 79 #[.val (.int p0), .val (.int p1), .val (.int p2), .val (.int (0 : Int32)), .val (.ref w1), .unset, .unset, .unset, .unset, .unset] [(.int (98 : Int32)), (.int (1 : Int32)), (.ref b33), (.ref b33)])) rfl rfl (hb hby at_79)
    have V35 : Arv Z h35 b33 k33 .byte (8 : Int32) [(.int (97 : Int32)), (.int (98 : Int32)), (.int (0 : Int32)), (.int (0 : Int32)), (.int (0 : Int32)), (.int (0 : Int32)), (.int (0 : Int32)), (.int (0 : Int32))] (.int (0 : Int32)) := Arv.set Ar35 q35 S35 M35 Hh35 G35 rfl W35 1 (by decide) (Nat.le_of_ble_eq_true rfl)
    have O35 := O34.wr W35 g_b33
    have N35 := Fr.snoc X35 N34 g_b33
    have K35 := K34.wr W35 (Or.inr sz_b33)
    refine own_by st35 ?_
    show own_Go p e below s _ _ (T35.setTop (mkF m 80 #[.val (.int p0), .val (.int p1), .val (.int p2), .val (.int (0 : Int32)), .val (.ref w1), .unset, .unset, .unset, .unset, .unset] [(.ref b33)]))
    refine own_by (fun tz kz => XS.dup X35.here hx rfl (hb hby at_80) rfl rfl kz) ?_
    show own_Go p e below s _ _ (T35.setTop (mkF m 81 #[.val (.int p0), .val (.int p1), .val (.int p2), .val (.int (0 : Int32)), .val (.ref w1), .unset, .unset, .unset, .unset, .unset] [(.ref b33), (.ref b33)]))
    refine own_by (fun tz kz => XS.iconst X35.here hx rfl (hb hby at_81) kz) ?_
    show own_Go p e below s _ _ (T35.setTop (mkF m 82 #[.val (.int p0), .val (.int p1), .val (.int p2), .val (.int (0 : Int32)), .val (.ref w1), .unset, .unset, .unset, .unset, .unset] [(.int (2 : Int32)), (.ref b33), (.ref b33)]))
    refine own_by (fun tz kz => XS.bipush X35.here hx rfl (hb hby at_82) kz) ?_
    show own_Go p e below s _ _ (T35.setTop (mkF m 84 #[.val (.int p0), .val (.int p1), .val (.int p2), .val (.int (0 : Int32)), .val (.ref w1), .unset, .unset, .unset, .unset, .unset] [(.int (99 : Int32)), (.int (2 : Int32)), (.ref b33), (.ref b33)]))
    obtain ⟨c36, Ar36, q36, S36, M36, Hh36, G36⟩ := id V35
    have hin36 : ¬ ((2 : Int32) < 0 ∨ c36.slots.size ≤ ((2 : Int32)).toNatClampNeg) := inb_of S36 ⟨by decide, by decide⟩
    obtain ⟨T36, h36, X36, e36, W36, st36⟩ := stB X35 hx hZ e35 Ar36 (j := (2 : Int32)) hin36 (g := (mkF m 84 #[.val (.int p0), .val (.int p1), .val (.int p2), .val (.int (0 : Int32)), .val (.ref w1), .unset, .unset, .unset, .unset, .unset] [(.int (99 : Int32)), (.int (2 : Int32)), (.ref b33), (.ref b33)])) rfl rfl (hb hby at_84)
    have V36 : Arv Z h36 b33 k33 .byte (8 : Int32) [(.int (97 : Int32)), (.int (98 : Int32)), (.int (99 : Int32)), (.int (0 : Int32)), (.int (0 : Int32)), (.int (0 : Int32)), (.int (0 : Int32)), (.int (0 : Int32))] (.int (0 : Int32)) := Arv.set Ar36 q36 S36 M36 Hh36 G36 rfl W36 2 (by decide) (Nat.le_of_ble_eq_true rfl)
    have O36 := O35.wr W36 g_b33
    have N36 := Fr.snoc X36 N35 g_b33
    have K36 := K35.wr W36 (Or.inr sz_b33)
    refine own_by st36 ?_
    show own_Go p e below s _ _ (T36.setTop (mkF m 85 #[.val (.int p0), .val (.int p1), .val (.int p2), .val (.int (0 : Int32)), .val (.ref w1), .unset, .unset, .unset, .unset, .unset] [(.ref b33)]))
    refine own_by (fun tz kz => XS.dup X36.here hx rfl (hb hby at_85) rfl rfl kz) ?_
    show own_Go p e below s _ _ (T36.setTop (mkF m 86 #[.val (.int p0), .val (.int p1), .val (.int p2), .val (.int (0 : Int32)), .val (.ref w1), .unset, .unset, .unset, .unset, .unset] [(.ref b33), (.ref b33)]))
    refine own_by (fun tz kz => XS.iconst X36.here hx rfl (hb hby at_86) kz) ?_
    show own_Go p e below s _ _ (T36.setTop (mkF m 87 #[.val (.int p0), .val (.int p1), .val (.int p2), .val (.int (0 : Int32)), .val (.ref w1), .unset, .unset, .unset, .unset, .unset] [(.int (3 : Int32)), (.ref b33), (.ref b33)]))
    refine own_by (fun tz kz => XS.bipush X36.here hx rfl (hb hby at_87) kz) ?_
    show own_Go p e below s _ _ (T36.setTop (mkF m 89 #[.val (.int p0), .val (.int p1), .val (.int p2), .val (.int (0 : Int32)), .val (.ref w1), .unset, .unset, .unset, .unset, .unset] [(.int (114 : Int32)), (.int (3 : Int32)), (.ref b33), (.ref b33)]))
    obtain ⟨c37, Ar37, q37, S37, M37, Hh37, G37⟩ := id V36
    have hin37 : ¬ ((3 : Int32) < 0 ∨ c37.slots.size ≤ ((3 : Int32)).toNatClampNeg) := inb_of S37 ⟨by decide, by decide⟩
    obtain ⟨T37, h37, X37, e37, W37, st37⟩ := stB X36 hx hZ e36 Ar37 (j := (3 : Int32)) hin37 (g := (mkF m 89 #[.val (.int p0), .val (.int p1), .val (.int p2), .val (.int (0 : Int32)), .val (.ref w1), .unset, .unset, .unset, .unset, .unset] [(.int (114 : Int32)), (.int (3 : Int32)), (.ref b33), (.ref b33)])) rfl rfl (hb hby at_89)
    have V37 : Arv Z h37 b33 k33 .byte (8 : Int32) [(.int (97 : Int32)), (.int (98 : Int32)), (.int (99 : Int32)), (.int (114 : Int32)), (.int (0 : Int32)), (.int (0 : Int32)), (.int (0 : Int32)), (.int (0 : Int32))] (.int (0 : Int32)) := Arv.set Ar37 q37 S37 M37 Hh37 G37 rfl W37 3 (by decide) (Nat.le_of_ble_eq_true rfl)
    have O37 := O36.wr W37 g_b33
    have N37 := Fr.snoc X37 N36 g_b33
    have K37 := K36.wr W37 (Or.inr sz_b33)
    refine own_by st37 ?_
    show own_Go p e below s _ _ (T37.setTop (mkF m 90 #[.val (.int p0), .val (.int p1), .val (.int p2), .val (.int (0 : Int32)), .val (.ref w1), .unset, .unset, .unset, .unset, .unset] [(.ref b33)]))
    refine own_by (fun tz kz => XS.dup X37.here hx rfl (hb hby at_90) rfl rfl kz) ?_
    show own_Go p e below s _ _ (T37.setTop (mkF m 91 #[.val (.int p0), .val (.int p1), .val (.int p2), .val (.int (0 : Int32)), .val (.ref w1), .unset, .unset, .unset, .unset, .unset] [(.ref b33), (.ref b33)]))
    refine own_by (fun tz kz => XS.iconst X37.here hx rfl (hb hby at_91) kz) ?_
    show own_Go p e below s _ _ (T37.setTop (mkF m 92 #[.val (.int p0), .val (.int p1), .val (.int p2), .val (.int (0 : Int32)), .val (.ref w1), .unset, .unset, .unset, .unset, .unset] [(.int (4 : Int32)), (.ref b33), (.ref b33)]))
    refine own_by (fun tz kz => XS.bipush X37.here hx rfl (hb hby at_92) kz) ?_
    show own_Go p e below s _ _ (T37.setTop (mkF m 94 #[.val (.int p0), .val (.int p1), .val (.int p2), .val (.int (0 : Int32)), .val (.ref w1), .unset, .unset, .unset, .unset, .unset] [(.int (121 : Int32)), (.int (4 : Int32)), (.ref b33), (.ref b33)]))
    obtain ⟨c38, Ar38, q38, S38, M38, Hh38, G38⟩ := id V37
    have hin38 : ¬ ((4 : Int32) < 0 ∨ c38.slots.size ≤ ((4 : Int32)).toNatClampNeg) := inb_of S38 ⟨by decide, by decide⟩
    obtain ⟨T38, h38, X38, e38, W38, st38⟩ := stB X37 hx hZ e37 Ar38 (j := (4 : Int32)) hin38 (g := (mkF m 94 #[.val (.int p0), .val (.int p1), .val (.int p2), .val (.int (0 : Int32)), .val (.ref w1), .unset, .unset, .unset, .unset, .unset] [(.int (121 : Int32)), (.int (4 : Int32)), (.ref b33), (.ref b33)])) rfl rfl (hb hby at_94)
    have V38 : Arv Z h38 b33 k33 .byte (8 : Int32) [(.int (97 : Int32)), (.int (98 : Int32)), (.int (99 : Int32)), (.int (114 : Int32)), (.int (121 : Int32)), (.int (0 : Int32)), (.int (0 : Int32)), (.int (0 : Int32))] (.int (0 : Int32)) := Arv.set Ar38 q38 S38 M38 Hh38 G38 rfl W38 4 (by decide) (Nat.le_of_ble_eq_true rfl)
    have O38 := O37.wr W38 g_b33
    have N38 := Fr.snoc X38 N37 g_b33
    have K38 := K37.wr W38 (Or.inr sz_b33)
    refine own_by st38 ?_
    show own_Go p e below s _ _ (T38.setTop (mkF m 95 #[.val (.int p0), .val (.int p1), .val (.int p2), .val (.int (0 : Int32)), .val (.ref w1), .unset, .unset, .unset, .unset, .unset] [(.ref b33)]))
    refine own_by (fun tz kz => XS.dup X38.here hx rfl (hb hby at_95) rfl rfl kz) ?_
    show own_Go p e below s _ _ (T38.setTop (mkF m 96 #[.val (.int p0), .val (.int p1), .val (.int p2), .val (.int (0 : Int32)), .val (.ref w1), .unset, .unset, .unset, .unset, .unset] [(.ref b33), (.ref b33)]))
    refine own_by (fun tz kz => XS.iconst X38.here hx rfl (hb hby at_96) kz) ?_
    show own_Go p e below s _ _ (T38.setTop (mkF m 97 #[.val (.int p0), .val (.int p1), .val (.int p2), .val (.int (0 : Int32)), .val (.ref w1), .unset, .unset, .unset, .unset, .unset] [(.int (5 : Int32)), (.ref b33), (.ref b33)]))
    refine own_by (fun tz kz => XS.bipush X38.here hx rfl (hb hby at_97) kz) ?_
    show own_Go p e below s _ _ (T38.setTop (mkF m 99 #[.val (.int p0), .val (.int p1), .val (.int p2), .val (.int (0 : Int32)), .val (.ref w1), .unset, .unset, .unset, .unset, .unset] [(.int (112 : Int32)), (.int (5 : Int32)), (.ref b33), (.ref b33)]))
    obtain ⟨c39, Ar39, q39, S39, M39, Hh39, G39⟩ := id V38
    have hin39 : ¬ ((5 : Int32) < 0 ∨ c39.slots.size ≤ ((5 : Int32)).toNatClampNeg) := inb_of S39 ⟨by decide, by decide⟩
    obtain ⟨T39, h39, X39, e39, W39, st39⟩ := stB X38 hx hZ e38 Ar39 (j := (5 : Int32)) hin39 (g := (mkF m 99 #[.val (.int p0), .val (.int p1), .val (.int p2), .val (.int (0 : Int32)), .val (.ref w1), .unset, .unset, .unset, .unset, .unset] [(.int (112 : Int32)), (.int (5 : Int32)), (.ref b33), (.ref b33)])) rfl rfl (hb hby at_99)
    have V39 : Arv Z h39 b33 k33 .byte (8 : Int32) [(.int (97 : Int32)), (.int (98 : Int32)), (.int (99 : Int32)), (.int (114 : Int32)), (.int (121 : Int32)), (.int (112 : Int32)), (.int (0 : Int32)), (.int (0 : Int32))] (.int (0 : Int32)) := Arv.set Ar39 q39 S39 M39 Hh39 G39 rfl W39 5 (by decide) (Nat.le_of_ble_eq_true rfl)
    have O39 := O38.wr W39 g_b33
    have N39 := Fr.snoc X39 N38 g_b33
    have K39 := K38.wr W39 (Or.inr sz_b33)
    refine own_by st39 ?_
    show own_Go p e below s _ _ (T39.setTop (mkF m 100 #[.val (.int p0), .val (.int p1), .val (.int p2), .val (.int (0 : Int32)), .val (.ref w1), .unset, .unset, .unset, .unset, .unset] [(.ref b33)]))
    refine own_by (fun tz kz => XS.dup X39.here hx rfl (hb hby at_100) rfl rfl kz) ?_
    show own_Go p e below s _ _ (T39.setTop (mkF m 101 #[.val (.int p0), .val (.int p1), .val (.int p2), .val (.int (0 : Int32)), .val (.ref w1), .unset, .unset, .unset, .unset, .unset] [(.ref b33), (.ref b33)]))
    refine own_by (fun tz kz => XS.bipush X39.here hx rfl (hb hby at_101) kz) ?_
    show own_Go p e below s _ _ (T39.setTop (mkF m 103 #[.val (.int p0), .val (.int p1), .val (.int p2), .val (.int (0 : Int32)), .val (.ref w1), .unset, .unset, .unset, .unset, .unset] [(.int (6 : Int32)), (.ref b33), (.ref b33)]))
    refine own_by (fun tz kz => XS.bipush X39.here hx rfl (hb hby at_103) kz) ?_
    show own_Go p e below s _ _ (T39.setTop (mkF m 105 #[.val (.int p0), .val (.int p1), .val (.int p2), .val (.int (0 : Int32)), .val (.ref w1), .unset, .unset, .unset, .unset, .unset] [(.int (116 : Int32)), (.int (6 : Int32)), (.ref b33), (.ref b33)]))
    obtain ⟨c40, Ar40, q40, S40, M40, Hh40, G40⟩ := id V39
    have hin40 : ¬ ((6 : Int32) < 0 ∨ c40.slots.size ≤ ((6 : Int32)).toNatClampNeg) := inb_of S40 ⟨by decide, by decide⟩
    obtain ⟨T40, h40, X40, e40, W40, st40⟩ := stB X39 hx hZ e39 Ar40 (j := (6 : Int32)) hin40 (g := (mkF m 105 #[.val (.int p0), .val (.int p1), .val (.int p2), .val (.int (0 : Int32)), .val (.ref w1), .unset, .unset, .unset, .unset, .unset] [(.int (116 : Int32)), (.int (6 : Int32)), (.ref b33), (.ref b33)])) rfl rfl (hb hby at_105)
    have V40 : Arv Z h40 b33 k33 .byte (8 : Int32) [(.int (97 : Int32)), (.int (98 : Int32)), (.int (99 : Int32)), (.int (114 : Int32)), (.int (121 : Int32)), (.int (112 : Int32)), (.int (116 : Int32)), (.int (0 : Int32))] (.int (0 : Int32)) := Arv.set Ar40 q40 S40 M40 Hh40 G40 rfl W40 6 (by decide) (Nat.le_of_ble_eq_true rfl)
    have O40 := O39.wr W40 g_b33
    have N40 := Fr.snoc X40 N39 g_b33
    have K40 := K39.wr W40 (Or.inr sz_b33)
    refine own_by st40 ?_
    show own_Go p e below s _ _ (T40.setTop (mkF m 106 #[.val (.int p0), .val (.int p1), .val (.int p2), .val (.int (0 : Int32)), .val (.ref w1), .unset, .unset, .unset, .unset, .unset] [(.ref b33)]))
    refine own_by (fun tz kz => XS.dup X40.here hx rfl (hb hby at_106) rfl rfl kz) ?_
    show own_Go p e below s _ _ (T40.setTop (mkF m 107 #[.val (.int p0), .val (.int p1), .val (.int p2), .val (.int (0 : Int32)), .val (.ref w1), .unset, .unset, .unset, .unset, .unset] [(.ref b33), (.ref b33)]))
    refine own_by (fun tz kz => XS.bipush X40.here hx rfl (hb hby at_107) kz) ?_
    show own_Go p e below s _ _ (T40.setTop (mkF m 109 #[.val (.int p0), .val (.int p1), .val (.int p2), .val (.int (0 : Int32)), .val (.ref w1), .unset, .unset, .unset, .unset, .unset] [(.int (7 : Int32)), (.ref b33), (.ref b33)]))
    refine own_by (fun tz kz => XS.iconst X40.here hx rfl (hb hby at_109) kz) ?_
    show own_Go p e below s _ _ (T40.setTop (mkF m 110 #[.val (.int p0), .val (.int p1), .val (.int p2), .val (.int (0 : Int32)), .val (.ref w1), .unset, .unset, .unset, .unset, .unset] [(.int (1 : Int32)), (.int (7 : Int32)), (.ref b33), (.ref b33)]))
    obtain ⟨c41, Ar41, q41, S41, M41, Hh41, G41⟩ := id V40
    have hin41 : ¬ ((7 : Int32) < 0 ∨ c41.slots.size ≤ ((7 : Int32)).toNatClampNeg) := inb_of S41 ⟨by decide, by decide⟩
    obtain ⟨T41, h41, X41, e41, W41, st41⟩ := stB X40 hx hZ e40 Ar41 (j := (7 : Int32)) hin41 (g := (mkF m 110 #[.val (.int p0), .val (.int p1), .val (.int p2), .val (.int (0 : Int32)), .val (.ref w1), .unset, .unset, .unset, .unset, .unset] [(.int (1 : Int32)), (.int (7 : Int32)), (.ref b33), (.ref b33)])) rfl rfl (hb hby at_110)
    have V41 : Arv Z h41 b33 k33 .byte (8 : Int32) [(.int (97 : Int32)), (.int (98 : Int32)), (.int (99 : Int32)), (.int (114 : Int32)), (.int (121 : Int32)), (.int (112 : Int32)), (.int (116 : Int32)), (.int (1 : Int32))] (.int (0 : Int32)) := Arv.set Ar41 q41 S41 M41 Hh41 G41 rfl W41 7 (by decide) (Nat.le_of_ble_eq_true rfl)
    have O41 := O40.wr W41 g_b33
    have N41 := Fr.snoc X41 N40 g_b33
    have K41 := K40.wr W41 (Or.inr sz_b33)
    refine own_by st41 ?_
    show own_Go p e below s _ _ (T41.setTop (mkF m 111 #[.val (.int p0), .val (.int p1), .val (.int p2), .val (.int (0 : Int32)), .val (.ref w1), .unset, .unset, .unset, .unset, .unset] [(.ref b33)]))
    refine own_by (fun tz kz => XS.astore X41.here hx rfl (hb hby at_111) rfl rfl (l' := #[.val (.int p0), .val (.int p1), .val (.int p2), .val (.int (0 : Int32)), .val (.ref w1), .val (.ref b33), .unset, .unset, .unset, .unset]) rfl kz) ?_
    show own_Go p e below s _ _ (T41.setTop (mkF m 113 #[.val (.int p0), .val (.int p1), .val (.int p2), .val (.int (0 : Int32)), .val (.ref w1), .val (.ref b33), .unset, .unset, .unset, .unset] []))
    refine own_by (fun tz kz => XS.aload X41.here hx rfl (hb hby at_113) rfl rfl kz) ?_
    show own_Go p e below s _ _ (T41.setTop (mkF m 115 #[.val (.int p0), .val (.int p1), .val (.int p2), .val (.int (0 : Int32)), .val (.ref w1), .val (.ref b33), .unset, .unset, .unset, .unset] [(.ref w1)]))
    obtain ⟨cq42, kq42, q42a, q42b, q42c⟩ := isOf hZ e41 (E_1.ext O41.2)
    obtain ⟨_, _, ⟨T42, L42, k42, n42⟩, -, X42, ⟨Lc42, hQ42, l42, y42, z42⟩, st42⟩ := X41.virtualBack hx (y := (⟨"com/example/weft/weft/formats/FileFormat", "getIdentifier", "()[B"⟩ : MethodName)) (z := (⟨"com/example/weft/weft/formats/FileFormat", "getIdentifier", "()[B"⟩ : MethodName)) hown (mvT hZ (hw _ (List.mem_of_getElem? (i := 4) rfl))) (mvT hZ (hw _ (List.mem_of_getElem? (i := 5) rfl))) (notFace_of_selects (args := #[]) (mvT hZ (hw _ (List.mem_of_getElem? (i := 7) rfl)))) (mvT hZ (hw _ (List.mem_of_getElem? (i := 7) rfl))) (mvT hZ (hw _ (List.mem_of_getElem? (i := 6) rfl))) (by decide) (backOf (W := 0) (rm_get1 l Z a0 hw [] w1 ma1 km1 h41 n0 O41 V_1 F_m1 F_v1 E_1) hZ (hw _ (List.mem_of_getElem? (i := 8) rfl)) (hw _ (List.mem_of_getElem? (i := 1) rfl)) (by decide) (by decide)) q42a q42c (g := (mkF m 115 #[.val (.int p0), .val (.int p1), .val (.int p2), .val (.int (0 : Int32)), .val (.ref w1), .val (.ref b33), .unset, .unset, .unset, .unset] [(.ref w1)])) rfl (by rw [hml]; rfl) (Steps.refl _) (argsL := []) (rest := []) (lenOf pd_0 rfl) rfl (by show 2 * 0 + _ ≤ _; exact Nat.le_of_eq rfl) (hb hby at_115) (fun _ _ => ⟨rfl, e41, (by decide : 1 + 1 ≤ _), (by decide : 8 + 8 ≤ _)⟩)
    dsimp only [Pt.U, Pt.locs, Pt.cells, Pt.slots] at X42 l42 y42 z42 st42 hQ42
    rw [l42, y42, z42] at X42
    obtain ⟨b42, k42', rfl, Nq42, g_b42, sz42, Kq42, Vq42⟩ := hQ42
    have N42 := Fr.app N41 Nq42
    have e42 : T42.heap = T42.heap := rfl
    refine own_via st42 ?_
    have O42 := O41.keep Kq42 all0
    have K42 := K41.trans Kq42 all0
    have ne_b33_b42 : b33 ≠ b42 := Nat.ne_of_lt (Nat.lt_of_lt_of_le (Arv.lt V41) sz42)
    have sz_b42 : h0.size ≤ b42 := Nat.le_trans K41.1 sz42
    show own_Go p e below s _ _ (T42.setTop (mkF m 118 #[.val (.int p0), .val (.int p1), .val (.int p2), .val (.int (0 : Int32)), .val (.ref w1), .val (.ref b33), .unset, .unset, .unset, .unset] [(.ref b42)]))
    refine own_by (fun tz kz => XS.astore X42.here hx rfl (hb hby at_118) rfl rfl (l' := #[.val (.int p0), .val (.int p1), .val (.int p2), .val (.int (0 : Int32)), .val (.ref w1), .val (.ref b33), .val (.ref b42), .unset, .unset, .unset]) rfl kz) ?_
    show own_Go p e below s _ _ (T42.setTop (mkF m 120 #[.val (.int p0), .val (.int p1), .val (.int p2), .val (.int (0 : Int32)), .val (.ref w1), .val (.ref b33), .val (.ref b42), .unset, .unset, .unset] []))
    refine own_by (fun tz kz => XS.aload X42.here hx rfl (hb hby at_120) rfl rfl kz) ?_
    show own_Go p e below s _ _ (T42.setTop (mkF m 122 #[.val (.int p0), .val (.int p1), .val (.int p2), .val (.int (0 : Int32)), .val (.ref w1), .val (.ref b33), .val (.ref b42), .unset, .unset, .unset] [(.ref b42)]))
    refine own_by (fun tz kz => XS.ifnullNo X42.here hx rfl (hb hby at_122) rfl kz) ?_
    show own_Go p e below s _ _ (T42.setTop (mkF m 125 #[.val (.int p0), .val (.int p1), .val (.int p2), .val (.int (0 : Int32)), .val (.ref w1), .val (.ref b33), .val (.ref b42), .unset, .unset, .unset] []))
    refine own_by (fun tz kz => XS.aload X42.here hx rfl (hb hby at_125) rfl rfl kz) ?_
    show own_Go p e below s _ _ (T42.setTop (mkF m 127 #[.val (.int p0), .val (.int p1), .val (.int p2), .val (.int (0 : Int32)), .val (.ref w1), .val (.ref b33), .val (.ref b42), .unset, .unset, .unset] [(.ref b42)]))
    obtain ⟨c43, Ar43, q43, S43, M43, Hh43, G43⟩ := id Vq42
    refine own_by (fun tz kz => X42.arraylength hx (by rw [e42]; exact Ar43.1) (State.isArrayOf_alike hZ.alike Ar43.2.1) (g := (mkF m 127 #[.val (.int p0), .val (.int p1), .val (.int p2), .val (.int (0 : Int32)), .val (.ref w1), .val (.ref b33), .val (.ref b42), .unset, .unset, .unset] [(.ref b42)])) rfl rfl (hb hby at_127) _ kz) ?_
    rw [len_of S43 M43]
    show own_Go p e below s _ _ (T42.setTop (mkF m 128 #[.val (.int p0), .val (.int p1), .val (.int p2), .val (.int (0 : Int32)), .val (.ref w1), .val (.ref b33), .val (.ref b42), .unset, .unset, .unset] [(.int (8 : Int32))]))
    refine own_by (fun tz kz => XS.aload X42.here hx rfl (hb hby at_128) rfl rfl kz) ?_
    show own_Go p e below s _ _ (T42.setTop (mkF m 130 #[.val (.int p0), .val (.int p1), .val (.int p2), .val (.int (0 : Int32)), .val (.ref w1), .val (.ref b33), .val (.ref b42), .unset, .unset, .unset] [(.ref b33), (.int (8 : Int32))]))
    have f45 := (V41.keep Kq42 nin0)
    obtain ⟨c44, Ar44, q44, S44, M44, Hh44, G44⟩ := id f45
    refine own_by (fun tz kz => X42.arraylength hx (by rw [e42]; exact Ar44.1) (State.isArrayOf_alike hZ.alike Ar44.2.1) (g := (mkF m 130 #[.val (.int p0), .val (.int p1), .val (.int p2), .val (.int (0 : Int32)), .val (.ref w1), .val (.ref b33), .val (.ref b42), .unset, .unset, .unset] [(.ref b33), (.int (8 : Int32))])) rfl rfl (hb hby at_130) _ kz) ?_
    rw [len_of S44 M44]
    show own_Go p e below s _ _ (T42.setTop (mkF m 131 #[.val (.int p0), .val (.int p1), .val (.int p2), .val (.int (0 : Int32)), .val (.ref w1), .val (.ref b33), .val (.ref b42), .unset, .unset, .unset] [(.int (8 : Int32)), (.int (8 : Int32))]))
    refine own_by (fun tz kz => XS.icmpYes X42.here hx rfl (pc0 := 131) (pc' := 136) rfl (hb hby at_131) rfl (teq (by decide : (8 : Int32) = (8 : Int32))).1 (by decide) (by decide) kz) ?_
    show own_Go p e below s _ _ (T42.setTop (mkF m 136 #[.val (.int p0), .val (.int p1), .val (.int p2), .val (.int (0 : Int32)), .val (.ref w1), .val (.ref b33), .val (.ref b42), .unset, .unset, .unset] []))
    refine own_by (fun tz kz => XS.aload X42.here hx rfl (hb hby at_136) rfl rfl kz) ?_
    show own_Go p e below s _ _ (T42.setTop (mkF m 138 #[.val (.int p0), .val (.int p1), .val (.int p2), .val (.int (0 : Int32)), .val (.ref w1), .val (.ref b33), .val (.ref b42), .unset, .unset, .unset] [(.ref w1)]))
    obtain ⟨cq46, kq46, q46a, q46b, q46c⟩ := isOf hZ e42 (E_1.ext O42.2)
    obtain ⟨_, _, ⟨T46, L46, k46, n46⟩, -, X46, ⟨Lc46, hQ46, l46, y46, z46⟩, st46⟩ := X42.virtualBack hx (y := (⟨"com/example/weft/weft/formats/FileFormat", "getIdentifierSize", "()I"⟩ : MethodName)) (z := (⟨"com/example/weft/weft/formats/FileFormat", "getIdentifierSize", "()I"⟩ : MethodName)) hown (mvT hZ (hw _ (List.mem_of_getElem? (i := 30) rfl))) (mvT hZ (hw _ (List.mem_of_getElem? (i := 12) rfl))) (notFace_of_selects (args := #[]) (mvT hZ (hw _ (List.mem_of_getElem? (i := 14) rfl)))) (mvT hZ (hw _ (List.mem_of_getElem? (i := 14) rfl))) (mvT hZ (hw _ (List.mem_of_getElem? (i := 13) rfl))) (by decide) (backOf (W := 0) (rm_size1 l Z a0 hw [] w1 ma1 km1 T42.heap n0 O42 V_1 F_m1 F_v1) hZ (hw _ (List.mem_of_getElem? (i := 15) rfl)) (hw _ (List.mem_of_getElem? (i := 1) rfl)) (by decide) (by decide)) q46a q46c (g := (mkF m 138 #[.val (.int p0), .val (.int p1), .val (.int p2), .val (.int (0 : Int32)), .val (.ref w1), .val (.ref b33), .val (.ref b42), .unset, .unset, .unset] [(.ref w1)])) rfl (by rw [hml]; rfl) (Steps.refl _) (argsL := []) (rest := []) (lenOf pd_1 rfl) rfl (by show 2 * 0 + _ ≤ _; exact Nat.le_of_eq rfl) (hb hby at_138) (fun _ _ => ⟨rfl, e42, (by decide : (1 + 1) + 0 ≤ _), (by decide : (8 + 8) + 0 ≤ _)⟩)
    dsimp only [Pt.U, Pt.locs, Pt.cells, Pt.slots] at X46 l46 y46 z46 st46 hQ46
    rw [l46, y46, z46] at X46
    obtain ⟨rfl, Nq46, e46⟩ := hQ46
    have N46 := Fr.app N42 Nq46
    refine own_via st46 ?_
    show own_Go p e below s _ _ (T46.setTop (mkF m 141 #[.val (.int p0), .val (.int p1), .val (.int p2), .val (.int (0 : Int32)), .val (.ref w1), .val (.ref b33), .val (.ref b42), .unset, .unset, .unset] [(.int (8 : Int32))]))
    refine own_by (fun tz kz => XS.aload X46.here hx rfl (hb hby at_141) rfl rfl kz) ?_
    show own_Go p e below s _ _ (T46.setTop (mkF m 143 #[.val (.int p0), .val (.int p1), .val (.int p2), .val (.int (0 : Int32)), .val (.ref w1), .val (.ref b33), .val (.ref b42), .unset, .unset, .unset] [(.ref b33), (.int (8 : Int32))]))
    obtain ⟨c47, Ar47, q47, S47, M47, Hh47, G47⟩ := id f45
    refine own_by (fun tz kz => X46.arraylength hx (by rw [e46]; exact Ar47.1) (State.isArrayOf_alike hZ.alike Ar47.2.1) (g := (mkF m 143 #[.val (.int p0), .val (.int p1), .val (.int p2), .val (.int (0 : Int32)), .val (.ref w1), .val (.ref b33), .val (.ref b42), .unset, .unset, .unset] [(.ref b33), (.int (8 : Int32))])) rfl rfl (hb hby at_143) _ kz) ?_
    rw [len_of S47 M47]
    show own_Go p e below s _ _ (T46.setTop (mkF m 144 #[.val (.int p0), .val (.int p1), .val (.int p2), .val (.int (0 : Int32)), .val (.ref w1), .val (.ref b33), .val (.ref b42), .unset, .unset, .unset] [(.int (8 : Int32)), (.int (8 : Int32))]))
    refine own_by (fun tz kz => XS.icmpYes X46.here hx rfl (pc0 := 144) (pc' := 149) rfl (hb hby at_144) rfl (teq (by decide : (8 : Int32) = (8 : Int32))).1 (by decide) (by decide) kz) ?_
    show own_Go p e below s _ _ (T46.setTop (mkF m 149 #[.val (.int p0), .val (.int p1), .val (.int p2), .val (.int (0 : Int32)), .val (.ref w1), .val (.ref b33), .val (.ref b42), .unset, .unset, .unset] []))
    refine own_by (fun tz kz => XS.iloadN X46.here hx rfl (hb hby at_149) rfl  kz) ?_
    show own_Go p e below s _ _ (T46.setTop (mkF m 150 #[.val (.int p0), .val (.int p1), .val (.int p2), .val (.int (0 : Int32)), .val (.ref w1), .val (.ref b33), .val (.ref b42), .unset, .unset, .unset] [(.int p1)]))
    refine own_by (fun tz kz => X46.ldcInt hx hown (mvT hZ (hw _ (List.mem_of_getElem? (i := 31) rfl))) (g := (mkF m 150 #[.val (.int p0), .val (.int p1), .val (.int p2), .val (.int (0 : Int32)), .val (.ref w1), .val (.ref b33), .val (.ref b42), .unset, .unset, .unset] [(.int p1)])) rfl (hb hby at_150) _ kz) ?_
    show own_Go p e below s _ _ (T46.setTop (mkF m 152 #[.val (.int p0), .val (.int p1), .val (.int p2), .val (.int (0 : Int32)), .val (.ref w1), .val (.ref b33), .val (.ref b42), .unset, .unset, .unset] [(.int (2147483647 : Int32)), (.int p1)]))
    refine own_by (fun tz kz => XS.iand X46.here hx rfl (hb hby at_152) rfl kz) ?_
    show own_Go p e below s _ _ (T46.setTop (mkF m 153 #[.val (.int p0), .val (.int p1), .val (.int p2), .val (.int (0 : Int32)), .val (.ref w1), .val (.ref b33), .val (.ref b42), .unset, .unset, .unset] [(.int (p1 &&& (2147483647 : Int32)))]))
    refine own_by (fun tz kz => XS.aload X46.here hx rfl (hb hby at_153) rfl rfl kz) ?_
    show own_Go p e below s _ _ (T46.setTop (mkF m 155 #[.val (.int p0), .val (.int p1), .val (.int p2), .val (.int (0 : Int32)), .val (.ref w1), .val (.ref b33), .val (.ref b42), .unset, .unset, .unset] [(.ref b33), (.int (p1 &&& (2147483647 : Int32)))]))
    obtain ⟨c48, Ar48, q48, S48, M48, Hh48, G48⟩ := id f45
    refine own_by (fun tz kz => X46.arraylength hx (by rw [e46]; exact Ar48.1) (State.isArrayOf_alike hZ.alike Ar48.2.1) (g := (mkF m 155 #[.val (.int p0), .val (.int p1), .val (.int p2), .val (.int (0 : Int32)), .val (.ref w1), .val (.ref b33), .val (.ref b42), .unset, .unset, .unset] [(.ref b33), (.int (p1 &&& (2147483647 : Int32)))])) rfl rfl (hb hby at_155) _ kz) ?_
    rw [len_of S48 M48]
    show own_Go p e below s _ _ (T46.setTop (mkF m 156 #[.val (.int p0), .val (.int p1), .val (.int p2), .val (.int (0 : Int32)), .val (.ref w1), .val (.ref b33), .val (.ref b42), .unset, .unset, .unset] [(.int (8 : Int32)), (.int (p1 &&& (2147483647 : Int32)))]))
    refine own_by (fun tz kz => iremM X46 hx rfl (hb hby at_156) rfl (by decide) kz) ?_
    show own_Go p e below s _ _ (T46.setTop (mkF m 157 #[.val (.int p0), .val (.int p1), .val (.int p2), .val (.int (0 : Int32)), .val (.ref w1), .val (.ref b33), .val (.ref b42), .unset, .unset, .unset] [(.int ((p1 &&& (2147483647 : Int32)) % (8 : Int32)))]))
    refine own_by (fun tz kz => XS.istore X46.here hx rfl (hb hby at_157) rfl (l' := #[.val (.int p0), .val (.int p1), .val (.int p2), .val (.int (0 : Int32)), .val (.ref w1), .val (.ref b33), .val (.ref b42), .val (.int ((p1 &&& (2147483647 : Int32)) % (8 : Int32))), .unset, .unset]) rfl kz) ?_
    obtain ⟨I, hI⟩ : ∃ I, I = (p1 &&& (2147483647 : Int32)) % (8 : Int32) := ⟨_, rfl⟩
    have hIb : ¬ I < 0 ∧ I < (8 : Int32) := by rw [hI]; exact own_b8 p1
    rw [← hI]
    obtain ⟨z, hz⟩ := own_at8 _ (own_lt8 hIb)
    show own_Go p e below s _ _ (T46.setTop (mkF m 159 #[.val (.int p0), .val (.int p1), .val (.int p2), .val (.int (0 : Int32)), .val (.ref w1), .val (.ref b33), .val (.ref b42), .val (.int I), .unset, .unset] []))
    refine own_by (fun tz kz => XS.aload X46.here hx rfl (hb hby at_159) rfl rfl kz) ?_
    show own_Go p e below s _ _ (T46.setTop (mkF m 161 #[.val (.int p0), .val (.int p1), .val (.int p2), .val (.int (0 : Int32)), .val (.ref w1), .val (.ref b33), .val (.ref b42), .val (.int I), .unset, .unset] [(.ref b42)]))
    refine own_by (fun tz kz => XS.iload X46.here hx rfl (hb hby at_161) rfl  kz) ?_
    show own_Go p e below s _ _ (T46.setTop (mkF m 163 #[.val (.int p0), .val (.int p1), .val (.int p2), .val (.int (0 : Int32)), .val (.ref w1), .val (.ref b33), .val (.ref b42), .val (.int I), .unset, .unset] [(.int I), (.ref b42)]))
    obtain ⟨c49, Ar49, q49, S49, M49, Hh49, G49⟩ := id Vq42
    have hin49 : ¬ (I < 0 ∨ c49.slots.size ≤ (I).toNatClampNeg) := inb_of S49 hIb
    have hat49 := Has.at Hh49 hin49 (v := (.int z)) hz
    refine own_by (fun tz kz => X46.baloadBytes hx (j := I) (v := (.int z)) (by rw [e46]; exact Ar49.1) (State.isArrayOf_alike hZ.alike Ar49.2.1) Ar49.2.2 hin49 hat49 (g := (mkF m 163 #[.val (.int p0), .val (.int p1), .val (.int p2), .val (.int (0 : Int32)), .val (.ref w1), .val (.ref b33), .val (.ref b42), .val (.int I), .unset, .unset] [(.int I), (.ref b42)])) rfl rfl (hb hby at_163) _ kz) ?_
    show own_Go p e below s _ _ (T46.setTop (mkF m 164 #[.val (.int p0), .val (.int p1), .val (.int p2), .val (.int (0 : Int32)), .val (.ref w1), .val (.ref b33), .val (.ref b42), .val (.int I), .unset, .unset] [(.int z)]))
    refine own_by (fun tz kz => XS.aload X46.here hx rfl (hb hby at_164) rfl rfl kz) ?_
    show own_Go p e below s _ _ (T46.setTop (mkF m 166 #[.val (.int p0), .val (.int p1), .val (.int p2), .val (.int (0 : Int32)), .val (.ref w1), .val (.ref b33), .val (.ref b42), .val (.int I), .unset, .unset] [(.ref b33), (.int z)]))
    refine own_by (fun tz kz => XS.iload X46.here hx rfl (hb hby at_166) rfl  kz) ?_
    show own_Go p e below s _ _ (T46.setTop (mkF m 168 #[.val (.int p0), .val (.int p1), .val (.int p2), .val (.int (0 : Int32)), .val (.ref w1), .val (.ref b33), .val (.ref b42), .val (.int I), .unset, .unset] [(.int I), (.ref b33), (.int z)]))
    obtain ⟨c50, Ar50, q50, S50, M50, Hh50, G50⟩ := id f45
    have hin50 : ¬ (I < 0 ∨ c50.slots.size ≤ (I).toNatClampNeg) := inb_of S50 hIb
    have hat50 := Has.at Hh50 hin50 (v := (.int z)) hz
    refine own_by (fun tz kz => X46.baloadBytes hx (j := I) (v := (.int z)) (by rw [e46]; exact Ar50.1) (State.isArrayOf_alike hZ.alike Ar50.2.1) Ar50.2.2 hin50 hat50 (g := (mkF m 168 #[.val (.int p0), .val (.int p1), .val (.int p2), .val (.int (0 : Int32)), .val (.ref w1), .val (.ref b33), .val (.ref b42), .val (.int I), .unset, .unset] [(.int I), (.ref b33), (.int z)])) rfl rfl (hb hby at_168) _ kz) ?_
    show own_Go p e below s _ _ (T46.setTop (mkF m 169 #[.val (.int p0), .val (.int p1), .val (.int p2), .val (.int (0 : Int32)), .val (.ref w1), .val (.ref b33), .val (.ref b42), .val (.int I), .unset, .unset] [(.int z), (.int z)]))
    refine own_by (fun tz kz => XS.icmpYes X46.here hx rfl (pc0 := 169) (pc' := 174) rfl (hb hby at_169) rfl (teq rfl).1 (by decide) (by decide) kz) ?_
    show own_Go p e below s _ _ (T46.setTop (mkF m 174 #[.val (.int p0), .val (.int p1), .val (.int p2), .val (.int (0 : Int32)), .val (.ref w1), .val (.ref b33), .val (.ref b42), .val (.int I), .unset, .unset] []))
    refine own_by (fun tz kz => XS.aload X46.here hx rfl (hb hby at_174) rfl rfl kz) ?_
    show own_Go p e below s _ _ (T46.setTop (mkF m 176 #[.val (.int p0), .val (.int p1), .val (.int p2), .val (.int (0 : Int32)), .val (.ref w1), .val (.ref b33), .val (.ref b42), .val (.int I), .unset, .unset] [(.ref b33)]))
    obtain ⟨c51, Ar51, q51, S51, M51, Hh51, G51⟩ := id f45
    refine own_by (fun tz kz => X46.arraylength hx (by rw [e46]; exact Ar51.1) (State.isArrayOf_alike hZ.alike Ar51.2.1) (g := (mkF m 176 #[.val (.int p0), .val (.int p1), .val (.int p2), .val (.int (0 : Int32)), .val (.ref w1), .val (.ref b33), .val (.ref b42), .val (.int I), .unset, .unset] [(.ref b33)])) rfl rfl (hb hby at_176) _ kz) ?_
    rw [len_of S51 M51]
    show own_Go p e below s _ _ (T46.setTop (mkF m 177 #[.val (.int p0), .val (.int p1), .val (.int p2), .val (.int (0 : Int32)), .val (.ref w1), .val (.ref b33), .val (.ref b42), .val (.int I), .unset, .unset] [(.int (8 : Int32))]))
    refine own_by (fun tz kz => XS.iconst X46.here hx rfl (hb hby at_177) kz) ?_
    show own_Go p e below s _ _ (T46.setTop (mkF m 178 #[.val (.int p0), .val (.int p1), .val (.int p2), .val (.int (0 : Int32)), .val (.ref w1), .val (.ref b33), .val (.ref b42), .val (.int I), .unset, .unset] [(.int (1 : Int32)), (.int (8 : Int32))]))
    refine own_by (fun tz kz => XS.isub X46.here hx rfl (hb hby at_178) rfl kz) ?_
    show own_Go p e below s _ _ (T46.setTop (mkF m 179 #[.val (.int p0), .val (.int p1), .val (.int p2), .val (.int (0 : Int32)), .val (.ref w1), .val (.ref b33), .val (.ref b42), .val (.int I), .unset, .unset] [(.int ((8 : Int32) - (1 : Int32)))]))
    refine own_by (fun tz kz => XS.istore X46.here hx rfl (hb hby at_179) rfl (l' := #[.val (.int p0), .val (.int p1), .val (.int p2), .val (.int (0 : Int32)), .val (.ref w1), .val (.ref b33), .val (.ref b42), .val (.int I), .val (.int ((8 : Int32) - (1 : Int32))), .unset]) rfl kz) ?_
    show own_Go p e below s _ _ (T46.setTop (mkF m 181 #[.val (.int p0), .val (.int p1), .val (.int p2), .val (.int (0 : Int32)), .val (.ref w1), .val (.ref b33), .val (.ref b42), .val (.int I), .val (.int ((8 : Int32) - (1 : Int32))), .unset] []))
    refine own_by (fun tz kz => XS.aload X46.here hx rfl (hb hby at_181) rfl rfl kz) ?_
    show own_Go p e below s _ _ (T46.setTop (mkF m 183 #[.val (.int p0), .val (.int p1), .val (.int p2), .val (.int (0 : Int32)), .val (.ref w1), .val (.ref b33), .val (.ref b42), .val (.int I), .val (.int ((8 : Int32) - (1 : Int32))), .unset] [(.ref b42)]))
    refine own_by (fun tz kz => XS.iload X46.here hx rfl (hb hby at_183) rfl  kz) ?_
    show own_Go p e below s _ _ (T46.setTop (mkF m 185 #[.val (.int p0), .val (.int p1), .val (.int p2), .val (.int (0 : Int32)), .val (.ref w1), .val (.ref b33), .val (.ref b42), .val (.int I), .val (.int ((8 : Int32) - (1 : Int32))), .unset] [(.int ((8 : Int32) - (1 : Int32))), (.ref b42)]))
    obtain ⟨c52, Ar52, q52, S52, M52, Hh52, G52⟩ := id Vq42
    have hin52 : ¬ (((8 : Int32) - (1 : Int32)) < 0 ∨ c52.slots.size ≤ (((8 : Int32) - (1 : Int32))).toNatClampNeg) := inb_of S52 ⟨by decide, by decide⟩
    have hat52 := Has.at Hh52 hin52 (v := (.int (1 : Int32))) rfl
    refine own_by (fun tz kz => X46.baloadBytes hx (j := ((8 : Int32) - (1 : Int32))) (v := (.int (1 : Int32))) (by rw [e46]; exact Ar52.1) (State.isArrayOf_alike hZ.alike Ar52.2.1) Ar52.2.2 hin52 hat52 (g := (mkF m 185 #[.val (.int p0), .val (.int p1), .val (.int p2), .val (.int (0 : Int32)), .val (.ref w1), .val (.ref b33), .val (.ref b42), .val (.int I), .val (.int ((8 : Int32) - (1 : Int32))), .unset] [(.int ((8 : Int32) - (1 : Int32))), (.ref b42)])) rfl rfl (hb hby at_185) _ kz) ?_
    show own_Go p e below s _ _ (T46.setTop (mkF m 186 #[.val (.int p0), .val (.int p1), .val (.int p2), .val (.int (0 : Int32)), .val (.ref w1), .val (.ref b33), .val (.ref b42), .val (.int I), .val (.int ((8 : Int32) - (1 : Int32))), .unset] [(.int (1 : Int32))]))
    refine own_by (fun tz kz => XS.aload X46.here hx rfl (hb hby at_186) rfl rfl kz) ?_
    show own_Go p e below s _ _ (T46.setTop (mkF m 188 #[.val (.int p0), .val (.int p1), .val (.int p2), .val (.int (0 : Int32)), .val (.ref w1), .val (.ref b33), .val (.ref b42), .val (.int I), .val (.int ((8 : Int32) - (1 : Int32))), .unset] [(.ref b33), (.int (1 : Int32))]))
    refine own_by (fun tz kz => XS.iload X46.here hx rfl (hb hby at_188) rfl  kz) ?_
    show own_Go p e below s _ _ (T46.setTop (mkF m 190 #[.val (.int p0), .val (.int p1), .val (.int p2), .val (.int (0 : Int32)), .val (.ref w1), .val (.ref b33), .val (.ref b42), .val (.int I), .val (.int ((8 : Int32) - (1 : Int32))), .unset] [(.int ((8 : Int32) - (1 : Int32))), (.ref b33), (.int (1 : Int32))]))
    obtain ⟨c53, Ar53, q53, S53, M53, Hh53, G53⟩ := id f45
    have hin53 : ¬ (((8 : Int32) - (1 : Int32)) < 0 ∨ c53.slots.size ≤ (((8 : Int32) - (1 : Int32))).toNatClampNeg) := inb_of S53 ⟨by decide, by decide⟩
    have hat53 := Has.at Hh53 hin53 (v := (.int (1 : Int32))) rfl
    refine own_by (fun tz kz => X46.baloadBytes hx (j := ((8 : Int32) - (1 : Int32))) (v := (.int (1 : Int32))) (by rw [e46]; exact Ar53.1) (State.isArrayOf_alike hZ.alike Ar53.2.1) Ar53.2.2 hin53 hat53 (g := (mkF m 190 #[.val (.int p0), .val (.int p1), .val (.int p2), .val (.int (0 : Int32)), .val (.ref w1), .val (.ref b33), .val (.ref b42), .val (.int I), .val (.int ((8 : Int32) - (1 : Int32))), .unset] [(.int ((8 : Int32) - (1 : Int32))), (.ref b33), (.int (1 : Int32))])) rfl rfl (hb hby at_190) _ kz) ?_
    show own_Go p e below s _ _ (T46.setTop (mkF m 191 #[.val (.int p0), .val (.int p1), .val (.int p2), .val (.int (0 : Int32)), .val (.ref w1), .val (.ref b33), .val (.ref b42), .val (.int I), .val (.int ((8 : Int32) - (1 : Int32))), .unset] [(.int (1 : Int32)), (.int (1 : Int32))]))
    refine own_by (fun tz kz => XS.icmpYes X46.here hx rfl (pc0 := 191) (pc' := 196) rfl (hb hby at_191) rfl (teq (by decide : (1 : Int32) = (1 : Int32))).1 (by decide) (by decide) kz) ?_
    show own_Go p e below s _ _ (T46.setTop (mkF m 196 #[.val (.int p0), .val (.int p1), .val (.int p2), .val (.int (0 : Int32)), .val (.ref w1), .val (.ref b33), .val (.ref b42), .val (.int I), .val (.int ((8 : Int32) - (1 : Int32))), .unset] []))
    refine own_by (fun tz kz => XS.aload X46.here hx rfl (hb hby at_196) rfl rfl kz) ?_
    show own_Go p e below s _ _ (T46.setTop (mkF m 198 #[.val (.int p0), .val (.int p1), .val (.int p2), .val (.int (0 : Int32)), .val (.ref w1), .val (.ref b33), .val (.ref b42), .val (.int I), .val (.int ((8 : Int32) - (1 : Int32))), .unset] [(.ref b42)]))
    refine own_by (fun tz kz => XS.iload X46.here hx rfl (hb hby at_198) rfl  kz) ?_
    show own_Go p e below s _ _ (T46.setTop (mkF m 200 #[.val (.int p0), .val (.int p1), .val (.int p2), .val (.int (0 : Int32)), .val (.ref w1), .val (.ref b33), .val (.ref b42), .val (.int I), .val (.int ((8 : Int32) - (1 : Int32))), .unset] [(.int I), (.ref b42)]))
    refine own_by (fun tz kz => XS.iloadN X46.here hx rfl (hb hby at_200) rfl  kz) ?_
    show own_Go p e below s _ _ (T46.setTop (mkF m 201 #[.val (.int p0), .val (.int p1), .val (.int p2), .val (.int (0 : Int32)), .val (.ref w1), .val (.ref b33), .val (.ref b42), .val (.int I), .val (.int ((8 : Int32) - (1 : Int32))), .unset] [(.int p2), (.int I), (.ref b42)]))
    refine own_by (fun tz kz => XS.i2b X46.here hx rfl (hb hby at_201) rfl kz) ?_
    show own_Go p e below s _ _ (T46.setTop (mkF m 202 #[.val (.int p0), .val (.int p1), .val (.int p2), .val (.int (0 : Int32)), .val (.ref w1), .val (.ref b33), .val (.ref b42), .val (.int I), .val (.int ((8 : Int32) - (1 : Int32))), .unset] [(.int (p2.toInt8.toInt32)), (.int I), (.ref b42)]))
    obtain ⟨c54, Ar54, q54, S54, M54, Hh54, G54⟩ := id Vq42
    have hin54 := inb_of (j := I) S54 hIb
    obtain ⟨T54, h54, X54, e54, W54, st54⟩ := stB X46 hx hZ e46 Ar54 (j := I) hin54 (g := (mkF m 202 #[.val (.int p0), .val (.int p1), .val (.int p2), .val (.int (0 : Int32)), .val (.ref w1), .val (.ref b33), .val (.ref b42), .val (.int I), .val (.int ((8 : Int32) - (1 : Int32))), .unset] [(.int (p2.toInt8.toInt32)), (.int I), (.ref b42)])) rfl rfl (hb hby at_202)
    have ltx54 := Ar54.lt
    have hs54 : h54.size = T42.heap.size := W54.size
    have O54 := O42.wr W54 g_b42
    have N54 := Fr.snoc X54 N46 g_b42
    have K54 := K42.wr W54 (Or.inr sz_b42)
    refine own_by st54 ?_
    show own_Go p e below s _ _ (T54.setTop (mkF m 203 #[.val (.int p0), .val (.int p1), .val (.int p2), .val (.int (0 : Int32)), .val (.ref w1), .val (.ref b33), .val (.ref b42), .val (.int I), .val (.int ((8 : Int32) - (1 : Int32))), .unset] []))
    refine own_by (fun tz kz => XS.aload X54.here hx rfl (hb hby at_203) rfl rfl kz) ?_
    show own_Go p e below s _ _ (T54.setTop (mkF m 205 #[.val (.int p0), .val (.int p1), .val (.int p2), .val (.int (0 : Int32)), .val (.ref w1), .val (.ref b33), .val (.ref b42), .val (.int I), .val (.int ((8 : Int32) - (1 : Int32))), .unset] [(.ref w1)]))
    have f55 := (f45.other W54 ne_b33_b42)
    obtain ⟨cq56, kq56, q56a, q56b, q56c⟩ := isOf hZ e54 (E_1.ext O54.2)
    obtain ⟨_, _, ⟨T56, L56, k56, n56⟩, -, X56, ⟨Lc56, hQ56, l56, y56, z56⟩, st56⟩ := X54.virtualBack hx (y := (⟨"com/example/weft/weft/formats/FileFormat", "getIdentifier", "()[B"⟩ : MethodName)) (z := (⟨"com/example/weft/weft/formats/FileFormat", "getIdentifier", "()[B"⟩ : MethodName)) hown (mvT hZ (hw _ (List.mem_of_getElem? (i := 4) rfl))) (mvT hZ (hw _ (List.mem_of_getElem? (i := 5) rfl))) (notFace_of_selects (args := #[]) (mvT hZ (hw _ (List.mem_of_getElem? (i := 7) rfl)))) (mvT hZ (hw _ (List.mem_of_getElem? (i := 7) rfl))) (mvT hZ (hw _ (List.mem_of_getElem? (i := 6) rfl))) (by decide) (backOf (W := 0) (rm_get1 l Z a0 hw [] w1 ma1 km1 h54 n0 O54 V_1 F_m1 F_v1 E_1) hZ (hw _ (List.mem_of_getElem? (i := 8) rfl)) (hw _ (List.mem_of_getElem? (i := 1) rfl)) (by decide) (by decide)) q56a q56c (g := (mkF m 205 #[.val (.int p0), .val (.int p1), .val (.int p2), .val (.int (0 : Int32)), .val (.ref w1), .val (.ref b33), .val (.ref b42), .val (.int I), .val (.int ((8 : Int32) - (1 : Int32))), .unset] [(.ref w1)])) rfl (by rw [hml]; rfl) (Steps.refl _) (argsL := []) (rest := []) (lenOf pd_0 rfl) rfl (by show 2 * 0 + _ ≤ _; exact Nat.le_of_eq rfl) (hb hby at_205) (fun _ _ => ⟨rfl, e54, (by decide : (1 + 1) + 1 ≤ _), (by decide : (8 + 8) + 8 ≤ _)⟩)
    dsimp only [Pt.U, Pt.locs, Pt.cells, Pt.slots] at X56 l56 y56 z56 st56 hQ56
    rw [l56, y56, z56] at X56
    obtain ⟨b56, k56', rfl, Nq56, g_b56, sz56, Kq56, Vq56⟩ := hQ56
    have N56 := Fr.app N54 Nq56
    have e56 : T56.heap = T56.heap := rfl
    refine own_via st56 ?_
    have O56 := O54.keep Kq56 all0
    have K56 := K54.trans Kq56 all0
    have ne_b33_b56 : b33 ≠ b56 := Nat.ne_of_lt (Nat.lt_of_lt_of_le (Arv.lt f55) sz56)
    have ne_b42_b56 : b42 ≠ b56 := Nat.ne_of_lt (Nat.lt_of_lt_of_le (hs54 ▸ ltx54) sz56)
    have sz_b56 : h0.size ≤ b56 := Nat.le_trans K54.1 sz56
    show own_Go p e below s _ _ (T56.setTop (mkF m 208 #[.val (.int p0), .val (.int p1), .val (.int p2), .val (.int (0 : Int32)), .val (.ref w1), .val (.ref b33), .val (.ref b42), .val (.int I), .val (.int ((8 : Int32) - (1 : Int32))), .unset] [(.ref b56)]))
    refine own_by (fun tz kz => XS.astore X56.here hx rfl (hb hby at_208) rfl rfl (l' := #[.val (.int p0), .val (.int p1), .val (.int p2), .val (.int (0 : Int32)), .val (.ref w1), .val (.ref b33), .val (.ref b42), .val (.int I), .val (.int ((8 : Int32) - (1 : Int32))), .val (.ref b56)]) rfl kz) ?_
    show own_Go p e below s _ _ (T56.setTop (mkF m 210 #[.val (.int p0), .val (.int p1), .val (.int p2), .val (.int (0 : Int32)), .val (.ref w1), .val (.ref b33), .val (.ref b42), .val (.int I), .val (.int ((8 : Int32) - (1 : Int32))), .val (.ref b56)] []))
    refine own_by (fun tz kz => XS.aload X56.here hx rfl (hb hby at_210) rfl rfl kz) ?_
    show own_Go p e below s _ _ (T56.setTop (mkF m 212 #[.val (.int p0), .val (.int p1), .val (.int p2), .val (.int (0 : Int32)), .val (.ref w1), .val (.ref b33), .val (.ref b42), .val (.int I), .val (.int ((8 : Int32) - (1 : Int32))), .val (.ref b56)] [(.ref b56)]))
    refine own_by (fun tz kz => XS.ifnullNo X56.here hx rfl (hb hby at_212) rfl kz) ?_
    show own_Go p e below s _ _ (T56.setTop (mkF m 215 #[.val (.int p0), .val (.int p1), .val (.int p2), .val (.int (0 : Int32)), .val (.ref w1), .val (.ref b33), .val (.ref b42), .val (.int I), .val (.int ((8 : Int32) - (1 : Int32))), .val (.ref b56)] []))
    refine own_by (fun tz kz => XS.aload X56.here hx rfl (hb hby at_215) rfl rfl kz) ?_
    show own_Go p e below s _ _ (T56.setTop (mkF m 217 #[.val (.int p0), .val (.int p1), .val (.int p2), .val (.int (0 : Int32)), .val (.ref w1), .val (.ref b33), .val (.ref b42), .val (.int I), .val (.int ((8 : Int32) - (1 : Int32))), .val (.ref b56)] [(.ref b56)]))
    refine own_by (fun tz kz => XS.aload X56.here hx rfl (hb hby at_217) rfl rfl kz) ?_
    show own_Go p e below s _ _ (T56.setTop (mkF m 219 #[.val (.int p0), .val (.int p1), .val (.int p2), .val (.int (0 : Int32)), .val (.ref w1), .val (.ref b33), .val (.ref b42), .val (.int I), .val (.int ((8 : Int32) - (1 : Int32))), .val (.ref b56)] [(.ref b42), (.ref b56)]))
    refine own_by (fun tz kz => Jvm.RoadKit.acmp (g := (mkF m 219 #[.val (.int p0), .val (.int p1), .val (.int p2), .val (.int (0 : Int32)), .val (.ref w1), .val (.ref b33), .val (.ref b42), .val (.int I), .val (.int ((8 : Int32) - (1 : Int32))), .val (.ref b56)] [(.ref b42), (.ref b56)])) X56 hx rfl rfl rfl (pc0 := 219) (pc' := 222) (same := false) rfl (hb hby at_219) rfl (decide_eq_false fun q => (Ne.symm ne_b42_b56) (Value.ref.inj q)) (by decide) (by decide) kz) ?_
    show own_Go p e below s _ _ (T56.setTop (mkF m 222 #[.val (.int p0), .val (.int p1), .val (.int p2), .val (.int (0 : Int32)), .val (.ref w1), .val (.ref b33), .val (.ref b42), .val (.int I), .val (.int ((8 : Int32) - (1 : Int32))), .val (.ref b56)] []))
    refine own_by (fun tz kz => XS.aload X56.here hx rfl (hb hby at_222) rfl rfl kz) ?_
    show own_Go p e below s _ _ (T56.setTop (mkF m 224 #[.val (.int p0), .val (.int p1), .val (.int p2), .val (.int (0 : Int32)), .val (.ref w1), .val (.ref b33), .val (.ref b42), .val (.int I), .val (.int ((8 : Int32) - (1 : Int32))), .val (.ref b56)] [(.ref b56)]))
    obtain ⟨c57, Ar57, q57, S57, M57, Hh57, G57⟩ := id Vq56
    refine own_by (fun tz kz => X56.arraylength hx (by rw [e56]; exact Ar57.1) (State.isArrayOf_alike hZ.alike Ar57.2.1) (g := (mkF m 224 #[.val (.int p0), .val (.int p1), .val (.int p2), .val (.int (0 : Int32)), .val (.ref w1), .val (.ref b33), .val (.ref b42), .val (.int I), .val (.int ((8 : Int32) - (1 : Int32))), .val (.ref b56)] [(.ref b56)])) rfl rfl (hb hby at_224) _ kz) ?_
    rw [len_of S57 M57]
    show own_Go p e below s _ _ (T56.setTop (mkF m 225 #[.val (.int p0), .val (.int p1), .val (.int p2), .val (.int (0 : Int32)), .val (.ref w1), .val (.ref b33), .val (.ref b42), .val (.int I), .val (.int ((8 : Int32) - (1 : Int32))), .val (.ref b56)] [(.int (8 : Int32))]))
    refine own_by (fun tz kz => XS.aload X56.here hx rfl (hb hby at_225) rfl rfl kz) ?_
    show own_Go p e below s _ _ (T56.setTop (mkF m 227 #[.val (.int p0), .val (.int p1), .val (.int p2), .val (.int (0 : Int32)), .val (.ref w1), .val (.ref b33), .val (.ref b42), .val (.int I), .val (.int ((8 : Int32) - (1 : Int32))), .val (.ref b56)] [(.ref b33), (.int (8 : Int32))]))
    have f59 := (f55.keep Kq56 nin0)
    obtain ⟨c58, Ar58, q58, S58, M58, Hh58, G58⟩ := id f59
    refine own_by (fun tz kz => X56.arraylength hx (by rw [e56]; exact Ar58.1) (State.isArrayOf_alike hZ.alike Ar58.2.1) (g := (mkF m 227 #[.val (.int p0), .val (.int p1), .val (.int p2), .val (.int (0 : Int32)), .val (.ref w1), .val (.ref b33), .val (.ref b42), .val (.int I), .val (.int ((8 : Int32) - (1 : Int32))), .val (.ref b56)] [(.ref b33), (.int (8 : Int32))])) rfl rfl (hb hby at_227) _ kz) ?_
    rw [len_of S58 M58]
    show own_Go p e below s _ _ (T56.setTop (mkF m 228 #[.val (.int p0), .val (.int p1), .val (.int p2), .val (.int (0 : Int32)), .val (.ref w1), .val (.ref b33), .val (.ref b42), .val (.int I), .val (.int ((8 : Int32) - (1 : Int32))), .val (.ref b56)] [(.int (8 : Int32)), (.int (8 : Int32))]))
    refine own_by (fun tz kz => XS.icmpYes X56.here hx rfl (pc0 := 228) (pc' := 233) rfl (hb hby at_228) rfl (teq (by decide : (8 : Int32) = (8 : Int32))).1 (by decide) (by decide) kz) ?_
    show own_Go p e below s _ _ (T56.setTop (mkF m 233 #[.val (.int p0), .val (.int p1), .val (.int p2), .val (.int (0 : Int32)), .val (.ref w1), .val (.ref b33), .val (.ref b42), .val (.int I), .val (.int ((8 : Int32) - (1 : Int32))), .val (.ref b56)] []))
    refine own_by (fun tz kz => XS.aload X56.here hx rfl (hb hby at_233) rfl rfl kz) ?_
    show own_Go p e below s _ _ (T56.setTop (mkF m 235 #[.val (.int p0), .val (.int p1), .val (.int p2), .val (.int (0 : Int32)), .val (.ref w1), .val (.ref b33), .val (.ref b42), .val (.int I), .val (.int ((8 : Int32) - (1 : Int32))), .val (.ref b56)] [(.ref b56)]))
    refine own_by (fun tz kz => XS.iload X56.here hx rfl (hb hby at_235) rfl  kz) ?_
    show own_Go p e below s _ _ (T56.setTop (mkF m 237 #[.val (.int p0), .val (.int p1), .val (.int p2), .val (.int (0 : Int32)), .val (.ref w1), .val (.ref b33), .val (.ref b42), .val (.int I), .val (.int ((8 : Int32) - (1 : Int32))), .val (.ref b56)] [(.int I), (.ref b56)]))
    obtain ⟨c60, Ar60, q60, S60, M60, Hh60, G60⟩ := id Vq56
    have hin60 : ¬ (I < 0 ∨ c60.slots.size ≤ (I).toNatClampNeg) := inb_of S60 hIb
    have hat60 := Has.at Hh60 hin60 (v := (.int z)) hz
    refine own_by (fun tz kz => X56.baloadBytes hx (j := I) (v := (.int z)) (by rw [e56]; exact Ar60.1) (State.isArrayOf_alike hZ.alike Ar60.2.1) Ar60.2.2 hin60 hat60 (g := (mkF m 237 #[.val (.int p0), .val (.int p1), .val (.int p2), .val (.int (0 : Int32)), .val (.ref w1), .val (.ref b33), .val (.ref b42), .val (.int I), .val (.int ((8 : Int32) - (1 : Int32))), .val (.ref b56)] [(.int I), (.ref b56)])) rfl rfl (hb hby at_237) _ kz) ?_
    show own_Go p e below s _ _ (T56.setTop (mkF m 238 #[.val (.int p0), .val (.int p1), .val (.int p2), .val (.int (0 : Int32)), .val (.ref w1), .val (.ref b33), .val (.ref b42), .val (.int I), .val (.int ((8 : Int32) - (1 : Int32))), .val (.ref b56)] [(.int z)]))
    refine own_by (fun tz kz => XS.aload X56.here hx rfl (hb hby at_238) rfl rfl kz) ?_
    show own_Go p e below s _ _ (T56.setTop (mkF m 240 #[.val (.int p0), .val (.int p1), .val (.int p2), .val (.int (0 : Int32)), .val (.ref w1), .val (.ref b33), .val (.ref b42), .val (.int I), .val (.int ((8 : Int32) - (1 : Int32))), .val (.ref b56)] [(.ref b33), (.int z)]))
    refine own_by (fun tz kz => XS.iload X56.here hx rfl (hb hby at_240) rfl  kz) ?_
    show own_Go p e below s _ _ (T56.setTop (mkF m 242 #[.val (.int p0), .val (.int p1), .val (.int p2), .val (.int (0 : Int32)), .val (.ref w1), .val (.ref b33), .val (.ref b42), .val (.int I), .val (.int ((8 : Int32) - (1 : Int32))), .val (.ref b56)] [(.int I), (.ref b33), (.int z)]))
    obtain ⟨c61, Ar61, q61, S61, M61, Hh61, G61⟩ := id f59
    have hin61 : ¬ (I < 0 ∨ c61.slots.size ≤ (I).toNatClampNeg) := inb_of S61 hIb
    have hat61 := Has.at Hh61 hin61 (v := (.int z)) hz
    refine own_by (fun tz kz => X56.baloadBytes hx (j := I) (v := (.int z)) (by rw [e56]; exact Ar61.1) (State.isArrayOf_alike hZ.alike Ar61.2.1) Ar61.2.2 hin61 hat61 (g := (mkF m 242 #[.val (.int p0), .val (.int p1), .val (.int p2), .val (.int (0 : Int32)), .val (.ref w1), .val (.ref b33), .val (.ref b42), .val (.int I), .val (.int ((8 : Int32) - (1 : Int32))), .val (.ref b56)] [(.int I), (.ref b33), (.int z)])) rfl rfl (hb hby at_242) _ kz) ?_
    show own_Go p e below s _ _ (T56.setTop (mkF m 243 #[.val (.int p0), .val (.int p1), .val (.int p2), .val (.int (0 : Int32)), .val (.ref w1), .val (.ref b33), .val (.ref b42), .val (.int I), .val (.int ((8 : Int32) - (1 : Int32))), .val (.ref b56)] [(.int z), (.int z)]))
    refine own_by (fun tz kz => XS.icmpNo X56.here hx rfl (hb hby at_243) rfl (teq rfl).2 kz) ?_
    show own_Go p e below s _ _ (T56.setTop (mkF m 246 #[.val (.int p0), .val (.int p1), .val (.int p2), .val (.int (0 : Int32)), .val (.ref w1), .val (.ref b33), .val (.ref b42), .val (.int I), .val (.int ((8 : Int32) - (1 : Int32))), .val (.ref b56)] []))
    refine own_by (fun tz kz => XS.aload X56.here hx rfl (hb hby at_246) rfl rfl kz) ?_
    show own_Go p e below s _ _ (T56.setTop (mkF m 248 #[.val (.int p0), .val (.int p1), .val (.int p2), .val (.int (0 : Int32)), .val (.ref w1), .val (.ref b33), .val (.ref b42), .val (.int I), .val (.int ((8 : Int32) - (1 : Int32))), .val (.ref b56)] [(.ref b56)]))
    refine own_by (fun tz kz => XS.iload X56.here hx rfl (hb hby at_248) rfl  kz) ?_
    show own_Go p e below s _ _ (T56.setTop (mkF m 250 #[.val (.int p0), .val (.int p1), .val (.int p2), .val (.int (0 : Int32)), .val (.ref w1), .val (.ref b33), .val (.ref b42), .val (.int I), .val (.int ((8 : Int32) - (1 : Int32))), .val (.ref b56)] [(.int ((8 : Int32) - (1 : Int32))), (.ref b56)]))
    obtain ⟨c62, Ar62, q62, S62, M62, Hh62, G62⟩ := id Vq56
    have hin62 : ¬ (((8 : Int32) - (1 : Int32)) < 0 ∨ c62.slots.size ≤ (((8 : Int32) - (1 : Int32))).toNatClampNeg) := inb_of S62 ⟨by decide, by decide⟩
    have hat62 := Has.at Hh62 hin62 (v := (.int (1 : Int32))) rfl
    refine own_by (fun tz kz => X56.baloadBytes hx (j := ((8 : Int32) - (1 : Int32))) (v := (.int (1 : Int32))) (by rw [e56]; exact Ar62.1) (State.isArrayOf_alike hZ.alike Ar62.2.1) Ar62.2.2 hin62 hat62 (g := (mkF m 250 #[.val (.int p0), .val (.int p1), .val (.int p2), .val (.int (0 : Int32)), .val (.ref w1), .val (.ref b33), .val (.ref b42), .val (.int I), .val (.int ((8 : Int32) - (1 : Int32))), .val (.ref b56)] [(.int ((8 : Int32) - (1 : Int32))), (.ref b56)])) rfl rfl (hb hby at_250) _ kz) ?_
    show own_Go p e below s _ _ (T56.setTop (mkF m 251 #[.val (.int p0), .val (.int p1), .val (.int p2), .val (.int (0 : Int32)), .val (.ref w1), .val (.ref b33), .val (.ref b42), .val (.int I), .val (.int ((8 : Int32) - (1 : Int32))), .val (.ref b56)] [(.int (1 : Int32))]))
    refine own_by (fun tz kz => XS.aload X56.here hx rfl (hb hby at_251) rfl rfl kz) ?_
    show own_Go p e below s _ _ (T56.setTop (mkF m 253 #[.val (.int p0), .val (.int p1), .val (.int p2), .val (.int (0 : Int32)), .val (.ref w1), .val (.ref b33), .val (.ref b42), .val (.int I), .val (.int ((8 : Int32) - (1 : Int32))), .val (.ref b56)] [(.ref b33), (.int (1 : Int32))]))
    refine own_by (fun tz kz => XS.iload X56.here hx rfl (hb hby at_253) rfl  kz) ?_
    show own_Go p e below s _ _ (T56.setTop (mkF m 255 #[.val (.int p0), .val (.int p1), .val (.int p2), .val (.int (0 : Int32)), .val (.ref w1), .val (.ref b33), .val (.ref b42), .val (.int I), .val (.int ((8 : Int32) - (1 : Int32))), .val (.ref b56)] [(.int ((8 : Int32) - (1 : Int32))), (.ref b33), (.int (1 : Int32))]))
    obtain ⟨c63, Ar63, q63, S63, M63, Hh63, G63⟩ := id f59
    have hin63 : ¬ (((8 : Int32) - (1 : Int32)) < 0 ∨ c63.slots.size ≤ (((8 : Int32) - (1 : Int32))).toNatClampNeg) := inb_of S63 ⟨by decide, by decide⟩
    have hat63 := Has.at Hh63 hin63 (v := (.int (1 : Int32))) rfl
    refine own_by (fun tz kz => X56.baloadBytes hx (j := ((8 : Int32) - (1 : Int32))) (v := (.int (1 : Int32))) (by rw [e56]; exact Ar63.1) (State.isArrayOf_alike hZ.alike Ar63.2.1) Ar63.2.2 hin63 hat63 (g := (mkF m 255 #[.val (.int p0), .val (.int p1), .val (.int p2), .val (.int (0 : Int32)), .val (.ref w1), .val (.ref b33), .val (.ref b42), .val (.int I), .val (.int ((8 : Int32) - (1 : Int32))), .val (.ref b56)] [(.int ((8 : Int32) - (1 : Int32))), (.ref b33), (.int (1 : Int32))])) rfl rfl (hb hby at_255) _ kz) ?_
    show own_Go p e below s _ _ (T56.setTop (mkF m 256 #[.val (.int p0), .val (.int p1), .val (.int p2), .val (.int (0 : Int32)), .val (.ref w1), .val (.ref b33), .val (.ref b42), .val (.int I), .val (.int ((8 : Int32) - (1 : Int32))), .val (.ref b56)] [(.int (1 : Int32)), (.int (1 : Int32))]))
    refine own_by (fun tz kz => XS.icmpNo X56.here hx rfl (hb hby at_256) rfl (teq (by decide : (1 : Int32) = (1 : Int32))).2 kz) ?_
    show own_Go p e below s _ _ (T56.setTop (mkF m 259 #[.val (.int p0), .val (.int p1), .val (.int p2), .val (.int (0 : Int32)), .val (.ref w1), .val (.ref b33), .val (.ref b42), .val (.int I), .val (.int ((8 : Int32) - (1 : Int32))), .val (.ref b56)] []))
    refine own_by (fun tz kz => XS.iconst X56.here hx rfl (hb hby at_259) kz) ?_
    show own_Go p e below s _ _ (T56.setTop (mkF m 260 #[.val (.int p0), .val (.int p1), .val (.int p2), .val (.int (0 : Int32)), .val (.ref w1), .val (.ref b33), .val (.ref b42), .val (.int I), .val (.int ((8 : Int32) - (1 : Int32))), .val (.ref b56)] [(.int (1 : Int32))]))
    refine own_by (fun tz kz => XS.goto X56.here hx rfl (pc0 := 260) (pc' := 264) rfl (hb hby at_260) (by decide) (by decide) kz) ?_
    show own_Go p e below s _ _ (T56.setTop (mkF m 264 #[.val (.int p0), .val (.int p1), .val (.int p2), .val (.int (0 : Int32)), .val (.ref w1), .val (.ref b33), .val (.ref b42), .val (.int I), .val (.int ((8 : Int32) - (1 : Int32))), .val (.ref b56)] [(.int (1 : Int32))]))
    refine own_retI X56 hx hlk (t := .boolean) hret (by simp) rfl (hb hby at_264) ?_ (by decide) (by decide)
    exact ⟨rfl, N56⟩
set_option maxRecDepth 65536 in
set_option maxHeartbeats 40000000 in
theorem comes_1 {Post : Tables → Env → Array Value → State → Outcome → State → Prop} (hpost : ∀ tb e args s v u, (limb_1_1.after args s (.returned v) u = true ∧ limb_1_2.after args s (.returned v) u = true ∧ True) → FrameEnd s (.returned v) u (Jvm.fieldLocs frame_1_writes args s ++ Jvm.arrayLocs frame_1_arrays args s ++ Jvm.staticLocs frame_1_statics s) 16 128 → Post tb e args s (.returned v) u) :
    ArmFor flags0 classFile x code maxLocals ret World_1 tables_1 room_1 Calls_1 rest_1 Pre_1 Post := by
  intro l hfl _ _ p e ha hc hk s m args below hf hA hF happ hP
  obtain ⟨hcalls, hrest, hpre⟩ := hP
  obtain ⟨-, -, -, hnamed, -, -, -, hat⟩ := (Spec.applies_iff hf).mp happ
  obtain ⟨hg, hn⟩ := and_e (Cond.before_iff.mp (show (Jvm.Cond.and given_1 narrow_1).before args s = true from hpre))
  obtain ⟨g1a, g1b⟩ := and_e hg
  obtain ⟨g2a, g2b⟩ := and_e g1b
  obtain ⟨g3a, g3b⟩ := and_e g2b
  obtain ⟨w0, w1, w2, rfl⟩ : ∃ w0 w1 w2 : Value, args = #[w0, w1, w2] := by
    have hs : args.size = 3 := by simpa [Cond.value, given_1] using g1a
    obtain ⟨L⟩ := args
    match L, hs with
    | [w0, w1, w2], _ => exact ⟨w0, w1, w2, rfl⟩
  have hw := fun d (hd : d ∈ tables_1) => atoms_spec (ws := Jvm.Cond.code x code maxLocals ret :: tables_1) hat d (List.mem_cons_of_mem _ hd)
  have hfit : Fit s := fun {y c} hc i hi => by
    obtain ⟨ha, rfl⟩ := Array.getElem?_eq_some_iff.mp hc
    have q := List.all_eq_true.mp ((Array.all_eq_true_iff_forall_mem.mp hF) _ (Array.getElem_mem ha)) i (List.mem_range.mpr hi)
    simpa [Array.getElem?_eq_getElem hi] using q
  obtain ⟨i0, ei0⟩ := is_v g2a
  obtain rfl : w0 = (.int i0) := Option.some.inj ei0
  obtain ⟨i1, ei1⟩ := is_v g3a
  obtain rfl : w1 = (.int i1) := Option.some.inj ei1
  obtain ⟨i2, ei2⟩ := is_v g3b
  obtain rfl : w2 = (.int i2) := Option.some.inj ei2
  obtain ⟨m4a, m4b⟩ := and_e hn
  obtain ⟨m5a, m5b⟩ := and_e m4b
  obtain ⟨m6a, m6b⟩ := and_e m5b
  obtain ⟨m7a, m7b⟩ := and_e m6b
  obtain ⟨m8a, m8b⟩ := and_e m7b
  obtain ⟨m9a, m9b⟩ := and_e m8b
  obtain ⟨m10a, m10b⟩ := and_e m9b
  obtain ⟨m11a, m11b⟩ := and_e m10b
  obtain ⟨m12a, m12b⟩ := and_e m11b
  obtain ⟨m13a, m13b⟩ := and_e m12b
  obtain ⟨m14a, m14b⟩ := and_e m13b
  obtain ⟨m15a, m15b⟩ := and_e m14b
  obtain ⟨m16a, m16b⟩ := and_e m15b
  obtain ⟨m17a, m17b⟩ := and_e m16b
  obtain ⟨m18a, m18b⟩ := and_e m17b
  obtain ⟨m19a, m19b⟩ := and_e m18b
  obtain ⟨m20a, m20b⟩ := and_e m19b
  obtain ⟨m21a, m21b⟩ := and_e m20b
  obtain ⟨m22a, m22b⟩ := and_e m21b
  obtain ⟨m23a, m23b⟩ := and_e m22b
  obtain ⟨m24a, m24b⟩ := and_e m23b
  obtain ⟨FileFormat_ALGEBRAICFILE, ev_FileFormat_ALGEBRAICFILE⟩ := exa_v m4a
  have E_FileFormat_ALGEBRAICFILE : Exa s s.heap FileFormat_ALGEBRAICFILE "com/example/weft/weft/formats/FileFormat" := Exa.start ev_FileFormat_ALGEBRAICFILE m4a
  have S_FileFormat_ALGEBRAICFILE : Sta s s.heap "com/example/weft/weft/formats/FileFormat" "ALGEBRAICFILE" "Lcom/example/weft/weft/formats/FileFormat;" (.ref FileFormat_ALGEBRAICFILE) := Sta.start ev_FileFormat_ALGEBRAICFILE (Or.inr ⟨(hw _ (List.mem_of_getElem? (i := 1) rfl)), (hw _ (List.mem_of_getElem? (i := 2) rfl))⟩)
  obtain ⟨FileFormat_ABCRYPT, ev_FileFormat_ABCRYPT⟩ := exa_v m9a
  have E_FileFormat_ABCRYPT : Exa s s.heap FileFormat_ABCRYPT "com/example/weft/weft/formats/FileFormat" := Exa.start ev_FileFormat_ABCRYPT m9a
  have S_FileFormat_ABCRYPT : Sta s s.heap "com/example/weft/weft/formats/FileFormat" "ABCRYPT" "Lcom/example/weft/weft/formats/FileFormat;" (.ref FileFormat_ABCRYPT) := Sta.start ev_FileFormat_ABCRYPT (Or.inr ⟨(hw _ (List.mem_of_getElem? (i := 1) rfl)), (hw _ (List.mem_of_getElem? (i := 33) rfl))⟩)
  have F_FileFormat_ALGEBRAICFILE_version : Fld s s.heap FileFormat_ALGEBRAICFILE "com/example/weft/weft/formats/FileFormat" "version" "I" (.int (5 : Int32)) := Fld.start ((fld_at ev_FileFormat_ALGEBRAICFILE).symm.trans (eqv_i (Term.int_eval (5)) m8a))
  have F_FileFormat_ABCRYPT_version : Fld s s.heap FileFormat_ABCRYPT "com/example/weft/weft/formats/FileFormat" "version" "I" (.int (1 : Int32)) := Fld.start ((fld_at ev_FileFormat_ABCRYPT).symm.trans (eqv_i (Term.int_eval (1)) m13a))
  obtain ⟨FileFormat_ALGEBRAICFILE_magic, ev_FileFormat_ALGEBRAICFILE_magic⟩ := arr_v m5a
  have F_FileFormat_ALGEBRAICFILE_magic : Fld s s.heap FileFormat_ALGEBRAICFILE "com/example/weft/weft/formats/FileFormat" "magic" "[B" (.ref FileFormat_ALGEBRAICFILE_magic) := Fld.start ((fld_at ev_FileFormat_ALGEBRAICFILE).symm.trans ev_FileFormat_ALGEBRAICFILE_magic)
  obtain ⟨c_FileFormat_ALGEBRAICFILE_magic, A_FileFormat_ALGEBRAICFILE_magic⟩ := Arr.start ev_FileFormat_ALGEBRAICFILE_magic m5a
  obtain ⟨_, _, le1, le2, le3⟩ := Term.length_spec (eqv_i (Term.int_eval (5)) m7a)
  cases ev_FileFormat_ALGEBRAICFILE_magic.symm.trans le1
  cases (State.arrayAt?_spec le2).1.symm.trans A_FileFormat_ALGEBRAICFILE_magic.1
  have z_FileFormat_ALGEBRAICFILE_magic : c_FileFormat_ALGEBRAICFILE_magic.slots.size.toInt32 = (5 : Int32) := (Value.int.inj le3).symm
  have l_FileFormat_ALGEBRAICFILE_magic := own_len31 (eqv_i (Term.int_eval (5)) m7a) ev_FileFormat_ALGEBRAICFILE_magic A_FileFormat_ALGEBRAICFILE_magic.1
  have el_FileFormat_ALGEBRAICFILE_magic_0 := (elem_in (eqv_i (Term.int_eval (12)) m14a) ev_FileFormat_ALGEBRAICFILE_magic (Term.int_eval (0)) A_FileFormat_ALGEBRAICFILE_magic.1).2
  have el_FileFormat_ALGEBRAICFILE_magic_1 := (elem_in (eqv_i (Term.int_eval (117)) m15a) ev_FileFormat_ALGEBRAICFILE_magic (Term.int_eval (1)) A_FileFormat_ALGEBRAICFILE_magic.1).2
  have el_FileFormat_ALGEBRAICFILE_magic_2 := (elem_in (eqv_i (Term.int_eval (13)) m16a) ev_FileFormat_ALGEBRAICFILE_magic (Term.int_eval (2)) A_FileFormat_ALGEBRAICFILE_magic.1).2
  have el_FileFormat_ALGEBRAICFILE_magic_3 := (elem_in (eqv_i (Term.int_eval (5)) m17a) ev_FileFormat_ALGEBRAICFILE_magic (Term.int_eval (3)) A_FileFormat_ALGEBRAICFILE_magic.1).2
  have el_FileFormat_ALGEBRAICFILE_magic_4 := (elem_in (eqv_i (Term.int_eval (14)) m18a) ev_FileFormat_ALGEBRAICFILE_magic (Term.int_eval (4)) A_FileFormat_ALGEBRAICFILE_magic.1).2
  have V_FileFormat_ALGEBRAICFILE_magic : Arv s s.heap FileFormat_ALGEBRAICFILE_magic c_FileFormat_ALGEBRAICFILE_magic.cls .byte (5 : Int32) [(.int (12 : Int32)), (.int (117 : Int32)), (.int (13 : Int32)), (.int (5 : Int32)), (.int (14 : Int32))] (.int (0 : Int32)) := Arv.start hfit A_FileFormat_ALGEBRAICFILE_magic l_FileFormat_ALGEBRAICFILE_magic z_FileFormat_ALGEBRAICFILE_magic (by decide) rfl ⟨el_FileFormat_ALGEBRAICFILE_magic_0, el_FileFormat_ALGEBRAICFILE_magic_1, el_FileFormat_ALGEBRAICFILE_magic_2, el_FileFormat_ALGEBRAICFILE_magic_3, el_FileFormat_ALGEBRAICFILE_magic_4, trivial⟩
  obtain ⟨FileFormat_ABCRYPT_magic, ev_FileFormat_ABCRYPT_magic⟩ := arr_v m10a
  have F_FileFormat_ABCRYPT_magic : Fld s s.heap FileFormat_ABCRYPT "com/example/weft/weft/formats/FileFormat" "magic" "[B" (.ref FileFormat_ABCRYPT_magic) := Fld.start ((fld_at ev_FileFormat_ABCRYPT).symm.trans ev_FileFormat_ABCRYPT_magic)
  obtain ⟨c_FileFormat_ABCRYPT_magic, A_FileFormat_ABCRYPT_magic⟩ := Arr.start ev_FileFormat_ABCRYPT_magic m10a
  obtain ⟨_, _, le1, le2, le3⟩ := Term.length_spec (eqv_i (Term.int_eval (7)) m12a)
  cases ev_FileFormat_ABCRYPT_magic.symm.trans le1
  cases (State.arrayAt?_spec le2).1.symm.trans A_FileFormat_ABCRYPT_magic.1
  have z_FileFormat_ABCRYPT_magic : c_FileFormat_ABCRYPT_magic.slots.size.toInt32 = (7 : Int32) := (Value.int.inj le3).symm
  have l_FileFormat_ABCRYPT_magic := own_len31 (eqv_i (Term.int_eval (7)) m12a) ev_FileFormat_ABCRYPT_magic A_FileFormat_ABCRYPT_magic.1
  have el_FileFormat_ABCRYPT_magic_0 := (elem_in (eqv_i (Term.int_eval (97)) m19a) ev_FileFormat_ABCRYPT_magic (Term.int_eval (0)) A_FileFormat_ABCRYPT_magic.1).2
  have el_FileFormat_ABCRYPT_magic_1 := (elem_in (eqv_i (Term.int_eval (98)) m20a) ev_FileFormat_ABCRYPT_magic (Term.int_eval (1)) A_FileFormat_ABCRYPT_magic.1).2
  have el_FileFormat_ABCRYPT_magic_2 := (elem_in (eqv_i (Term.int_eval (99)) m21a) ev_FileFormat_ABCRYPT_magic (Term.int_eval (2)) A_FileFormat_ABCRYPT_magic.1).2
  have el_FileFormat_ABCRYPT_magic_3 := (elem_in (eqv_i (Term.int_eval (114)) m22a) ev_FileFormat_ABCRYPT_magic (Term.int_eval (3)) A_FileFormat_ABCRYPT_magic.1).2
  have el_FileFormat_ABCRYPT_magic_4 := (elem_in (eqv_i (Term.int_eval (121)) m23a) ev_FileFormat_ABCRYPT_magic (Term.int_eval (4)) A_FileFormat_ABCRYPT_magic.1).2
  have el_FileFormat_ABCRYPT_magic_5 := (elem_in (eqv_i (Term.int_eval (112)) m24a) ev_FileFormat_ABCRYPT_magic (Term.int_eval (5)) A_FileFormat_ABCRYPT_magic.1).2
  have el_FileFormat_ABCRYPT_magic_6 := (elem_in (eqv_i (Term.int_eval (116)) m24b) ev_FileFormat_ABCRYPT_magic (Term.int_eval (6)) A_FileFormat_ABCRYPT_magic.1).2
  have V_FileFormat_ABCRYPT_magic : Arv s s.heap FileFormat_ABCRYPT_magic c_FileFormat_ABCRYPT_magic.cls .byte (7 : Int32) [(.int (97 : Int32)), (.int (98 : Int32)), (.int (99 : Int32)), (.int (114 : Int32)), (.int (121 : Int32)), (.int (112 : Int32)), (.int (116 : Int32))] (.int (0 : Int32)) := Arv.start hfit A_FileFormat_ABCRYPT_magic l_FileFormat_ABCRYPT_magic z_FileFormat_ABCRYPT_magic (by decide) rfl ⟨el_FileFormat_ABCRYPT_magic_0, el_FileFormat_ABCRYPT_magic_1, el_FileFormat_ABCRYPT_magic_2, el_FileFormat_ABCRYPT_magic_3, el_FileFormat_ABCRYPT_magic_4, el_FileFormat_ABCRYPT_magic_5, el_FileFormat_ABCRYPT_magic_6, trivial⟩
  obtain ⟨n, o, h1, h2, h3, _, L, rfl, ⟨rfl, N⟩, hq⟩ := rm0 l s _ hw tables_1 i0 i1 i2 FileFormat_ALGEBRAICFILE FileFormat_ABCRYPT FileFormat_ALGEBRAICFILE_magic FileFormat_ABCRYPT_magic c_FileFormat_ALGEBRAICFILE_magic.cls c_FileFormat_ABCRYPT_magic.cls s.heap s.heap.size (Old.start s) S_FileFormat_ALGEBRAICFILE E_FileFormat_ALGEBRAICFILE V_FileFormat_ALGEBRAICFILE_magic F_FileFormat_ALGEBRAICFILE_magic F_FileFormat_ALGEBRAICFILE_version S_FileFormat_ABCRYPT E_FileFormat_ABCRYPT V_FileFormat_ABCRYPT_magic F_FileFormat_ABCRYPT_magic F_FileFormat_ABCRYPT_version p e ha hc hk s m _ below hf ((Spec.applies_iff_loose hf).mp happ).1 ⟨rfl, State.Warmed39.refl s, rfl⟩ trivial
  refine ⟨n, _, h1, h2, h3, hpost _ _ _ _ _ _ ⟨Cond.after_iff.mpr rfl, Cond.after_iff.mpr (eq_i res_at (Term.int_eval (1)) rfl), trivial⟩ ⟨hq.1, hq.2.1, (hq.2.2.sift fun y hy => Or.inr (N y hy)).mono (by decide) (by decide)⟩⟩
theorem main_1_1 : Claimed_1_1 := comes_1 fun _ _ _ _ _ _ h hF => ⟨h.1, hF⟩
theorem main_1_2 : Claimed_1_2 := comes_1 fun _ _ _ _ _ _ h hF => ⟨h.2.1, hF⟩
end Jvm.Pilot.@@N@@
namespace Jvm.Pilot.@@N@@
open Jvm Jvm.ClassFile Sem Op Lib Jvm.Free Jvm.Stand Jvm.Pilot.@@N@@.Jvm.D
/-! MADE BY PROGRAM (witnessworld.py) out of the Statement's table words and the real class files: 15 classes; the members and pool entries that the words name. The judged class is class 1, her method 1. -/
namespace start1
open Jvm.ClassFile
def u (s : String) : CpInfo := .utf8 (stringToUtf16 s)
/-- a pool by its gaps: so many unusable entries, then the entry; so many at the end -/
def gap : Nat → List CpInfo → List CpInfo
  | 0, r => r
  | n + 1, r => .unusable :: gap n r
def poolList (es : List (Nat × CpInfo)) (last : Nat) : List CpInfo := es.foldr (fun e r => gap e.1 (e.2 :: r)) (gap last [])
def pool (es : List (Nat × CpInfo)) (last : Nat) : Array CpInfo := ⟨poolList es last⟩
def fileOf (pool : Array CpInfo) (this : Nat) (attrs : Array Attribute := #[]) (ms : Array MethodInfo := #[]) (fl : Nat := 33) (sup : Nat := 0) (ifs : Array Nat := #[]) (fds : Array FieldInfo := #[]) : ClassFile where
  minorVersion := 0
  majorVersion := 65
  constantPool := pool
  accessFlags := fl
  thisClass := this
  superClass := sup
  interfaces := ifs
  fields := fds
  methods := ms
  attributes := attrs
def plain (name : String) (sup : Option ClassId) : Class where
  name := name
  kind := .ordinary
  loader := none
  accessFlags := 33
  super := sup
  interfaces := #[]
  cf := none
  fields := #[]
  methods := #[]
  instanceTypes := #[]
  staticTypes := #[]
  resolved := #[]
  callSites := []
  init := .initialized
  statics := none
  mirror := none

def pool0 : Array CpInfo := pool [(5, u "<init>"), (0, u "()V"), (1, .class_ 10), (1, u "java/lang/Object")] 113

def k0m0 : Method := { name := "<init>", desc := "()V", sig := { parameters := [], returnType := none }, accessFlags := 1, code := none }
/-- java/lang/Object -/
def k0 : Class := { plain "java/lang/Object" none with
  accessFlags := 33
  interfaces := #[]
  cf := some (fileOf pool0 8 #[] #[{ accessFlags := 1, nameIndex := 5, descriptorIndex := 6, attributes := #[] }] 33 0 #[] #[])
  fields := #[]
  methods := #[k0m0]
  instanceTypes := #[]
  staticTypes := #[]
  resolved := Array.replicate 124 none
  statics := none }

def pool1 : Array CpInfo := pool [(2, .class_ 4), (1, u "java/lang/Object"), (0, u "<init>"), (0, u "()V"), (0, .fieldref 8 9), (0, .class_ 10), (0, .nameAndType 11 12), (0, u "com/example/weft/weft/formats/FileFormat"), (0, u "ALGEBRAICFILE"), (0, u "Lcom/example/weft/weft/formats/FileFormat;"), (0, .fieldref 8 14), (0, .nameAndType 15 12), (0, u "ABCRYPT"), (0, .methodref 8 17), (0, .nameAndType 18 19), (0, u "getIdentifier"), (0, u "()[B"), (0, .methodref 8 21), (0, .nameAndType 22 23), (0, u "getIdentifierSize"), (0, u "()I"), (0, .integer 2147483647), (0, .class_ 26), (0, u "com/example/weft/weft/formats/FileFormatGetIdentifierPinLaw"), (2, u "law"), (0, u "(III)Z")] 5

def k1m0 : Method := { name := "<init>", desc := "()V", sig := { parameters := [], returnType := none }, accessFlags := 1, code := none }
def k1c1 : Code := { maxStack := 4, maxLocals := 10, code := code, exceptionTable := #[], attributes := #[] }
def k1m1 : Method := { name := "law", desc := "(III)Z", sig := { parameters := [.int, .int, .int], returnType := some .boolean }, accessFlags := 9, code := some k1c1 }
/-- com/example/weft/weft/formats/FileFormatGetIdentifierPinLaw -/
def k1 : Class := { plain "com/example/weft/weft/formats/FileFormatGetIdentifierPinLaw" (some 0) with
  accessFlags := 49
  interfaces := #[]
  cf := some (fileOf pool1 25 #[] #[{ accessFlags := 1, nameIndex := 5, descriptorIndex := 6, attributes := #[] }, { accessFlags := 9, nameIndex := 29, descriptorIndex := 30, attributes := #[] }] 49 2 #[] #[])
  fields := #[]
  methods := #[k1m0, k1m1]
  instanceTypes := #[]
  staticTypes := #[]
  resolved := Array.replicate 36 none
  statics := none }

def pool2 : Array CpInfo := pool [(1, .class_ 2), (0, u "java/lang/constant/Constable"), (0, .class_ 4), (0, u "java/lang/Object")] 6

/-- java/lang/constant/Constable -/
def k2 : Class := { plain "java/lang/constant/Constable" (some 0) with
  accessFlags := 1537
  interfaces := #[]
  cf := some (fileOf pool2 1 #[] #[] 1537 3 #[] #[])
  fields := #[]
  methods := #[]
  instanceTypes := #[]
  staticTypes := #[]
  resolved := Array.replicate 11 none
  statics := none }

def pool3 : Array CpInfo := pool [(1, .class_ 2), (0, u "java/lang/Comparable"), (0, .class_ 4), (0, u "java/lang/Object")] 7

/-- java/lang/Comparable -/
def k3 : Class := { plain "java/lang/Comparable" (some 0) with
  accessFlags := 1537
  interfaces := #[]
  cf := some (fileOf pool3 1 #[] #[] 1537 3 #[] #[])
  fields := #[]
  methods := #[]
  instanceTypes := #[]
  staticTypes := #[]
  resolved := Array.replicate 12 none
  statics := none }

def pool4 : Array CpInfo := pool [(1, .class_ 2), (0, u "java/io/Serializable"), (0, .class_ 4), (0, u "java/lang/Object")] 2

/-- java/io/Serializable -/
def k4 : Class := { plain "java/io/Serializable" (some 0) with
  accessFlags := 1537
  interfaces := #[]
  cf := some (fileOf pool4 1 #[] #[] 1537 3 #[] #[])
  fields := #[]
  methods := #[]
  instanceTypes := #[]
  staticTypes := #[]
  resolved := Array.replicate 7 none
  statics := none }

def pool5 : Array CpInfo := pool [(2, .class_ 4), (1, u "java/lang/Enum"), (0, u "name"), (0, u "Ljava/lang/String;"), (2, u "ordinal"), (0, u "I"), (1, .class_ 14), (1, u "java/lang/Object"), (4, u "hash"), (86, .class_ 108), (1, u "java/lang/Enum$EnumDesc"), (2, .class_ 112), (0, u "java/lang/constant/Constable"), (0, .class_ 114), (0, u "java/lang/Comparable"), (0, .class_ 116), (0, u "java/io/Serializable")] 87

/-- java/lang/Enum -/
def k5 : Class := { plain "java/lang/Enum" (some 0) with
  accessFlags := 1057
  interfaces := #[2, 3, 4]
  cf := some (fileOf pool5 2 #[.nestMembers #[106]] #[] 1057 12 #[111, 113, 115] #[{ accessFlags := 18, nameIndex := 5, descriptorIndex := 6, attributes := #[] }, { accessFlags := 18, nameIndex := 9, descriptorIndex := 10, attributes := #[] }, { accessFlags := 2, nameIndex := 19, descriptorIndex := 10, attributes := #[] }])
  fields := #[{ name := "name", type := (.object "java/lang/String"), accessFlags := 18, slot := 0, constantValue := 0 }, { name := "ordinal", type := .int, accessFlags := 18, slot := 1, constantValue := 0 }, { name := "hash", type := .int, accessFlags := 2, slot := 2, constantValue := 0 }]
  methods := #[]
  instanceTypes := #[(.object "java/lang/String"), .int, .int]
  staticTypes := #[]
  resolved := Array.replicate 204 none
  statics := none }

def pool6 : Array CpInfo := pool [(1, .class_ 2), (0, u "com/example/weft/weft/formats/FileFormat"), (2, u "ALGEBRAICFILE"), (0, u "Lcom/example/weft/weft/formats/FileFormat;"), (2, u "ABCRYPT"), (2, u "$VALUES"), (0, u "[Lcom/example/weft/weft/formats/FileFormat;"), (6, .class_ 22), (1, u "java/lang/Enum"), (8, u "name"), (0, u "Ljava/lang/String;"), (0, .fieldref 1 34), (0, .nameAndType 35 36), (0, u "magic"), (0, u "[B"), (0, .fieldref 1 38), (0, .nameAndType 39 40), (0, u "version"), (0, u "I"), (2, u "extension"), (15, u "LONGEST_IDENTIFIER"), (17, .class_ 79), (1, u "java/util/Arrays"), (42, .methodref 1 123), (0, .nameAndType 124 125), (0, u "getIdentifierSize"), (0, u "()I"), (4, .methodref 77 131), (0, .nameAndType 132 133), (0, u "copyOf"), (0, u "([BI)[B"), (94, u "getIdentifier"), (0, u "()[B")] 59

def k6c0 : Code := { maxStack := 3, maxLocals := 2, code := prog_37_method_7_code, exceptionTable := #[], attributes := #[] }
def k6m0 : Method := { name := "getIdentifier", desc := "()[B", sig := { parameters := [], returnType := some (.array .byte) }, accessFlags := 1, code := some k6c0 }
def k6c1 : Code := { maxStack := 2, maxLocals := 1, code := prog_37_method_9_code, exceptionTable := #[], attributes := #[] }
def k6m1 : Method := { name := "getIdentifierSize", desc := "()I", sig := { parameters := [], returnType := some .int }, accessFlags := 1, code := some k6c1 }
/-- com/example/weft/weft/formats/FileFormat -/
def k6 : Class := { plain "com/example/weft/weft/formats/FileFormat" (some 5) with
  accessFlags := 16433
  interfaces := #[]
  cf := some (fileOf pool6 1 #[] #[{ accessFlags := 1, nameIndex := 228, descriptorIndex := 229, attributes := #[] }, { accessFlags := 1, nameIndex := 124, descriptorIndex := 125, attributes := #[] }] 16433 20 #[] #[{ accessFlags := 16409, nameIndex := 5, descriptorIndex := 6, attributes := #[] }, { accessFlags := 16409, nameIndex := 9, descriptorIndex := 6, attributes := #[] }, { accessFlags := 26, nameIndex := 59, descriptorIndex := 40, attributes := #[] }, { accessFlags := 18, nameIndex := 31, descriptorIndex := 32, attributes := #[] }, { accessFlags := 18, nameIndex := 35, descriptorIndex := 36, attributes := #[] }, { accessFlags := 18, nameIndex := 39, descriptorIndex := 40, attributes := #[] }, { accessFlags := 18, nameIndex := 43, descriptorIndex := 32, attributes := #[] }, { accessFlags := 4122, nameIndex := 12, descriptorIndex := 13, attributes := #[] }])
  fields := #[{ name := "ALGEBRAICFILE", type := (.object "com/example/weft/weft/formats/FileFormat"), accessFlags := 16409, slot := 0, constantValue := 0 }, { name := "ABCRYPT", type := (.object "com/example/weft/weft/formats/FileFormat"), accessFlags := 16409, slot := 1, constantValue := 0 }, { name := "LONGEST_IDENTIFIER", type := .int, accessFlags := 26, slot := 2, constantValue := 0 }, { name := "name", type := (.object "java/lang/String"), accessFlags := 18, slot := 3, constantValue := 0 }, { name := "magic", type := (.array .byte), accessFlags := 18, slot := 4, constantValue := 0 }, { name := "version", type := .int, accessFlags := 18, slot := 5, constantValue := 0 }, { name := "extension", type := (.object "java/lang/String"), accessFlags := 18, slot := 6, constantValue := 0 }, { name := "$VALUES", type := (.array (.object "com/example/weft/weft/formats/FileFormat")), accessFlags := 4122, slot := 3, constantValue := 0 }]
  methods := #[k6m0, k6m1]
  instanceTypes := #[(.object "java/lang/String"), .int, .int, (.object "java/lang/String"), (.array .byte), .int, (.object "java/lang/String")]
  staticTypes := #[(.object "com/example/weft/weft/formats/FileFormat"), (.object "com/example/weft/weft/formats/FileFormat"), .int, (.array (.object "com/example/weft/weft/formats/FileFormat"))]
  resolved := Array.replicate 289 none
  statics := some 0 }

def pool7 : Array CpInfo := pool [(2, .class_ 4), (1, u "java/lang/Object"), (0, u "<init>"), (0, u "()V"), (7, .class_ 16), (1, u "java/util/Arrays"), (57, .class_ 76), (1, u "java/util/Arrays$NaturalOrder"), (36, .class_ 115), (1, u "java/util/Arrays$LegacyMergeSort"), (1, u "Z"), (32, .methodref 151 152), (0, .class_ 153), (0, .nameAndType 154 155), (0, u "java/lang/System"), (0, u "arraycopy"), (0, u "(Ljava/lang/Object;ILjava/lang/Object;II)V"), (146, u "copyOf"), (1, .methodref 305 306), (0, .class_ 307), (0, .nameAndType 308 309), (0, u "java/lang/Math"), (0, u "min"), (0, u "(II)I"), (65, .class_ 376), (0, u "java/util/Arrays$ArrayList"), (68, u "$assertionsDisabled"), (269, u "MIN_ARRAY_SORT_GRAN"), (0, u "I"), (2, u "INSERTIONSORT_THRESHOLD"), (149, u "([BI)[B"), (105, .class_ 976), (0, u "java/util/Arrays$ArrayItr")] 52

def k7m0 : Method := { name := "<init>", desc := "()V", sig := { parameters := [], returnType := none }, accessFlags := 2, code := none }
def k7c1 : Code := { maxStack := 6, maxLocals := 3, code := jdk_65_method_121_code, exceptionTable := #[], attributes := #[] }
def k7m1 : Method := { name := "copyOf", desc := "([BI)[B", sig := { parameters := [(.array .byte), .int], returnType := some (.array .byte) }, accessFlags := 9, code := some k7c1 }
/-- java/util/Arrays -/
def k7 : Class := { plain "java/util/Arrays" (some 0) with
  accessFlags := 49
  interfaces := #[]
  cf := some (fileOf pool7 14 #[.nestMembers #[975, 375, 113, 74]] #[{ accessFlags := 2, nameIndex := 5, descriptorIndex := 6, attributes := #[] }, { accessFlags := 9, nameIndex := 302, descriptorIndex := 869, attributes := #[] }] 49 2 #[] #[{ accessFlags := 26, nameIndex := 715, descriptorIndex := 716, attributes := #[] }, { accessFlags := 26, nameIndex := 719, descriptorIndex := 716, attributes := #[] }, { accessFlags := 4120, nameIndex := 445, descriptorIndex := 117, attributes := #[] }])
  fields := #[{ name := "MIN_ARRAY_SORT_GRAN", type := .int, accessFlags := 26, slot := 0, constantValue := 0 }, { name := "INSERTIONSORT_THRESHOLD", type := .int, accessFlags := 26, slot := 1, constantValue := 0 }, { name := "$assertionsDisabled", type := .boolean, accessFlags := 4120, slot := 2, constantValue := 0 }]
  methods := #[k7m0, k7m1]
  instanceTypes := #[]
  staticTypes := #[.int, .int, .boolean]
  resolved := Array.replicate 1029 none
  statics := none }

def pool8 : Array CpInfo := pool [(1, .class_ 2), (0, u "java/lang/Math"), (1, .class_ 6), (1, u "java/lang/Object"), (0, u "<init>"), (0, u "()V"), (89, .class_ 100), (1, u "java/lang/Math$RandomNumberGeneratorHolder"), (71, u "negativeZeroFloatBits"), (0, u "J"), (2, u "negativeZeroDoubleBits"), (24, u "min"), (43, u "$assertionsDisabled"), (0, u "Z"), (88, u "(II)I"), (2, u "twoToTheDoubleScaleDown"), (0, u "D"), (4, u "twoToTheDoubleScaleUp"), (9, u "E"), (3, u "PI"), (2, u "TAU"), (2, u "DEGREES_TO_RADIANS"), (0, u "RADIANS_TO_DEGREES")] 94

def k8m0 : Method := { name := "<init>", desc := "()V", sig := { parameters := [], returnType := none }, accessFlags := 2, code := none }
def k8c1 : Code := { maxStack := 2, maxLocals := 2, code := jdk_29_method_69_code, exceptionTable := #[], attributes := #[] }
def k8m1 : Method := { name := "min", desc := "(II)I", sig := { parameters := [.int, .int], returnType := some .int }, accessFlags := 9, code := some k8c1 }
/-- java/lang/Math -/
def k8 : Class := { plain "java/lang/Math" (some 0) with
  accessFlags := 49
  interfaces := #[]
  cf := some (fileOf pool8 1 #[.nestMembers #[98]] #[{ accessFlags := 2, nameIndex := 7, descriptorIndex := 8, attributes := #[] }, { accessFlags := 9, nameIndex := 201, descriptorIndex := 335, attributes := #[] }] 49 4 #[] #[{ accessFlags := 25, nameIndex := 354, descriptorIndex := 339, attributes := #[] }, { accessFlags := 25, nameIndex := 358, descriptorIndex := 339, attributes := #[] }, { accessFlags := 25, nameIndex := 361, descriptorIndex := 339, attributes := #[] }, { accessFlags := 26, nameIndex := 364, descriptorIndex := 339, attributes := #[] }, { accessFlags := 26, nameIndex := 365, descriptorIndex := 339, attributes := #[] }, { accessFlags := 26, nameIndex := 172, descriptorIndex := 173, attributes := #[] }, { accessFlags := 26, nameIndex := 176, descriptorIndex := 173, attributes := #[] }, { accessFlags := 8, nameIndex := 344, descriptorIndex := 339, attributes := #[] }, { accessFlags := 8, nameIndex := 338, descriptorIndex := 339, attributes := #[] }, { accessFlags := 4120, nameIndex := 245, descriptorIndex := 246, attributes := #[] }])
  fields := #[{ name := "E", type := .double, accessFlags := 25, slot := 0, constantValue := 0 }, { name := "PI", type := .double, accessFlags := 25, slot := 1, constantValue := 0 }, { name := "TAU", type := .double, accessFlags := 25, slot := 2, constantValue := 0 }, { name := "DEGREES_TO_RADIANS", type := .double, accessFlags := 26, slot := 3, constantValue := 0 }, { name := "RADIANS_TO_DEGREES", type := .double, accessFlags := 26, slot := 4, constantValue := 0 }, { name := "negativeZeroFloatBits", type := .long, accessFlags := 26, slot := 5, constantValue := 0 }, { name := "negativeZeroDoubleBits", type := .long, accessFlags := 26, slot := 6, constantValue := 0 }, { name := "twoToTheDoubleScaleUp", type := .double, accessFlags := 8, slot := 7, constantValue := 0 }, { name := "twoToTheDoubleScaleDown", type := .double, accessFlags := 8, slot := 8, constantValue := 0 }, { name := "$assertionsDisabled", type := .boolean, accessFlags := 4120, slot := 9, constantValue := 0 }]
  methods := #[k8m0, k8m1]
  instanceTypes := #[]
  staticTypes := #[.double, .double, .double, .double, .double, .long, .long, .double, .double, .boolean]
  resolved := Array.replicate 460 none
  statics := none }

def pool9 : Array CpInfo := pool [(2, .class_ 4), (1, u "java/lang/Object"), (0, u "<init>"), (0, u "()V"), (1, .class_ 10), (1, u "java/lang/System"), (0, u "allowSecurityManager"), (0, u "I"), (16, u "cons"), (0, u "Ljava/io/Console;"), (77, .class_ 110), (1, u "java/lang/System$CallersHolder"), (43, u "initialErrStream"), (0, u "Ljava/io/PrintStream;"), (19, u "security"), (0, u "Ljava/lang/SecurityManager;"), (31, .class_ 209), (0, u "java/lang/System$1"), (7, u "props"), (0, u "Ljava/util/Properties;"), (2, u "lineSeparator"), (0, u "Ljava/lang/String;"), (96, .class_ 321), (1, u "java/lang/System$LoggerFinder"), (5, .class_ 328), (0, u "java/lang/System$Logger"), (67, u "err"), (2, u "out"), (91, u "notSupportedJnuEncoding"), (15, u "in"), (17, u "initialIn"), (0, u "Ljava/io/InputStream;"), (35, u "bootLayer"), (0, u "Ljava/lang/ModuleLayer;"), (99, .class_ 664), (0, u "java/lang/System$2"), (9, u "NEVER"), (2, u "MAYBE"), (49, u "arraycopy"), (0, u "(Ljava/lang/Object;ILjava/lang/Object;II)V"), (72, .class_ 802), (0, u "java/lang/System$Logger$Level")] 31

def k9m0 : Method := { name := "<init>", desc := "()V", sig := { parameters := [], returnType := none }, accessFlags := 2, code := none }
def k9m1 : Method := { name := "arraycopy", desc := "(Ljava/lang/Object;ILjava/lang/Object;II)V", sig := { parameters := [(.object "java/lang/Object"), .int, (.object "java/lang/Object"), .int, .int], returnType := none }, accessFlags := 265, code := none }
/-- java/lang/System -/
def k9 : Class := { plain "java/lang/System" (some 0) with
  accessFlags := 49
  interfaces := #[]
  cf := some (fileOf pool9 8 #[.nestMembers #[319, 327, 801, 108, 663, 208]] #[{ accessFlags := 2, nameIndex := 5, descriptorIndex := 6, attributes := #[] }, { accessFlags := 265, nameIndex := 727, descriptorIndex := 728, attributes := #[] }] 49 2 #[] #[{ accessFlags := 25, nameIndex := 507, descriptorIndex := 526, attributes := #[] }, { accessFlags := 25, nameIndex := 399, descriptorIndex := 155, attributes := #[] }, { accessFlags := 25, nameIndex := 396, descriptorIndex := 155, attributes := #[] }, { accessFlags := 10, nameIndex := 525, descriptorIndex := 526, attributes := #[] }, { accessFlags := 26, nameIndex := 674, descriptorIndex := 12, attributes := #[] }, { accessFlags := 26, nameIndex := 677, descriptorIndex := 12, attributes := #[] }, { accessFlags := 10, nameIndex := 11, descriptorIndex := 12, attributes := #[] }, { accessFlags := 74, nameIndex := 175, descriptorIndex := 176, attributes := #[] }, { accessFlags := 10, nameIndex := 491, descriptorIndex := 222, attributes := #[] }, { accessFlags := 74, nameIndex := 29, descriptorIndex := 30, attributes := #[] }, { accessFlags := 74, nameIndex := 154, descriptorIndex := 155, attributes := #[] }, { accessFlags := 10, nameIndex := 217, descriptorIndex := 218, attributes := #[] }, { accessFlags := 10, nameIndex := 221, descriptorIndex := 222, attributes := #[] }, { accessFlags := 8, nameIndex := 562, descriptorIndex := 563, attributes := #[] }])
  fields := #[{ name := "in", type := (.object "java/io/InputStream"), accessFlags := 25, slot := 0, constantValue := 0 }, { name := "out", type := (.object "java/io/PrintStream"), accessFlags := 25, slot := 1, constantValue := 0 }, { name := "err", type := (.object "java/io/PrintStream"), accessFlags := 25, slot := 2, constantValue := 0 }, { name := "initialIn", type := (.object "java/io/InputStream"), accessFlags := 10, slot := 3, constantValue := 0 }, { name := "NEVER", type := .int, accessFlags := 26, slot := 4, constantValue := 0 }, { name := "MAYBE", type := .int, accessFlags := 26, slot := 5, constantValue := 0 }, { name := "allowSecurityManager", type := .int, accessFlags := 10, slot := 6, constantValue := 0 }, { name := "security", type := (.object "java/lang/SecurityManager"), accessFlags := 74, slot := 7, constantValue := 0 }, { name := "notSupportedJnuEncoding", type := (.object "java/lang/String"), accessFlags := 10, slot := 8, constantValue := 0 }, { name := "cons", type := (.object "java/io/Console"), accessFlags := 74, slot := 9, constantValue := 0 }, { name := "initialErrStream", type := (.object "java/io/PrintStream"), accessFlags := 74, slot := 10, constantValue := 0 }, { name := "props", type := (.object "java/util/Properties"), accessFlags := 10, slot := 11, constantValue := 0 }, { name := "lineSeparator", type := (.object "java/lang/String"), accessFlags := 10, slot := 12, constantValue := 0 }, { name := "bootLayer", type := (.object "java/lang/ModuleLayer"), accessFlags := 8, slot := 13, constantValue := 0 }]
  methods := #[k9m0, k9m1]
  instanceTypes := #[]
  staticTypes := #[(.object "java/io/InputStream"), (.object "java/io/PrintStream"), (.object "java/io/PrintStream"), (.object "java/io/InputStream"), .int, .int, .int, (.object "java/lang/SecurityManager"), (.object "java/lang/String"), (.object "java/io/Console"), (.object "java/io/PrintStream"), (.object "java/util/Properties"), (.object "java/lang/String"), (.object "java/lang/ModuleLayer")]
  resolved := Array.replicate 834 none
  statics := none }

def pool10 : Array CpInfo := pool [(1, u "java/lang/Cloneable"), (0, .class_ 1), (0, u "java/lang/Object"), (0, .class_ 3)] 3

/-- java/lang/Cloneable -/
def k10 : Class := { plain "java/lang/Cloneable" (some 0) with
  accessFlags := 1537
  interfaces := #[]
  cf := some (fileOf pool10 2 #[] #[] 1537 4 #[] #[])
  fields := #[]
  methods := #[]
  instanceTypes := #[]
  staticTypes := #[]
  resolved := Array.replicate 8 none
  statics := none }

/-- the primitive byte -/
def k11 : Class := { plain "byte" none with kind := .primitive 'B', accessFlags := 0x411 }
/-- [B -/
def k12 : Class := { plain "[B" (some 0) with kind := .array 11 .byte, interfaces := #[10, 4], accessFlags := 1041 }

/-- the primitive int -/
def k13 : Class := { plain "int" none with kind := .primitive 'I', accessFlags := 0x411 }
/-- [I -/
def k14 : Class := { plain "[I" (some 0) with kind := .array 13 .int, interfaces := #[10, 4], accessFlags := 1041 }

def heap : Heap := #[{ cls := 6, slots := #[.ref 3, .ref 4, .int 0, .null], vm := .statics 6 },
  { cls := 12, slots := #[.int 12, .int 117, .int 13, .int 5, .int 14], vm := .none },
  { cls := 12, slots := #[.int 97, .int 98, .int 99, .int 114, .int 121, .int 112, .int 116], vm := .none },
  { cls := 6, slots := #[.null, .int 0, .int 0, .null, .ref 1, .int 5, .null], vm := .none },
  { cls := 6, slots := #[.null, .int 0, .int 0, .null, .ref 2, .int 1, .null], vm := .none }]
def classes : Array Class := #[k0, k1, k2, k3, k4, k5, k6, k7, k8, k9, k10, k11, k12, k13, k14]
def interned : List (Array UInt16 × Addr) := []
def slotsUsed : Nat := 30
def theMethod : MethodId := ⟨1, 1⟩
def args0 : Array Value := #[.int 5, .int 6, .int 7]
def aboutOver (below : List Frame) : State where
  vm := { classes := classes, interned := interned.toArray }
  heap := heap
  slotsUsed := slotsUsed
  threads := #[{ frames := .invoking theMethod args0 :: below }]
def below0 : List Frame := [.native { method := ⟨0, 0⟩, args := #[] }]
def about1 : State := aboutOver below0
def p0 : Program := .bare "" "" ""
def e0 : Env := launch0.env 0 0 0
theorem w_frames : about1.frames = Frame.invoking theMethod args0 :: below0 := rfl
set_option maxRecDepth 65536 in
theorem w_args : argsFit about1.vm theMethod args0 = true := by decide +kernel
set_option maxRecDepth 65536 in
theorem w_heap : heapFits about1 = true := by decide +kernel
set_option maxRecDepth 65536 in
theorem w_runnable : about1.curStatus? = some .runnable := by decide +kernel
set_option maxRecDepth 65536 in
theorem w_alone : about1.alone = true := by decide +kernel
set_option maxRecDepth 65536 in
theorem w_named : about1.methodNamed? x = some theMethod := by decide +kernel
set_option maxRecDepth 65536 in
theorem w_hears : about1.hears theMethod below0 = true := by decide +kernel
set_option maxRecDepth 65536 in
theorem w_ripe : about1.ripe theMethod args0 below0 = true := by decide +kernel
theorem w_running : about1.status = .running := rfl
set_option maxRecDepth 65536 in
theorem w_room : about1.hasRoom e0.platform room_1 = true :=
  launch0.hasRoom_least _ room_1 (by decide +kernel) (by decide +kernel) (by decide +kernel) (by decide +kernel) (by decide +kernel) (by decide +kernel)
theorem allAtoms_all (ts : List Jvm.Cond) (a : Array Jvm.Value) (st : Jvm.State) : (allAtoms ts).before a st = ts.all (fun c => c.before a st) := by
  induction ts with
  | nil => rfl
  | cons c t ih =>
    show (Jvm.Cond.and c (allAtoms t)).before a st = _
    rw [Jvm.Cond.before_and, ih, List.all_cons]
def words1 : List Jvm.Cond := Jvm.Cond.code x code maxLocals ret :: tables_1
/-- a 'code' word, met by the world's own term for the bytes: nothing is compared byte by byte -/
theorem code_word {y : MethodName} {bytes : ByteArray} {mx : Nat} {rt : Option FieldType} {a : Array Value} {s : State} {m : MethodId} {meth : Method} {c : Code} (h1 : s.methodNamed? y = some m) (h2 : s.vm.method? m = some meth) (h3 : meth.code = some c) (h4 : c.code = bytes)
    (h5 : (c.maxLocals == mx && c.exceptionTable.isEmpty && decide (c.maxStack ≤ mostOperands) && decide (meth.sig.returnType = rt) && !meth.locks && decide (parseMethodDescriptor y.desc = some meth.sig)) = true) : (Jvm.Cond.code y bytes mx rt).before a s = true := by
  simp only [Bool.and_eq_true, beq_iff_eq, Bool.not_eq_true', decide_eq_true_eq] at h5
  obtain ⟨⟨⟨⟨⟨g1, g2⟩, g3⟩, g4⟩, g5⟩, g6⟩ := h5
  simp [Cond.before, Cond.holds, Cond.value, h1, h2, h3, h4, g1, g2, g3, g4, g5, g6]
def isCode : Jvm.Cond → Bool
  | .code _ _ _ _ => true
  | _ => false
theorem all_split {L : List Jvm.Cond} {P : Jvm.Cond → Bool} (h1 : L.all (fun c => isCode c || P c) = true) (h2 : ∀ c ∈ L.filter isCode, P c = true) : L.all P = true := by
  refine List.all_eq_true.mpr fun c hc => ?_
  have h := List.all_eq_true.mp h1 c hc
  rcases Bool.eq_false_or_eq_true (isCode c) with hi | hi
  · exact h2 c (List.mem_filter.mpr ⟨hc, hi⟩)
  · simpa [hi] using h
set_option maxRecDepth 65536 in
theorem w_c0 : (Jvm.Cond.code x code maxLocals ret).before args0 about1 = true := code_word (m := ⟨1, 1⟩) (meth := k1m1) (c := k1c1) (by decide +kernel) rfl rfl rfl (by decide +kernel)
set_option maxRecDepth 65536 in
theorem w_c1 : (Jvm.Cond.code ({ cls := "com/example/weft/weft/formats/FileFormat", name := "getIdentifier", desc := "()[B" } : Jvm.MethodName) prog_37_method_7_code (2 : Nat) (Option.some (Jvm.ClassFile.FieldType.array Jvm.ClassFile.FieldType.byte))).before args0 about1 = true := code_word (m := ⟨6, 0⟩) (meth := k6m0) (c := k6c0) (by decide +kernel) rfl rfl rfl (by decide +kernel)
set_option maxRecDepth 65536 in
theorem w_c2 : (Jvm.Cond.code ({ cls := "com/example/weft/weft/formats/FileFormat", name := "getIdentifierSize", desc := "()I" } : Jvm.MethodName) prog_37_method_9_code (1 : Nat) (Option.some Jvm.ClassFile.FieldType.int)).before args0 about1 = true := code_word (m := ⟨6, 1⟩) (meth := k6m1) (c := k6c1) (by decide +kernel) rfl rfl rfl (by decide +kernel)
set_option maxRecDepth 65536 in
theorem w_c3 : (Jvm.Cond.code ({ cls := "java/util/Arrays", name := "copyOf", desc := "([BI)[B" } : Jvm.MethodName) jdk_65_method_121_code (3 : Nat) (Option.some (Jvm.ClassFile.FieldType.array Jvm.ClassFile.FieldType.byte))).before args0 about1 = true := code_word (m := ⟨7, 1⟩) (meth := k7m1) (c := k7c1) (by decide +kernel) rfl rfl rfl (by decide +kernel)
set_option maxRecDepth 65536 in
theorem w_c4 : (Jvm.Cond.code ({ cls := "java/lang/Math", name := "min", desc := "(II)I" } : Jvm.MethodName) jdk_29_method_69_code (2 : Nat) (Option.some Jvm.ClassFile.FieldType.int)).before args0 about1 = true := code_word (m := ⟨8, 1⟩) (meth := k8m1) (c := k8c1) (by decide +kernel) rfl rfl rfl (by decide +kernel)
def codes1 : List Jvm.Cond := [Jvm.Cond.code x code maxLocals ret, Jvm.Cond.code ({ cls := "com/example/weft/weft/formats/FileFormat", name := "getIdentifier", desc := "()[B" } : Jvm.MethodName) prog_37_method_7_code (2 : Nat) (Option.some (Jvm.ClassFile.FieldType.array Jvm.ClassFile.FieldType.byte)), Jvm.Cond.code ({ cls := "com/example/weft/weft/formats/FileFormat", name := "getIdentifierSize", desc := "()I" } : Jvm.MethodName) prog_37_method_9_code (1 : Nat) (Option.some Jvm.ClassFile.FieldType.int), Jvm.Cond.code ({ cls := "java/util/Arrays", name := "copyOf", desc := "([BI)[B" } : Jvm.MethodName) jdk_65_method_121_code (3 : Nat) (Option.some (Jvm.ClassFile.FieldType.array Jvm.ClassFile.FieldType.byte)), Jvm.Cond.code ({ cls := "java/lang/Math", name := "min", desc := "(II)I" } : Jvm.MethodName) jdk_29_method_69_code (2 : Nat) (Option.some Jvm.ClassFile.FieldType.int)]
set_option maxRecDepth 65536 in
theorem codes_eq : words1.filter isCode = codes1 := rfl
theorem w_codes : ∀ c ∈ words1.filter isCode, c.before args0 about1 = true := by
  rw [codes_eq]
  intro c hc
  simp only [codes1, List.mem_cons, List.not_mem_nil, or_false] at hc
  rcases hc with rfl | rfl | rfl | rfl | rfl
  · exact w_c0
  · exact w_c1
  · exact w_c2
  · exact w_c3
  · exact w_c4
set_option maxRecDepth 65536 in
theorem w_t1 : (words1.take 24).all (fun c => isCode c || c.before args0 about1) = true := by decide +kernel
set_option maxRecDepth 65536 in
theorem w_t2 : (words1.drop 24).all (fun c => isCode c || c.before args0 about1) = true := by decide +kernel
theorem w_tables : (allAtoms (Jvm.Cond.code x code maxLocals ret :: tables_1)).before args0 about1 = true := by
  rw [allAtoms_all]
  show words1.all (fun c => c.before args0 about1) = true
  refine all_split ?_ w_codes
  rw [← List.take_append_drop 24 words1, List.all_append, w_t1, w_t2]
  rfl
set_option maxRecDepth 65536 in
theorem w_case : (Jvm.Cond.and given_1 narrow_1).before args0 about1 = true := by decide +kernel
theorem w_applies : (headSpec (Jvm.Cond.code x code maxLocals ret :: tables_1) room_1).applies x e0.platform about1 = true :=
  (Spec.applies_iff w_frames).mpr ⟨w_running, w_runnable, w_alone, w_named, w_hears, w_ripe, w_room, w_tables⟩
theorem atStart : AtStart classFile x code maxLocals ret World_1 tables_1 room_1 Calls_1 rest_1 Pre_1 launch0 p0 e0 about1 theMethod args0 below0 :=
  ⟨lists_1, trivial, launch0.admits_env _ _ _, launch0.least_env, fairChoices_fair.cas, fairChoices_fair.clock, w_frames, w_args, w_heap, w_applies, trivial, trivial, w_case⟩
end start1
theorem witness_1 : WitnessClaimed_1 := ⟨start1.p0, start1.e0, start1.about1, start1.theMethod, start1.args0, start1.below0, start1.atStart⟩
end Jvm.Pilot.@@N@@
