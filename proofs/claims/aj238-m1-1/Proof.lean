import JvmDerived
import JvmDerived.Pilot.@@N@@Statement
import JvmDerived.Pilot.@@N@@Code
set_option linter.unusedVariables false
set_option linter.unusedSimpArgs false
namespace Jvm.Pilot.@@N@@
open Jvm Jvm.ClassFile Sem Op Lib Jvm.Free Jvm.Stand Jvm.LawKit Jvm.RoadKit Bundle Jvm.Pilot.@@N@@.Jvm.D
/-- from S the run goes on to an end that answers Q -/
def own_Go (p : Program) (e : Env) (below : List Frame) (s : State) (Q : Option Value → Heap → List Loc → Prop) (rm : Room) (S : State) : Prop :=
  ∃ t o, Steps p.tables e below S t ∧ t.status = .running ∧ Ended t below o ∧ ∃ v L, o = .returned v ∧ Q v t.heap L ∧ FrameEnd s o t L rm.cells rm.slots
section OwnKit
variable {p : Program} {l : Launch} {e : Env} {R rm : Room} {s S S' : State} {m : MethodId} {args : Array Value} {below : List Frame} {meth : Method} {c : Code} {T : State} {locs : List Loc} {cells slots : Nat} {Q : Option Value → Heap → List Loc → Prop}
theorem own_by (st : ∀ t, Steps p.tables e below S' t → Steps p.tables e below S t) (k : own_Go p e below s Q rm S') : own_Go p e below s Q rm S := by
  obtain ⟨t, o, h, r⟩ := k
  exact ⟨t, o, st _ h, r⟩
theorem own_via (st : Steps p.tables e below S S') (k : own_Go p e below s Q rm S') : own_Go p e below s Q rm S := own_by (fun _ h => st.trans h) k
theorem own_out {v : Option Value} {pc : Nat} {Ls : Array Slot} {st : List Value} (X : Stand p l e rm s m args below meth c T locs cells slots) (hlk : meth.locks = false) (hv : meth.sig.returnType = none → v = none) (hc : cells ≤ rm.cells) (hs : slots ≤ rm.slots)
    (step : ∀ fs, (∀ (f : JFrame) (acts : List Action), f.method = m → f.locked = none → f.entered = [] → (doReturn e (T.setTop f) acts v).1 = T.setFrames fs) → Steps p.tables e below (T.setTop (mkF m pc Ls st)) (T.setFrames fs)) (hQ : Q v T.heap locs) : own_Go p e below s Q rm (T.setTop (mkF m pc Ls st)) := by
  obtain ⟨fs, hr, hrun, hended, hW, hsame⟩ := X.leave (v := v) hv hlk
  exact ⟨_, _, step fs hr, hrun, hended, v, locs, rfl, hQ, ⟨_, rfl⟩, hW, hsame.mono hc hs⟩
theorem own_retV (X : Stand p l e rm s m args below meth c T locs cells slots) (hx : p.tables.exec = Jvm.exec) (hlk : meth.locks = false) {pc : Nat} {Ls : Array Slot} (hret : meth.sig.returnType = none) (hd : decode c.code pc = .ok (.return_, 1)) (hQ : Q none T.heap locs) (hc : cells ≤ rm.cells) (hs : slots ≤ rm.slots) :
    own_Go p e below s Q rm (T.setTop (mkF m pc Ls [])) := own_out X hlk (fun _ => rfl) hc hs (fun fs hr => X.returnOut hx hret hd hr) hQ
theorem own_retI (X : Stand p l e rm s m args below meth c T locs cells slots) (hx : p.tables.exec = Jvm.exec) (hlk : meth.locks = false) {pc : Nat} {Ls : Array Slot} {z : Int32} {t : FieldType} {rest : List Value} (hret : meth.sig.returnType = some t) (ht : t = .int ∨ t = .boolean ∨ t = .byte ∨ t = .char ∨ t = .short) (hn : narrow t (.int z) = .int z) (hd : decode c.code pc = .ok (.ireturn, 1)) (hQ : Q (some (.int z)) T.heap locs) (hc : cells ≤ rm.cells) (hs : slots ≤ rm.slots) :
    own_Go p e below s Q rm (T.setTop (mkF m pc Ls (.int z :: rest))) := own_out X hlk (fun h => by rw [hret] at h; cases h) hc hs (fun fs hr => retOut X hx hret hn (Or.inl ⟨rfl, ht, z, rfl⟩) hd hr) hQ
theorem own_retL (X : Stand p l e rm s m args below meth c T locs cells slots) (hx : p.tables.exec = Jvm.exec) (hlk : meth.locks = false) {pc : Nat} {Ls : Array Slot} {z : Int64} {rest : List Value} (hret : meth.sig.returnType = some .long) (hd : decode c.code pc = .ok (.lreturn, 1)) (hQ : Q (some (.long z)) T.heap locs) (hc : cells ≤ rm.cells) (hs : slots ≤ rm.slots) :
    own_Go p e below s Q rm (T.setTop (mkF m pc Ls (.long z :: rest))) := own_out X hlk (fun h => by rw [hret] at h; cases h) hc hs (fun fs hr => retOut X hx hret rfl (Or.inr (Or.inl ⟨rfl, rfl, z, rfl⟩)) hd hr) hQ
theorem own_retA (X : Stand p l e rm s m args below meth c T locs cells slots) (hx : p.tables.exec = Jvm.exec) (hlk : meth.locks = false) {pc : Nat} {Ls : Array Slot} {w : Value} {t : FieldType} {rest : List Value} (hret : meth.sig.returnType = some t) (ht : t.isReference = true) (hw : w.isRef = true) (hd : decode c.code pc = .ok (.areturn, 1)) (hQ : Q (some w) T.heap locs) (hc : cells ≤ rm.cells) (hs : slots ≤ rm.slots) :
    own_Go p e below s Q rm (T.setTop (mkF m pc Ls (w :: rest))) := by
  have hn : narrow t w = w := by cases w <;> first | (simp [Value.isRef] at hw; done) | (cases t <;> first | (simp [FieldType.isReference] at ht; done) | rfl)
  exact own_out X hlk (fun h => by rw [hret] at h; cases h) hc hs (fun fs hr => retOut X hx hret hn (Or.inr (Or.inr (Or.inr (Or.inr ⟨rfl, ht, hw⟩)))) hd hr) hQ
theorem own_enter {Z : State} {h0 : Heap} {y : MethodName} {bytes : ByteArray} {maxL : Nat} {ret : Option FieldType} {ws : List Jvm.Cond} {as : Array Value} (hp : plainFor y = true)
    (body : ∀ p e s m below meth c s₁, Stand p l e rm s m as below meth c s₁ [] 0 0 → p.tables.exec = Jvm.exec → Z.Warmed39 s.vm → c.code = bytes → c.maxLocals = maxL → s.vm.findClass y.cls = some m.cls → meth.name = y.name → meth.sig.returnType = ret → meth.locks = false → s₁.heap = h0 →
      own_Go p e below s Q rm (s₁.setTop (entryFrame m as maxL))) :
    MetFree l y (head1 (Jvm.Cond.code y bytes maxL ret :: ws) rm) (fun a U => a = as ∧ Z.Warmed39 U.vm ∧ U.heap = h0) (fun _ _ _ _ _ => True) (fun _ U o U' => ∃ v L, o = .returned v ∧ Q v U'.heap L ∧ FrameEnd U o U' L rm.cells rm.slots) := by
  refine MetFree.of_bodySF hp hisR ?_
  intro p e s m args below meth c s₁ Bd hml0 hP hK
  obtain ⟨rfl, hZ, hh⟩ := hP
  have X0 : Stand p l e rm s m args below meth c s₁ [] 0 0 := Stand.of_body Bd
  exact body p e s m below meth c s₁ X0 Bd.exec hZ Bd.bytes hml0 (findClass_of_methodNamed Bd.named) (name_of_methodNamed Bd.named Bd.method).1 Bd.returns (BodyLoose.notSynchronized Bd) (by rw [← hh, Bd.state]; rfl)
end OwnKit
theorem own_len31 {Z : State} {args : Array Value} {t : Term} {v : Value} {a : Addr} {cl : Cell} (h : (Term.length t).eval args Z none [] Z = some v) (ht : t.eval args Z none [] Z = some (.ref a)) (hc : Z.heap[a]? = some cl) : cl.slots.size < 2 ^ 31 := by
  simp only [Term.eval, ht, Option.bind_eq_bind, Option.bind_some] at h
  cases ha : Z.arrayAt? a with
  | none => simp [ha] at h
  | some c2 =>
    cases (State.arrayAt?_spec ha).1.symm.trans hc
    by_cases q : cl.slots.size < 2 ^ 31
    · exact q
    · simp [ha, q] at h
theorem own_eqr {Z : State} {args : Array Value} {X F : Term} {y : Value} (hy : y.isRef = true) (hF : F.eval args Z none [] Z = some y) (h : (Jvm.Cond.eq X F).value args Z none Z [] = some true) : X.eval args Z none [] Z = some y := by
  obtain ⟨x, y', e1, e2, k1, k2⟩ := cmp_v (Or.inl h)
  cases hF.symm.trans e2
  have hx : x.isRef = true := by
    rcases ref_cases hy with rfl | ⟨a, rfl⟩
    · exact k2.2
    · exact k2.2
  exact e1.trans (congrArg some (gotT (eq_R e1 hF hx hy) h))
theorem pl_0 : plainFor x = true := plainFor_of_name (by first | (simp [plainName, overriddenIn]; done) | decide +kernel)
theorem d1_0 : decode method_2_code 0 = .ok (.bipush 9, 2) := by decide +kernel
theorem d1_2 : decode method_2_code 2 = .ok (.anewarray 7, 3) := by decide +kernel
theorem d1_5 : decode method_2_code 5 = .ok (.dup, 1) := by decide +kernel
theorem d1_6 : decode method_2_code 6 = .ok (.iconst 0, 1) := by decide +kernel
theorem d1_7 : decode method_2_code 7 = .ok (.getstatic 9, 3) := by decide +kernel
theorem d1_10 : decode method_2_code 10 = .ok (.aastore, 1) := by decide +kernel
theorem d1_11 : decode method_2_code 11 = .ok (.dup, 1) := by decide +kernel
theorem d1_12 : decode method_2_code 12 = .ok (.iconst 1, 1) := by decide +kernel
theorem d1_13 : decode method_2_code 13 = .ok (.getstatic 13, 3) := by decide +kernel
theorem d1_16 : decode method_2_code 16 = .ok (.aastore, 1) := by decide +kernel
theorem d1_17 : decode method_2_code 17 = .ok (.dup, 1) := by decide +kernel
theorem d1_18 : decode method_2_code 18 = .ok (.iconst 2, 1) := by decide +kernel
theorem d1_19 : decode method_2_code 19 = .ok (.getstatic 16, 3) := by decide +kernel
theorem d1_22 : decode method_2_code 22 = .ok (.aastore, 1) := by decide +kernel
theorem d1_23 : decode method_2_code 23 = .ok (.dup, 1) := by decide +kernel
theorem d1_24 : decode method_2_code 24 = .ok (.iconst 3, 1) := by decide +kernel
theorem d1_25 : decode method_2_code 25 = .ok (.getstatic 19, 3) := by decide +kernel
theorem d1_28 : decode method_2_code 28 = .ok (.aastore, 1) := by decide +kernel
theorem d1_29 : decode method_2_code 29 = .ok (.dup, 1) := by decide +kernel
theorem d1_30 : decode method_2_code 30 = .ok (.iconst 4, 1) := by decide +kernel
theorem d1_31 : decode method_2_code 31 = .ok (.getstatic 22, 3) := by decide +kernel
theorem d1_34 : decode method_2_code 34 = .ok (.aastore, 1) := by decide +kernel
theorem d1_35 : decode method_2_code 35 = .ok (.dup, 1) := by decide +kernel
theorem d1_36 : decode method_2_code 36 = .ok (.iconst 5, 1) := by decide +kernel
theorem d1_37 : decode method_2_code 37 = .ok (.getstatic 25, 3) := by decide +kernel
theorem d1_40 : decode method_2_code 40 = .ok (.aastore, 1) := by decide +kernel
theorem d1_41 : decode method_2_code 41 = .ok (.dup, 1) := by decide +kernel
theorem d1_42 : decode method_2_code 42 = .ok (.bipush 6, 2) := by decide +kernel
theorem d1_44 : decode method_2_code 44 = .ok (.getstatic 28, 3) := by decide +kernel
theorem d1_47 : decode method_2_code 47 = .ok (.aastore, 1) := by decide +kernel
theorem d1_48 : decode method_2_code 48 = .ok (.dup, 1) := by decide +kernel
theorem d1_49 : decode method_2_code 49 = .ok (.bipush 7, 2) := by decide +kernel
theorem d1_51 : decode method_2_code 51 = .ok (.getstatic 31, 3) := by decide +kernel
theorem d1_54 : decode method_2_code 54 = .ok (.aastore, 1) := by decide +kernel
theorem d1_55 : decode method_2_code 55 = .ok (.dup, 1) := by decide +kernel
theorem d1_56 : decode method_2_code 56 = .ok (.bipush 8, 2) := by decide +kernel
theorem d1_58 : decode method_2_code 58 = .ok (.getstatic 34, 3) := by decide +kernel
theorem d1_61 : decode method_2_code 61 = .ok (.aastore, 1) := by decide +kernel
theorem d1_62 : decode method_2_code 62 = .ok (.astore_n 1, 1) := by decide +kernel
theorem d1_63 : decode method_2_code 63 = .ok (.aload_n 1, 1) := by decide +kernel
theorem d1_64 : decode method_2_code 64 = .ok (.iload_n 0, 1) := by decide +kernel
theorem d1_65 : decode method_2_code 65 = .ok (.aaload, 1) := by decide +kernel
theorem d1_66 : decode method_2_code 66 = .ok (.areturn, 1) := by decide +kernel
theorem pl_1 : plainFor (⟨"com/example/placerfill/placerfill/PlacerActionJoinsPinLaw", "pick", "(I)Lcom/example/placerfill/placerfill/PlacerAction;"⟩ : MethodName) = true := plainFor_of_name (by first | (simp [plainName, overriddenIn]; done) | decide +kernel)
theorem d2_0 : decode prog_56_method_8_code 0 = .ok (.aload_n 0, 1) := by decide +kernel
theorem d2_1 : decode prog_56_method_8_code 1 = .ok (.getstatic 25, 3) := by decide +kernel
theorem d2_4 : decode prog_56_method_8_code 4 = .ok (.if_acmp .ne 19, 3) := by decide +kernel
theorem d2_7 : decode prog_56_method_8_code 7 = .ok (.aload_n 1, 1) := by decide +kernel
theorem d2_8 : decode prog_56_method_8_code 8 = .ok (.getstatic 25, 3) := by decide +kernel
theorem d2_11 : decode prog_56_method_8_code 11 = .ok (.if_acmp .ne 7, 3) := by decide +kernel
theorem d2_14 : decode prog_56_method_8_code 14 = .ok (.iconst 1, 1) := by decide +kernel
theorem d2_15 : decode prog_56_method_8_code 15 = .ok (.goto 4, 3) := by decide +kernel
theorem d2_18 : decode prog_56_method_8_code 18 = .ok (.iconst 0, 1) := by decide +kernel
theorem d2_19 : decode prog_56_method_8_code 19 = .ok (.istore_n 2, 1) := by decide +kernel
theorem d2_20 : decode prog_56_method_8_code 20 = .ok (.goto 35, 3) := by decide +kernel
theorem d2_23 : decode prog_56_method_8_code 23 = .ok (.aload_n 0, 1) := by decide +kernel
theorem d2_24 : decode prog_56_method_8_code 24 = .ok (.getstatic 28, 3) := by decide +kernel
theorem d2_27 : decode prog_56_method_8_code 27 = .ok (.if_acmp .ne 26, 3) := by decide +kernel
theorem d2_30 : decode prog_56_method_8_code 30 = .ok (.aload_n 1, 1) := by decide +kernel
theorem d2_31 : decode prog_56_method_8_code 31 = .ok (.getstatic 25, 3) := by decide +kernel
theorem d2_34 : decode prog_56_method_8_code 34 = .ok (.if_acmp .eq 10, 3) := by decide +kernel
theorem d2_37 : decode prog_56_method_8_code 37 = .ok (.aload_n 1, 1) := by decide +kernel
theorem d2_38 : decode prog_56_method_8_code 38 = .ok (.getstatic 28, 3) := by decide +kernel
theorem d2_41 : decode prog_56_method_8_code 41 = .ok (.if_acmp .ne 7, 3) := by decide +kernel
theorem d2_44 : decode prog_56_method_8_code 44 = .ok (.iconst 1, 1) := by decide +kernel
theorem d2_45 : decode prog_56_method_8_code 45 = .ok (.goto 4, 3) := by decide +kernel
theorem d2_48 : decode prog_56_method_8_code 48 = .ok (.iconst 0, 1) := by decide +kernel
theorem d2_49 : decode prog_56_method_8_code 49 = .ok (.istore_n 2, 1) := by decide +kernel
theorem d2_50 : decode prog_56_method_8_code 50 = .ok (.goto 5, 3) := by decide +kernel
theorem d2_53 : decode prog_56_method_8_code 53 = .ok (.iconst 0, 1) := by decide +kernel
theorem d2_54 : decode prog_56_method_8_code 54 = .ok (.istore_n 2, 1) := by decide +kernel
theorem d2_55 : decode prog_56_method_8_code 55 = .ok (.iload_n 2, 1) := by decide +kernel
theorem d2_56 : decode prog_56_method_8_code 56 = .ok (.ireturn, 1) := by decide +kernel
theorem pl_2 : plainFor (⟨"com/example/placerfill/placerfill/PlacerAction", "joins", "(Lcom/example/placerfill/placerfill/PlacerAction;)Z"⟩ : MethodName) = true := plainFor_of_name (by first | (simp [plainName, overriddenIn]; done) | decide +kernel)
theorem pd_0 : parseMethodDescriptor "(I)Lcom/example/placerfill/placerfill/PlacerAction;" = some ⟨[.int], some (.object "com/example/placerfill/placerfill/PlacerAction")⟩ := by decide +kernel
theorem pd_1 : parseMethodDescriptor "(Lcom/example/placerfill/placerfill/PlacerAction;)Z" = some ⟨[(.object "com/example/placerfill/placerfill/PlacerAction")], some .boolean⟩ := by decide +kernel
theorem own_mod (x n : Int32) (hn : 0 < n.toInt) : 0 ≤ ((x &&& (2147483647 : Int32)) % n).toInt ∧ ((x &&& (2147483647 : Int32)) % n).toInt < n.toInt := by
  have h := (c_and x 2147483647 (by decide)).1
  have q := (c_iremV (x &&& 2147483647) n).1 h hn
  exact ⟨q.1, q.2.1⟩
theorem own_nine (w : Nat → Addr) (n : Nat) (h : n < 9) : ([.ref (w 0), .ref (w 1), .ref (w 2), .ref (w 3), .ref (w 4), .ref (w 5), .ref (w 6), .ref (w 7), .ref (w 8)] : List Value).getD n .null = .ref (w n) := by
  match n, h with
  | 0, _ => rfl
  | 1, _ => rfl
  | 2, _ => rfl
  | 3, _ => rfl
  | 4, _ => rfl
  | 5, _ => rfl
  | 6, _ => rfl
  | 7, _ => rfl
  | 8, _ => rfl
  | n + 9, h => exact absurd h (by omega)
theorem own_lt9 {i : Int32} (h : ¬ i < 0 ∧ i < (9 : Int32)) : i.toNatClampNeg < 9 := by
  have a := nat_of h.1
  have b := Int32.lt_iff_toInt_lt.mp h.2
  have c : (9 : Int32).toInt = 9 := by decide
  omega
theorem own_b9 (x : Int32) : ¬ ((x &&& (2147483647 : Int32)) % (9 : Int32)) < 0 ∧ ((x &&& (2147483647 : Int32)) % (9 : Int32)) < (9 : Int32) := by
  have h := own_mod x 9 (by decide)
  exact ⟨fun q => by have := Int32.lt_iff_toInt_lt.mp q; have e : (0 : Int32).toInt = 0 := by decide
                     omega, Int32.lt_iff_toInt_lt.mpr h.2⟩
theorem own_is {w : Nat → Addr} (hi : ∀ i j, i < 9 → j < 9 → i ≠ j → w i ≠ w j) {i : Int32} (h : ¬ i < 0 ∧ i < (9 : Int32)) (k : Int32) (n : Nat) (hk : k.toInt = n) (hn : n < 9) : w i.toNatClampNeg = w n ↔ i = k := by
  have a := nat_of h.1
  constructor
  · intro q
    by_cases e : i.toNatClampNeg = n
    · exact Int32.toInt_inj.mp (by rw [a, e, hk])
    · exact absurd q (hi _ _ (own_lt9 h) hn e)
  · intro q
    have : i.toNatClampNeg = n := by rw [q] at a ⊢; rw [hk] at a; omega
    rw [this]
def Q_rm_pick (Z : State) (i : Int32) (w : Nat → Addr) (h0 : Heap) (n0 : Nat) (v : Option Value) (h : Heap) (L : List Loc) : Prop := v = some (.ref (w i.toNatClampNeg)) ∧ Fr n0 L ∧ Keep h0 h []
set_option maxRecDepth 65536 in
set_option maxHeartbeats 40000000 in
theorem rm_pick (l : Launch) (Z : State) (a0 : Array Value) (hw : ∀ d ∈ tables_1, d.before a0 Z = true) (ws : List Jvm.Cond) (i : Int32) (w : Nat → Addr) (h0 : Heap) (n0 : Nat) (O0 : Old Z n0 h0) (S_0 : Sta Z Z.heap "com/example/placerfill/placerfill/PlacerAction" "CREATE" "Lcom/example/placerfill/placerfill/PlacerAction;" (.ref (w 0))) (S_1 : Sta Z Z.heap "com/example/placerfill/placerfill/PlacerAction" "CHANGE" "Lcom/example/placerfill/placerfill/PlacerAction;" (.ref (w 1))) (S_2 : Sta Z Z.heap "com/example/placerfill/placerfill/PlacerAction" "RENEW" "Lcom/example/placerfill/placerfill/PlacerAction;" (.ref (w 2))) (S_3 : Sta Z Z.heap "com/example/placerfill/placerfill/PlacerAction" "DISCONTINUE" "Lcom/example/placerfill/placerfill/PlacerAction;" (.ref (w 3))) (S_4 : Sta Z Z.heap "com/example/placerfill/placerfill/PlacerAction" "HOLD" "Lcom/example/placerfill/placerfill/PlacerAction;" (.ref (w 4))) (S_5 : Sta Z Z.heap "com/example/placerfill/placerfill/PlacerAction" "RESUME" "Lcom/example/placerfill/placerfill/PlacerAction;" (.ref (w 5))) (S_6 : Sta Z Z.heap "com/example/placerfill/placerfill/PlacerAction" "CANCEL" "Lcom/example/placerfill/placerfill/PlacerAction;" (.ref (w 6))) (S_7 : Sta Z Z.heap "com/example/placerfill/placerfill/PlacerAction" "REPLACE" "Lcom/example/placerfill/placerfill/PlacerAction;" (.ref (w 7))) (S_8 : Sta Z Z.heap "com/example/placerfill/placerfill/PlacerAction" "REPLACEMENT" "Lcom/example/placerfill/placerfill/PlacerAction;" (.ref (w 8))) (hE : ∀ n, n < 9 → Exa Z Z.heap (w n) "com/example/placerfill/placerfill/PlacerAction") (hb9 : ¬ i < 0 ∧ i < (9 : Int32)) :
    MetFree l (⟨"com/example/placerfill/placerfill/PlacerActionJoinsPinLaw", "pick", "(I)Lcom/example/placerfill/placerfill/PlacerAction;"⟩ : MethodName) (head1 (Jvm.Cond.code (⟨"com/example/placerfill/placerfill/PlacerActionJoinsPinLaw", "pick", "(I)Lcom/example/placerfill/placerfill/PlacerAction;"⟩ : MethodName) method_2_code 2 (some (.object "com/example/placerfill/placerfill/PlacerAction")) :: ws) ({ frames := 0, cells := 1, slots := 9, locals := 0 } : Room)) (fun ar U => ar = #[(.int i)] ∧ Z.Warmed39 U.vm ∧ U.heap = h0) (fun _ _ _ _ _ => True) (fun _ U o U' => ∃ v L, o = .returned v ∧ Q_rm_pick Z i w h0 n0 v U'.heap L ∧ FrameEnd U o U' L ({ frames := 0, cells := 1, slots := 9, locals := 0 } : Room).cells ({ frames := 0, cells := 1, slots := 9, locals := 0 } : Room).slots) := by
  refine own_enter (Q := (Q_rm_pick Z i w h0 n0)) pl_1 ?_
  intro p e s m below meth c s₁ X0 hx hZ hby hml hown hnm hret hlk e0
  have N0 := Fr.nil n0
  refine own_by (fun tz kz => castTop (g' := (mkF m 0 #[.val (.int i), .unset] [])) (by first | rfl | (simp [entryFrame, mkF, argsToLocals, Value.category]; done)) kz) ?_
  have K0 := Keep.refl h0 []
  show own_Go p e below s _ _ (s₁.setTop (mkF m 0 #[.val (.int i), .unset] []))
  refine own_by (fun tz kz => XS.bipush X0.here hx rfl (hb hby d1_0) kz) ?_
  show own_Go p e below s _ _ (s₁.setTop (mkF m 2 #[.val (.int i), .unset] [(.int (9 : Int32))]))
  obtain ⟨T1, h1, k1, X1, e1, E1, A1, Q1, st1⟩ := newR X0 hx hZ hown (hw _ (List.mem_of_getElem? (i := 5) rfl)) (hw _ (List.mem_of_getElem? (i := 6) rfl)) e0 (g := (mkF m 2 #[.val (.int i), .unset] [(.int (9 : Int32))])) rfl (hb hby d1_2) rfl (by decide) (cap := 9) (by decide) (by decide) (by decide) (by decide)
  obtain ⟨b1, g1⟩ : ∃ z, z = h0.size := ⟨_, rfl⟩
  rw [← g1] at A1 st1
  have g_b1 : n0 ≤ b1 := by rw [g1]; exact O0.1 ▸ O0.2.1
  have sz_b1 : h0.size ≤ b1 := by rw [g1]; exact K0.1
  have O1 := O0.ext E1
  have K1 := K0.ext E1
  refine own_by st1 ?_
  have V1 : Arv Z h1 b1 k1 (.object "com/example/placerfill/placerfill/PlacerAction") (9 : Int32) [.null, .null, .null, .null, .null, .null, .null, .null, .null] .null := (Arv.new A1 (by decide)).pad (pad_rep [] .null 9)
  show own_Go p e below s _ _ (T1.setTop (mkF m 5 #[.val (.int i), .unset] [(.ref b1)]))
  refine own_by (fun tz kz => XS.dup X1.here hx rfl (hb hby d1_5) rfl rfl kz) ?_
  show own_Go p e below s _ _ (T1.setTop (mkF m 6 #[.val (.int i), .unset] [(.ref b1), (.ref b1)]))
  refine own_by (fun tz kz => XS.iconst X1.here hx rfl (hb hby d1_6) kz) ?_
  show own_Go p e below s _ _ (T1.setTop (mkF m 7 #[.val (.int i), .unset] [(.int (0 : Int32)), (.ref b1), (.ref b1)]))
  obtain ⟨T2, X2, e2, st2⟩ := getS2 X1 hx hZ hown (host := "") (Or.inl (hw _ (List.mem_of_getElem? (i := 7) rfl))) Via.refl e1 (S_0.ext O1.2) (g := (mkF m 7 #[.val (.int i), .unset] [(.int (0 : Int32)), (.ref b1), (.ref b1)])) rfl (hb hby d1_7)
  refine own_by st2 ?_
  show own_Go p e below s _ _ (T2.setTop (mkF m 10 #[.val (.int i), .unset] [(.ref (w 0)), (.int (0 : Int32)), (.ref b1), (.ref b1)]))
  obtain ⟨c3, Ar3, q3, S3, M3, Hh3, G3⟩ := id V1
  have hin3 : ¬ ((0 : Int32) < 0 ∨ c3.slots.size ≤ ((0 : Int32)).toNatClampNeg) := inb_of S3 ⟨by decide, by decide⟩
  obtain ⟨T3, h3, X3, e3, W3, st3⟩ := stR X2 hx hZ e2 Ar3 (j := (0 : Int32)) hin3 rfl (Sto.ofV Ar3 q3 Q1 (Ins.self ((hE 0 (by decide)).ext O1.2))) (g := (mkF m 10 #[.val (.int i), .unset] [(.ref (w 0)), (.int (0 : Int32)), (.ref b1), (.ref b1)])) rfl rfl (hb hby d1_10)
  have V3 : Arv Z h3 b1 k1 (.object "com/example/placerfill/placerfill/PlacerAction") (9 : Int32) [(.ref (w 0)), .null, .null, .null, .null, .null, .null, .null, .null] .null := Arv.set Ar3 q3 S3 M3 Hh3 G3 rfl W3 0 (by decide) (Nat.le_of_ble_eq_true rfl)
  have O3 := O1.wr W3 g_b1
  have N3 := Fr.snoc X3 N0 g_b1
  have K3 := K1.wr W3 (Or.inr sz_b1)
  refine own_by st3 ?_
  show own_Go p e below s _ _ (T3.setTop (mkF m 11 #[.val (.int i), .unset] [(.ref b1)]))
  refine own_by (fun tz kz => XS.dup X3.here hx rfl (hb hby d1_11) rfl rfl kz) ?_
  show own_Go p e below s _ _ (T3.setTop (mkF m 12 #[.val (.int i), .unset] [(.ref b1), (.ref b1)]))
  refine own_by (fun tz kz => XS.iconst X3.here hx rfl (hb hby d1_12) kz) ?_
  show own_Go p e below s _ _ (T3.setTop (mkF m 13 #[.val (.int i), .unset] [(.int (1 : Int32)), (.ref b1), (.ref b1)]))
  obtain ⟨T4, X4, e4, st4⟩ := getS2 X3 hx hZ hown (host := "") (Or.inl (hw _ (List.mem_of_getElem? (i := 11) rfl))) Via.refl e3 (S_1.ext O3.2) (g := (mkF m 13 #[.val (.int i), .unset] [(.int (1 : Int32)), (.ref b1), (.ref b1)])) rfl (hb hby d1_13)
  refine own_by st4 ?_
  show own_Go p e below s _ _ (T4.setTop (mkF m 16 #[.val (.int i), .unset] [(.ref (w 1)), (.int (1 : Int32)), (.ref b1), (.ref b1)]))
  obtain ⟨c5, Ar5, q5, S5, M5, Hh5, G5⟩ := id V3
  have hin5 : ¬ ((1 : Int32) < 0 ∨ c5.slots.size ≤ ((1 : Int32)).toNatClampNeg) := inb_of S5 ⟨by decide, by decide⟩
  obtain ⟨T5, h5, X5, e5, W5, st5⟩ := stR X4 hx hZ e4 Ar5 (j := (1 : Int32)) hin5 rfl (Sto.ofV Ar5 q5 Q1 (Ins.self ((hE 1 (by decide)).ext O3.2))) (g := (mkF m 16 #[.val (.int i), .unset] [(.ref (w 1)), (.int (1 : Int32)), (.ref b1), (.ref b1)])) rfl rfl (hb hby d1_16)
  have V5 : Arv Z h5 b1 k1 (.object "com/example/placerfill/placerfill/PlacerAction") (9 : Int32) [(.ref (w 0)), (.ref (w 1)), .null, .null, .null, .null, .null, .null, .null] .null := Arv.set Ar5 q5 S5 M5 Hh5 G5 rfl W5 1 (by decide) (Nat.le_of_ble_eq_true rfl)
  have O5 := O3.wr W5 g_b1
  have N5 := Fr.snoc X5 N3 g_b1
  have K5 := K3.wr W5 (Or.inr sz_b1)
  refine own_by st5 ?_
  show own_Go p e below s _ _ (T5.setTop (mkF m 17 #[.val (.int i), .unset] [(.ref b1)]))
  refine own_by (fun tz kz => XS.dup X5.here hx rfl (hb hby d1_17) rfl rfl kz) ?_
  show own_Go p e below s _ _ (T5.setTop (mkF m 18 #[.val (.int i), .unset] [(.ref b1), (.ref b1)]))
  refine own_by (fun tz kz => XS.iconst X5.here hx rfl (hb hby d1_18) kz) ?_
  show own_Go p e below s _ _ (T5.setTop (mkF m 19 #[.val (.int i), .unset] [(.int (2 : Int32)), (.ref b1), (.ref b1)]))
  obtain ⟨T6, X6, e6, st6⟩ := getS2 X5 hx hZ hown (host := "") (Or.inl (hw _ (List.mem_of_getElem? (i := 13) rfl))) Via.refl e5 (S_2.ext O5.2) (g := (mkF m 19 #[.val (.int i), .unset] [(.int (2 : Int32)), (.ref b1), (.ref b1)])) rfl (hb hby d1_19)
  refine own_by st6 ?_
  show own_Go p e below s _ _ (T6.setTop (mkF m 22 #[.val (.int i), .unset] [(.ref (w 2)), (.int (2 : Int32)), (.ref b1), (.ref b1)]))
  obtain ⟨c7, Ar7, q7, S7, M7, Hh7, G7⟩ := id V5
  have hin7 : ¬ ((2 : Int32) < 0 ∨ c7.slots.size ≤ ((2 : Int32)).toNatClampNeg) := inb_of S7 ⟨by decide, by decide⟩
  obtain ⟨T7, h7, X7, e7, W7, st7⟩ := stR X6 hx hZ e6 Ar7 (j := (2 : Int32)) hin7 rfl (Sto.ofV Ar7 q7 Q1 (Ins.self ((hE 2 (by decide)).ext O5.2))) (g := (mkF m 22 #[.val (.int i), .unset] [(.ref (w 2)), (.int (2 : Int32)), (.ref b1), (.ref b1)])) rfl rfl (hb hby d1_22)
  have V7 : Arv Z h7 b1 k1 (.object "com/example/placerfill/placerfill/PlacerAction") (9 : Int32) [(.ref (w 0)), (.ref (w 1)), (.ref (w 2)), .null, .null, .null, .null, .null, .null] .null := Arv.set Ar7 q7 S7 M7 Hh7 G7 rfl W7 2 (by decide) (Nat.le_of_ble_eq_true rfl)
  have O7 := O5.wr W7 g_b1
  have N7 := Fr.snoc X7 N5 g_b1
  have K7 := K5.wr W7 (Or.inr sz_b1)
  refine own_by st7 ?_
  show own_Go p e below s _ _ (T7.setTop (mkF m 23 #[.val (.int i), .unset] [(.ref b1)]))
  refine own_by (fun tz kz => XS.dup X7.here hx rfl (hb hby d1_23) rfl rfl kz) ?_
  show own_Go p e below s _ _ (T7.setTop (mkF m 24 #[.val (.int i), .unset] [(.ref b1), (.ref b1)]))
  refine own_by (fun tz kz => XS.iconst X7.here hx rfl (hb hby d1_24) kz) ?_
  show own_Go p e below s _ _ (T7.setTop (mkF m 25 #[.val (.int i), .unset] [(.int (3 : Int32)), (.ref b1), (.ref b1)]))
  obtain ⟨T8, X8, e8, st8⟩ := getS2 X7 hx hZ hown (host := "") (Or.inl (hw _ (List.mem_of_getElem? (i := 15) rfl))) Via.refl e7 (S_3.ext O7.2) (g := (mkF m 25 #[.val (.int i), .unset] [(.int (3 : Int32)), (.ref b1), (.ref b1)])) rfl (hb hby d1_25)
  refine own_by st8 ?_
  show own_Go p e below s _ _ (T8.setTop (mkF m 28 #[.val (.int i), .unset] [(.ref (w 3)), (.int (3 : Int32)), (.ref b1), (.ref b1)]))
  obtain ⟨c9, Ar9, q9, S9, M9, Hh9, G9⟩ := id V7
  have hin9 : ¬ ((3 : Int32) < 0 ∨ c9.slots.size ≤ ((3 : Int32)).toNatClampNeg) := inb_of S9 ⟨by decide, by decide⟩
  obtain ⟨T9, h9, X9, e9, W9, st9⟩ := stR X8 hx hZ e8 Ar9 (j := (3 : Int32)) hin9 rfl (Sto.ofV Ar9 q9 Q1 (Ins.self ((hE 3 (by decide)).ext O7.2))) (g := (mkF m 28 #[.val (.int i), .unset] [(.ref (w 3)), (.int (3 : Int32)), (.ref b1), (.ref b1)])) rfl rfl (hb hby d1_28)
  have V9 : Arv Z h9 b1 k1 (.object "com/example/placerfill/placerfill/PlacerAction") (9 : Int32) [(.ref (w 0)), (.ref (w 1)), (.ref (w 2)), (.ref (w 3)), .null, .null, .null, .null, .null] .null := Arv.set Ar9 q9 S9 M9 Hh9 G9 rfl W9 3 (by decide) (Nat.le_of_ble_eq_true rfl)
  have O9 := O7.wr W9 g_b1
  have N9 := Fr.snoc X9 N7 g_b1
  have K9 := K7.wr W9 (Or.inr sz_b1)
  refine own_by st9 ?_
  show own_Go p e below s _ _ (T9.setTop (mkF m 29 #[.val (.int i), .unset] [(.ref b1)]))
  refine own_by (fun tz kz => XS.dup X9.here hx rfl (hb hby d1_29) rfl rfl kz) ?_
  show own_Go p e below s _ _ (T9.setTop (mkF m 30 #[.val (.int i), .unset] [(.ref b1), (.ref b1)]))
  refine own_by (fun tz kz => XS.iconst X9.here hx rfl (hb hby d1_30) kz) ?_
  show own_Go p e below s _ _ (T9.setTop (mkF m 31 #[.val (.int i), .unset] [(.int (4 : Int32)), (.ref b1), (.ref b1)]))
  obtain ⟨T10, X10, e10, st10⟩ := getS2 X9 hx hZ hown (host := "") (Or.inl (hw _ (List.mem_of_getElem? (i := 17) rfl))) Via.refl e9 (S_4.ext O9.2) (g := (mkF m 31 #[.val (.int i), .unset] [(.int (4 : Int32)), (.ref b1), (.ref b1)])) rfl (hb hby d1_31)
  refine own_by st10 ?_
  show own_Go p e below s _ _ (T10.setTop (mkF m 34 #[.val (.int i), .unset] [(.ref (w 4)), (.int (4 : Int32)), (.ref b1), (.ref b1)]))
  obtain ⟨c11, Ar11, q11, S11, M11, Hh11, G11⟩ := id V9
  have hin11 : ¬ ((4 : Int32) < 0 ∨ c11.slots.size ≤ ((4 : Int32)).toNatClampNeg) := inb_of S11 ⟨by decide, by decide⟩
  obtain ⟨T11, h11, X11, e11, W11, st11⟩ := stR X10 hx hZ e10 Ar11 (j := (4 : Int32)) hin11 rfl (Sto.ofV Ar11 q11 Q1 (Ins.self ((hE 4 (by decide)).ext O9.2))) (g := (mkF m 34 #[.val (.int i), .unset] [(.ref (w 4)), (.int (4 : Int32)), (.ref b1), (.ref b1)])) rfl rfl (hb hby d1_34)
  have V11 : Arv Z h11 b1 k1 (.object "com/example/placerfill/placerfill/PlacerAction") (9 : Int32) [(.ref (w 0)), (.ref (w 1)), (.ref (w 2)), (.ref (w 3)), (.ref (w 4)), .null, .null, .null, .null] .null := Arv.set Ar11 q11 S11 M11 Hh11 G11 rfl W11 4 (by decide) (Nat.le_of_ble_eq_true rfl)
  have O11 := O9.wr W11 g_b1
  have N11 := Fr.snoc X11 N9 g_b1
  have K11 := K9.wr W11 (Or.inr sz_b1)
  refine own_by st11 ?_
  show own_Go p e below s _ _ (T11.setTop (mkF m 35 #[.val (.int i), .unset] [(.ref b1)]))
  refine own_by (fun tz kz => XS.dup X11.here hx rfl (hb hby d1_35) rfl rfl kz) ?_
  show own_Go p e below s _ _ (T11.setTop (mkF m 36 #[.val (.int i), .unset] [(.ref b1), (.ref b1)]))
  refine own_by (fun tz kz => XS.iconst X11.here hx rfl (hb hby d1_36) kz) ?_
  show own_Go p e below s _ _ (T11.setTop (mkF m 37 #[.val (.int i), .unset] [(.int (5 : Int32)), (.ref b1), (.ref b1)]))
  obtain ⟨T12, X12, e12, st12⟩ := getS2 X11 hx hZ hown (host := "") (Or.inl (hw _ (List.mem_of_getElem? (i := 19) rfl))) Via.refl e11 (S_5.ext O11.2) (g := (mkF m 37 #[.val (.int i), .unset] [(.int (5 : Int32)), (.ref b1), (.ref b1)])) rfl (hb hby d1_37)
  refine own_by st12 ?_
  show own_Go p e below s _ _ (T12.setTop (mkF m 40 #[.val (.int i), .unset] [(.ref (w 5)), (.int (5 : Int32)), (.ref b1), (.ref b1)]))
  obtain ⟨c13, Ar13, q13, S13, M13, Hh13, G13⟩ := id V11
  have hin13 : ¬ ((5 : Int32) < 0 ∨ c13.slots.size ≤ ((5 : Int32)).toNatClampNeg) := inb_of S13 ⟨by decide, by decide⟩
  obtain ⟨T13, h13, X13, e13, W13, st13⟩ := stR X12 hx hZ e12 Ar13 (j := (5 : Int32)) hin13 rfl (Sto.ofV Ar13 q13 Q1 (Ins.self ((hE 5 (by decide)).ext O11.2))) (g := (mkF m 40 #[.val (.int i), .unset] [(.ref (w 5)), (.int (5 : Int32)), (.ref b1), (.ref b1)])) rfl rfl (hb hby d1_40)
  have V13 : Arv Z h13 b1 k1 (.object "com/example/placerfill/placerfill/PlacerAction") (9 : Int32) [(.ref (w 0)), (.ref (w 1)), (.ref (w 2)), (.ref (w 3)), (.ref (w 4)), (.ref (w 5)), .null, .null, .null] .null := Arv.set Ar13 q13 S13 M13 Hh13 G13 rfl W13 5 (by decide) (Nat.le_of_ble_eq_true rfl)
  have O13 := O11.wr W13 g_b1
  have N13 := Fr.snoc X13 N11 g_b1
  have K13 := K11.wr W13 (Or.inr sz_b1)
  refine own_by st13 ?_
  show own_Go p e below s _ _ (T13.setTop (mkF m 41 #[.val (.int i), .unset] [(.ref b1)]))
  refine own_by (fun tz kz => XS.dup X13.here hx rfl (hb hby d1_41) rfl rfl kz) ?_
  show own_Go p e below s _ _ (T13.setTop (mkF m 42 #[.val (.int i), .unset] [(.ref b1), (.ref b1)]))
  refine own_by (fun tz kz => XS.bipush X13.here hx rfl (hb hby d1_42) kz) ?_
  show own_Go p e below s _ _ (T13.setTop (mkF m 44 #[.val (.int i), .unset] [(.int (6 : Int32)), (.ref b1), (.ref b1)]))
  obtain ⟨T14, X14, e14, st14⟩ := getS2 X13 hx hZ hown (host := "") (Or.inl (hw _ (List.mem_of_getElem? (i := 21) rfl))) Via.refl e13 (S_6.ext O13.2) (g := (mkF m 44 #[.val (.int i), .unset] [(.int (6 : Int32)), (.ref b1), (.ref b1)])) rfl (hb hby d1_44)
  refine own_by st14 ?_
  show own_Go p e below s _ _ (T14.setTop (mkF m 47 #[.val (.int i), .unset] [(.ref (w 6)), (.int (6 : Int32)), (.ref b1), (.ref b1)]))
  obtain ⟨c15, Ar15, q15, S15, M15, Hh15, G15⟩ := id V13
  have hin15 : ¬ ((6 : Int32) < 0 ∨ c15.slots.size ≤ ((6 : Int32)).toNatClampNeg) := inb_of S15 ⟨by decide, by decide⟩
  obtain ⟨T15, h15, X15, e15, W15, st15⟩ := stR X14 hx hZ e14 Ar15 (j := (6 : Int32)) hin15 rfl (Sto.ofV Ar15 q15 Q1 (Ins.self ((hE 6 (by decide)).ext O13.2))) (g := (mkF m 47 #[.val (.int i), .unset] [(.ref (w 6)), (.int (6 : Int32)), (.ref b1), (.ref b1)])) rfl rfl (hb hby d1_47)
  have V15 : Arv Z h15 b1 k1 (.object "com/example/placerfill/placerfill/PlacerAction") (9 : Int32) [(.ref (w 0)), (.ref (w 1)), (.ref (w 2)), (.ref (w 3)), (.ref (w 4)), (.ref (w 5)), (.ref (w 6)), .null, .null] .null := Arv.set Ar15 q15 S15 M15 Hh15 G15 rfl W15 6 (by decide) (Nat.le_of_ble_eq_true rfl)
  have O15 := O13.wr W15 g_b1
  have N15 := Fr.snoc X15 N13 g_b1
  have K15 := K13.wr W15 (Or.inr sz_b1)
  refine own_by st15 ?_
  show own_Go p e below s _ _ (T15.setTop (mkF m 48 #[.val (.int i), .unset] [(.ref b1)]))
  refine own_by (fun tz kz => XS.dup X15.here hx rfl (hb hby d1_48) rfl rfl kz) ?_
  show own_Go p e below s _ _ (T15.setTop (mkF m 49 #[.val (.int i), .unset] [(.ref b1), (.ref b1)]))
  refine own_by (fun tz kz => XS.bipush X15.here hx rfl (hb hby d1_49) kz) ?_
  show own_Go p e below s _ _ (T15.setTop (mkF m 51 #[.val (.int i), .unset] [(.int (7 : Int32)), (.ref b1), (.ref b1)]))
  obtain ⟨T16, X16, e16, st16⟩ := getS2 X15 hx hZ hown (host := "") (Or.inl (hw _ (List.mem_of_getElem? (i := 23) rfl))) Via.refl e15 (S_7.ext O15.2) (g := (mkF m 51 #[.val (.int i), .unset] [(.int (7 : Int32)), (.ref b1), (.ref b1)])) rfl (hb hby d1_51)
  refine own_by st16 ?_
  show own_Go p e below s _ _ (T16.setTop (mkF m 54 #[.val (.int i), .unset] [(.ref (w 7)), (.int (7 : Int32)), (.ref b1), (.ref b1)]))
  obtain ⟨c17, Ar17, q17, S17, M17, Hh17, G17⟩ := id V15
  have hin17 : ¬ ((7 : Int32) < 0 ∨ c17.slots.size ≤ ((7 : Int32)).toNatClampNeg) := inb_of S17 ⟨by decide, by decide⟩
  obtain ⟨T17, h17, X17, e17, W17, st17⟩ := stR X16 hx hZ e16 Ar17 (j := (7 : Int32)) hin17 rfl (Sto.ofV Ar17 q17 Q1 (Ins.self ((hE 7 (by decide)).ext O15.2))) (g := (mkF m 54 #[.val (.int i), .unset] [(.ref (w 7)), (.int (7 : Int32)), (.ref b1), (.ref b1)])) rfl rfl (hb hby d1_54)
  have V17 : Arv Z h17 b1 k1 (.object "com/example/placerfill/placerfill/PlacerAction") (9 : Int32) [(.ref (w 0)), (.ref (w 1)), (.ref (w 2)), (.ref (w 3)), (.ref (w 4)), (.ref (w 5)), (.ref (w 6)), (.ref (w 7)), .null] .null := Arv.set Ar17 q17 S17 M17 Hh17 G17 rfl W17 7 (by decide) (Nat.le_of_ble_eq_true rfl)
  have O17 := O15.wr W17 g_b1
  have N17 := Fr.snoc X17 N15 g_b1
  have K17 := K15.wr W17 (Or.inr sz_b1)
  refine own_by st17 ?_
  show own_Go p e below s _ _ (T17.setTop (mkF m 55 #[.val (.int i), .unset] [(.ref b1)]))
  refine own_by (fun tz kz => XS.dup X17.here hx rfl (hb hby d1_55) rfl rfl kz) ?_
  show own_Go p e below s _ _ (T17.setTop (mkF m 56 #[.val (.int i), .unset] [(.ref b1), (.ref b1)]))
  refine own_by (fun tz kz => XS.bipush X17.here hx rfl (hb hby d1_56) kz) ?_
  show own_Go p e below s _ _ (T17.setTop (mkF m 58 #[.val (.int i), .unset] [(.int (8 : Int32)), (.ref b1), (.ref b1)]))
  obtain ⟨T18, X18, e18, st18⟩ := getS2 X17 hx hZ hown (host := "") (Or.inl (hw _ (List.mem_of_getElem? (i := 25) rfl))) Via.refl e17 (S_8.ext O17.2) (g := (mkF m 58 #[.val (.int i), .unset] [(.int (8 : Int32)), (.ref b1), (.ref b1)])) rfl (hb hby d1_58)
  refine own_by st18 ?_
  show own_Go p e below s _ _ (T18.setTop (mkF m 61 #[.val (.int i), .unset] [(.ref (w 8)), (.int (8 : Int32)), (.ref b1), (.ref b1)]))
  obtain ⟨c19, Ar19, q19, S19, M19, Hh19, G19⟩ := id V17
  have hin19 : ¬ ((8 : Int32) < 0 ∨ c19.slots.size ≤ ((8 : Int32)).toNatClampNeg) := inb_of S19 ⟨by decide, by decide⟩
  obtain ⟨T19, h19, X19, e19, W19, st19⟩ := stR X18 hx hZ e18 Ar19 (j := (8 : Int32)) hin19 rfl (Sto.ofV Ar19 q19 Q1 (Ins.self ((hE 8 (by decide)).ext O17.2))) (g := (mkF m 61 #[.val (.int i), .unset] [(.ref (w 8)), (.int (8 : Int32)), (.ref b1), (.ref b1)])) rfl rfl (hb hby d1_61)
  have V19 : Arv Z h19 b1 k1 (.object "com/example/placerfill/placerfill/PlacerAction") (9 : Int32) [(.ref (w 0)), (.ref (w 1)), (.ref (w 2)), (.ref (w 3)), (.ref (w 4)), (.ref (w 5)), (.ref (w 6)), (.ref (w 7)), (.ref (w 8))] .null := Arv.set Ar19 q19 S19 M19 Hh19 G19 rfl W19 8 (by decide) (Nat.le_of_ble_eq_true rfl)
  have O19 := O17.wr W19 g_b1
  have N19 := Fr.snoc X19 N17 g_b1
  have K19 := K17.wr W19 (Or.inr sz_b1)
  refine own_by st19 ?_
  show own_Go p e below s _ _ (T19.setTop (mkF m 62 #[.val (.int i), .unset] [(.ref b1)]))
  refine own_by (fun tz kz => XS.astoreN X19.here hx rfl (hb hby d1_62) rfl rfl (l' := #[.val (.int i), .val (.ref b1)]) rfl kz) ?_
  show own_Go p e below s _ _ (T19.setTop (mkF m 63 #[.val (.int i), .val (.ref b1)] []))
  refine own_by (fun tz kz => XS.aloadN X19.here hx rfl (hb hby d1_63) rfl rfl kz) ?_
  show own_Go p e below s _ _ (T19.setTop (mkF m 64 #[.val (.int i), .val (.ref b1)] [(.ref b1)]))
  refine own_by (fun tz kz => XS.iloadN X19.here hx rfl (hb hby d1_64) rfl  kz) ?_
  show own_Go p e below s _ _ (T19.setTop (mkF m 65 #[.val (.int i), .val (.ref b1)] [(.int i), (.ref b1)]))
  obtain ⟨c20, Ar20, q20, S20, M20, Hh20, G20⟩ := id V19
  have hin20 : ¬ (i < 0 ∨ c20.slots.size ≤ (i).toNatClampNeg) := inb_of S20 hb9
  have hat20 := Has.at Hh20 hin20 (v := (.ref (w i.toNatClampNeg))) (own_nine w _ (own_lt9 hb9))
  refine own_by (fun tz kz => X19.aaload hx (j := i) (v := (.ref (w i.toNatClampNeg))) (by rw [e19]; exact Ar20.1) (State.isArrayOf_alike hZ.alike Ar20.2.1) rfl Ar20.2.2 hin20 hat20 (g := (mkF m 65 #[.val (.int i), .val (.ref b1)] [(.int i), (.ref b1)])) rfl rfl (hb hby d1_65) _ kz) ?_
  show own_Go p e below s _ _ (T19.setTop (mkF m 66 #[.val (.int i), .val (.ref b1)] [(.ref (w i.toNatClampNeg))]))
  refine own_retA X19 hx hlk (t := (.object "com/example/placerfill/placerfill/PlacerAction")) hret rfl rfl (hb hby d1_66) ?_ (by decide) (by decide)
  exact ⟨rfl, N19, by rw [e19]; exact K19⟩
def Q_rm_joins (Z : State) (a b : Addr) (w : Nat → Addr) (r : Int32) (h0 : Heap) (n0 : Nat) (v : Option Value) (h : Heap) (L : List Loc) : Prop := v = some (.int r) ∧ Fr n0 L ∧ h = h0
set_option maxRecDepth 65536 in
set_option maxHeartbeats 40000000 in
theorem rm_joins (l : Launch) (Z : State) (a0 : Array Value) (hw : ∀ d ∈ tables_1, d.before a0 Z = true) (ws : List Jvm.Cond) (a b : Addr) (w : Nat → Addr) (r : Int32) (h0 : Heap) (n0 : Nat) (O0 : Old Z n0 h0) (S_7 : Sta Z Z.heap "com/example/placerfill/placerfill/PlacerAction" "REPLACE" "Lcom/example/placerfill/placerfill/PlacerAction;" (.ref (w 7))) (S_8 : Sta Z Z.heap "com/example/placerfill/placerfill/PlacerAction" "REPLACEMENT" "Lcom/example/placerfill/placerfill/PlacerAction;" (.ref (w 8))) (hr : r = if a = w 7 then (if b = w 7 then (1 : Int32) else (0 : Int32)) else if a = w 8 then (if b = w 7 ∨ b = w 8 then (1 : Int32) else (0 : Int32)) else (0 : Int32)) :
    MetFree l (⟨"com/example/placerfill/placerfill/PlacerAction", "joins", "(Lcom/example/placerfill/placerfill/PlacerAction;)Z"⟩ : MethodName) (head1 (Jvm.Cond.code (⟨"com/example/placerfill/placerfill/PlacerAction", "joins", "(Lcom/example/placerfill/placerfill/PlacerAction;)Z"⟩ : MethodName) prog_56_method_8_code 3 (some .boolean) :: ws) ({ frames := 0, cells := 0, slots := 0, locals := 0 } : Room)) (fun ar U => ar = #[(.ref a), (.ref b)] ∧ Z.Warmed39 U.vm ∧ U.heap = h0) (fun _ _ _ _ _ => True) (fun _ U o U' => ∃ v L, o = .returned v ∧ Q_rm_joins Z a b w r h0 n0 v U'.heap L ∧ FrameEnd U o U' L ({ frames := 0, cells := 0, slots := 0, locals := 0 } : Room).cells ({ frames := 0, cells := 0, slots := 0, locals := 0 } : Room).slots) := by
  refine own_enter (Q := (Q_rm_joins Z a b w r h0 n0)) pl_2 ?_
  intro p e s m below meth c s₁ X0 hx hZ hby hml hown hnm hret hlk e0
  have N0 := Fr.nil n0
  refine own_by (fun tz kz => castTop (g' := (mkF m 0 #[.val (.ref a), .val (.ref b), .unset] [])) (by first | rfl | (simp [entryFrame, mkF, argsToLocals, Value.category]; done)) kz) ?_
  show own_Go p e below s _ _ (s₁.setTop (mkF m 0 #[.val (.ref a), .val (.ref b), .unset] []))
  refine own_by (fun tz kz => XS.aloadN X0.here hx rfl (hb hby d2_0) rfl rfl kz) ?_
  show own_Go p e below s _ _ (s₁.setTop (mkF m 1 #[.val (.ref a), .val (.ref b), .unset] [(.ref a)]))
  obtain ⟨T1, X1, e1, st1⟩ := getS2 X0 hx hZ hown (host := "") (Or.inl (hw _ (List.mem_of_getElem? (i := 32) rfl))) Via.refl e0 (S_7.ext O0.2) (g := (mkF m 1 #[.val (.ref a), .val (.ref b), .unset] [(.ref a)])) rfl (hb hby d2_1)
  refine own_by st1 ?_
  show own_Go p e below s _ _ (T1.setTop (mkF m 4 #[.val (.ref a), .val (.ref b), .unset] [(.ref (w 7)), (.ref a)]))
  by_cases hc4_2 : a = (w 7)
  · refine own_by (fun tz kz => Jvm.RoadKit.acmp (g := (mkF m 4 #[.val (.ref a), .val (.ref b), .unset] [(.ref (w 7)), (.ref a)])) X1 hx rfl rfl rfl (pc0 := 4) (pc' := 7) (same := true) rfl (hb hby d2_4) rfl (decide_eq_true (congrArg Value.ref hc4_2)) (by decide) (by decide) kz) ?_
    show own_Go p e below s _ _ (T1.setTop (mkF m 7 #[.val (.ref a), .val (.ref b), .unset] []))
    refine own_by (fun tz kz => XS.aloadN X1.here hx rfl (hb hby d2_7) rfl rfl kz) ?_
    show own_Go p e below s _ _ (T1.setTop (mkF m 8 #[.val (.ref a), .val (.ref b), .unset] [(.ref b)]))
    obtain ⟨T3, X3, e3, st3⟩ := getS2 X1 hx hZ hown (host := "") (Or.inl (hw _ (List.mem_of_getElem? (i := 32) rfl))) Via.refl e1 (S_7.ext O0.2) (g := (mkF m 8 #[.val (.ref a), .val (.ref b), .unset] [(.ref b)])) rfl (hb hby d2_8)
    refine own_by st3 ?_
    show own_Go p e below s _ _ (T3.setTop (mkF m 11 #[.val (.ref a), .val (.ref b), .unset] [(.ref (w 7)), (.ref b)]))
    by_cases hc11_4 : b = (w 7)
    · refine own_by (fun tz kz => Jvm.RoadKit.acmp (g := (mkF m 11 #[.val (.ref a), .val (.ref b), .unset] [(.ref (w 7)), (.ref b)])) X3 hx rfl rfl rfl (pc0 := 11) (pc' := 14) (same := true) rfl (hb hby d2_11) rfl (decide_eq_true (congrArg Value.ref hc11_4)) (by decide) (by decide) kz) ?_
      show own_Go p e below s _ _ (T3.setTop (mkF m 14 #[.val (.ref a), .val (.ref b), .unset] []))
      refine own_by (fun tz kz => XS.iconst X3.here hx rfl (hb hby d2_14) kz) ?_
      show own_Go p e below s _ _ (T3.setTop (mkF m 15 #[.val (.ref a), .val (.ref b), .unset] [(.int (1 : Int32))]))
      refine own_by (fun tz kz => XS.goto X3.here hx rfl (pc0 := 15) (pc' := 19) rfl (hb hby d2_15) (by decide) (by decide) kz) ?_
      show own_Go p e below s _ _ (T3.setTop (mkF m 19 #[.val (.ref a), .val (.ref b), .unset] [(.int (1 : Int32))]))
      refine own_by (fun tz kz => XS.istoreN X3.here hx rfl (hb hby d2_19) rfl (l' := #[.val (.ref a), .val (.ref b), .val (.int (1 : Int32))]) rfl kz) ?_
      show own_Go p e below s _ _ (T3.setTop (mkF m 20 #[.val (.ref a), .val (.ref b), .val (.int (1 : Int32))] []))
      refine own_by (fun tz kz => XS.goto X3.here hx rfl (pc0 := 20) (pc' := 55) rfl (hb hby d2_20) (by decide) (by decide) kz) ?_
      show own_Go p e below s _ _ (T3.setTop (mkF m 55 #[.val (.ref a), .val (.ref b), .val (.int (1 : Int32))] []))
      refine own_by (fun tz kz => XS.iloadN X3.here hx rfl (hb hby d2_55) rfl  kz) ?_
      show own_Go p e below s _ _ (T3.setTop (mkF m 56 #[.val (.ref a), .val (.ref b), .val (.int (1 : Int32))] [(.int (1 : Int32))]))
      refine own_retI X3 hx hlk (t := .boolean) hret (by simp) rfl (hb hby d2_56) ?_ (by decide) (by decide)
      exact ⟨by simp [hr, hc4_2, hc11_4], N0, e3⟩
    · refine own_by (fun tz kz => Jvm.RoadKit.acmp (g := (mkF m 11 #[.val (.ref a), .val (.ref b), .unset] [(.ref (w 7)), (.ref b)])) X3 hx rfl rfl rfl (pc0 := 11) (pc' := 18) (same := false) rfl (hb hby d2_11) rfl (decide_eq_false fun q => hc11_4 (Value.ref.inj q)) (by decide) (by decide) kz) ?_
      show own_Go p e below s _ _ (T3.setTop (mkF m 18 #[.val (.ref a), .val (.ref b), .unset] []))
      refine own_by (fun tz kz => XS.iconst X3.here hx rfl (hb hby d2_18) kz) ?_
      show own_Go p e below s _ _ (T3.setTop (mkF m 19 #[.val (.ref a), .val (.ref b), .unset] [(.int (0 : Int32))]))
      refine own_by (fun tz kz => XS.istoreN X3.here hx rfl (hb hby d2_19) rfl (l' := #[.val (.ref a), .val (.ref b), .val (.int (0 : Int32))]) rfl kz) ?_
      show own_Go p e below s _ _ (T3.setTop (mkF m 20 #[.val (.ref a), .val (.ref b), .val (.int (0 : Int32))] []))
      refine own_by (fun tz kz => XS.goto X3.here hx rfl (pc0 := 20) (pc' := 55) rfl (hb hby d2_20) (by decide) (by decide) kz) ?_
      show own_Go p e below s _ _ (T3.setTop (mkF m 55 #[.val (.ref a), .val (.ref b), .val (.int (0 : Int32))] []))
      refine own_by (fun tz kz => XS.iloadN X3.here hx rfl (hb hby d2_55) rfl  kz) ?_
      show own_Go p e below s _ _ (T3.setTop (mkF m 56 #[.val (.ref a), .val (.ref b), .val (.int (0 : Int32))] [(.int (0 : Int32))]))
      refine own_retI X3 hx hlk (t := .boolean) hret (by simp) rfl (hb hby d2_56) ?_ (by decide) (by decide)
      exact ⟨by simp [hr, hc4_2, hc11_4], N0, e3⟩
  · refine own_by (fun tz kz => Jvm.RoadKit.acmp (g := (mkF m 4 #[.val (.ref a), .val (.ref b), .unset] [(.ref (w 7)), (.ref a)])) X1 hx rfl rfl rfl (pc0 := 4) (pc' := 23) (same := false) rfl (hb hby d2_4) rfl (decide_eq_false fun q => hc4_2 (Value.ref.inj q)) (by decide) (by decide) kz) ?_
    show own_Go p e below s _ _ (T1.setTop (mkF m 23 #[.val (.ref a), .val (.ref b), .unset] []))
    refine own_by (fun tz kz => XS.aloadN X1.here hx rfl (hb hby d2_23) rfl rfl kz) ?_
    show own_Go p e below s _ _ (T1.setTop (mkF m 24 #[.val (.ref a), .val (.ref b), .unset] [(.ref a)]))
    obtain ⟨T5, X5, e5, st5⟩ := getS2 X1 hx hZ hown (host := "") (Or.inl (hw _ (List.mem_of_getElem? (i := 33) rfl))) Via.refl e1 (S_8.ext O0.2) (g := (mkF m 24 #[.val (.ref a), .val (.ref b), .unset] [(.ref a)])) rfl (hb hby d2_24)
    refine own_by st5 ?_
    show own_Go p e below s _ _ (T5.setTop (mkF m 27 #[.val (.ref a), .val (.ref b), .unset] [(.ref (w 8)), (.ref a)]))
    by_cases hc27_6 : a = (w 8)
    · refine own_by (fun tz kz => Jvm.RoadKit.acmp (g := (mkF m 27 #[.val (.ref a), .val (.ref b), .unset] [(.ref (w 8)), (.ref a)])) X5 hx rfl rfl rfl (pc0 := 27) (pc' := 30) (same := true) rfl (hb hby d2_27) rfl (decide_eq_true (congrArg Value.ref hc27_6)) (by decide) (by decide) kz) ?_
      show own_Go p e below s _ _ (T5.setTop (mkF m 30 #[.val (.ref a), .val (.ref b), .unset] []))
      refine own_by (fun tz kz => XS.aloadN X5.here hx rfl (hb hby d2_30) rfl rfl kz) ?_
      show own_Go p e below s _ _ (T5.setTop (mkF m 31 #[.val (.ref a), .val (.ref b), .unset] [(.ref b)]))
      obtain ⟨T7, X7, e7, st7⟩ := getS2 X5 hx hZ hown (host := "") (Or.inl (hw _ (List.mem_of_getElem? (i := 32) rfl))) Via.refl e5 (S_7.ext O0.2) (g := (mkF m 31 #[.val (.ref a), .val (.ref b), .unset] [(.ref b)])) rfl (hb hby d2_31)
      refine own_by st7 ?_
      show own_Go p e below s _ _ (T7.setTop (mkF m 34 #[.val (.ref a), .val (.ref b), .unset] [(.ref (w 7)), (.ref b)]))
      by_cases hc34_8 : b = (w 7)
      · refine own_by (fun tz kz => Jvm.RoadKit.acmp (g := (mkF m 34 #[.val (.ref a), .val (.ref b), .unset] [(.ref (w 7)), (.ref b)])) X7 hx rfl rfl rfl (pc0 := 34) (pc' := 44) (same := true) rfl (hb hby d2_34) rfl (decide_eq_true (congrArg Value.ref hc34_8)) (by decide) (by decide) kz) ?_
        show own_Go p e below s _ _ (T7.setTop (mkF m 44 #[.val (.ref a), .val (.ref b), .unset] []))
        refine own_by (fun tz kz => XS.iconst X7.here hx rfl (hb hby d2_44) kz) ?_
        show own_Go p e below s _ _ (T7.setTop (mkF m 45 #[.val (.ref a), .val (.ref b), .unset] [(.int (1 : Int32))]))
        refine own_by (fun tz kz => XS.goto X7.here hx rfl (pc0 := 45) (pc' := 49) rfl (hb hby d2_45) (by decide) (by decide) kz) ?_
        show own_Go p e below s _ _ (T7.setTop (mkF m 49 #[.val (.ref a), .val (.ref b), .unset] [(.int (1 : Int32))]))
        refine own_by (fun tz kz => XS.istoreN X7.here hx rfl (hb hby d2_49) rfl (l' := #[.val (.ref a), .val (.ref b), .val (.int (1 : Int32))]) rfl kz) ?_
        show own_Go p e below s _ _ (T7.setTop (mkF m 50 #[.val (.ref a), .val (.ref b), .val (.int (1 : Int32))] []))
        refine own_by (fun tz kz => XS.goto X7.here hx rfl (pc0 := 50) (pc' := 55) rfl (hb hby d2_50) (by decide) (by decide) kz) ?_
        show own_Go p e below s _ _ (T7.setTop (mkF m 55 #[.val (.ref a), .val (.ref b), .val (.int (1 : Int32))] []))
        refine own_by (fun tz kz => XS.iloadN X7.here hx rfl (hb hby d2_55) rfl  kz) ?_
        show own_Go p e below s _ _ (T7.setTop (mkF m 56 #[.val (.ref a), .val (.ref b), .val (.int (1 : Int32))] [(.int (1 : Int32))]))
        refine own_retI X7 hx hlk (t := .boolean) hret (by simp) rfl (hb hby d2_56) ?_ (by decide) (by decide)
        exact ⟨by simp [hr, hc4_2, hc27_6, hc34_8], N0, e7⟩
      · refine own_by (fun tz kz => Jvm.RoadKit.acmp (g := (mkF m 34 #[.val (.ref a), .val (.ref b), .unset] [(.ref (w 7)), (.ref b)])) X7 hx rfl rfl rfl (pc0 := 34) (pc' := 37) (same := false) rfl (hb hby d2_34) rfl (decide_eq_false fun q => hc34_8 (Value.ref.inj q)) (by decide) (by decide) kz) ?_
        show own_Go p e below s _ _ (T7.setTop (mkF m 37 #[.val (.ref a), .val (.ref b), .unset] []))
        refine own_by (fun tz kz => XS.aloadN X7.here hx rfl (hb hby d2_37) rfl rfl kz) ?_
        show own_Go p e below s _ _ (T7.setTop (mkF m 38 #[.val (.ref a), .val (.ref b), .unset] [(.ref b)]))
        obtain ⟨T9, X9, e9, st9⟩ := getS2 X7 hx hZ hown (host := "") (Or.inl (hw _ (List.mem_of_getElem? (i := 33) rfl))) Via.refl e7 (S_8.ext O0.2) (g := (mkF m 38 #[.val (.ref a), .val (.ref b), .unset] [(.ref b)])) rfl (hb hby d2_38)
        refine own_by st9 ?_
        show own_Go p e below s _ _ (T9.setTop (mkF m 41 #[.val (.ref a), .val (.ref b), .unset] [(.ref (w 8)), (.ref b)]))
        by_cases hc41_10 : b = (w 8)
        · refine own_by (fun tz kz => Jvm.RoadKit.acmp (g := (mkF m 41 #[.val (.ref a), .val (.ref b), .unset] [(.ref (w 8)), (.ref b)])) X9 hx rfl rfl rfl (pc0 := 41) (pc' := 44) (same := true) rfl (hb hby d2_41) rfl (decide_eq_true (congrArg Value.ref hc41_10)) (by decide) (by decide) kz) ?_
          show own_Go p e below s _ _ (T9.setTop (mkF m 44 #[.val (.ref a), .val (.ref b), .unset] []))
          refine own_by (fun tz kz => XS.iconst X9.here hx rfl (hb hby d2_44) kz) ?_
          show own_Go p e below s _ _ (T9.setTop (mkF m 45 #[.val (.ref a), .val (.ref b), .unset] [(.int (1 : Int32))]))
          refine own_by (fun tz kz => XS.goto X9.here hx rfl (pc0 := 45) (pc' := 49) rfl (hb hby d2_45) (by decide) (by decide) kz) ?_
          show own_Go p e below s _ _ (T9.setTop (mkF m 49 #[.val (.ref a), .val (.ref b), .unset] [(.int (1 : Int32))]))
          refine own_by (fun tz kz => XS.istoreN X9.here hx rfl (hb hby d2_49) rfl (l' := #[.val (.ref a), .val (.ref b), .val (.int (1 : Int32))]) rfl kz) ?_
          show own_Go p e below s _ _ (T9.setTop (mkF m 50 #[.val (.ref a), .val (.ref b), .val (.int (1 : Int32))] []))
          refine own_by (fun tz kz => XS.goto X9.here hx rfl (pc0 := 50) (pc' := 55) rfl (hb hby d2_50) (by decide) (by decide) kz) ?_
          show own_Go p e below s _ _ (T9.setTop (mkF m 55 #[.val (.ref a), .val (.ref b), .val (.int (1 : Int32))] []))
          refine own_by (fun tz kz => XS.iloadN X9.here hx rfl (hb hby d2_55) rfl  kz) ?_
          show own_Go p e below s _ _ (T9.setTop (mkF m 56 #[.val (.ref a), .val (.ref b), .val (.int (1 : Int32))] [(.int (1 : Int32))]))
          refine own_retI X9 hx hlk (t := .boolean) hret (by simp) rfl (hb hby d2_56) ?_ (by decide) (by decide)
          exact ⟨by simp [hr, hc4_2, hc27_6, hc34_8, hc41_10], N0, e9⟩
        · refine own_by (fun tz kz => Jvm.RoadKit.acmp (g := (mkF m 41 #[.val (.ref a), .val (.ref b), .unset] [(.ref (w 8)), (.ref b)])) X9 hx rfl rfl rfl (pc0 := 41) (pc' := 48) (same := false) rfl (hb hby d2_41) rfl (decide_eq_false fun q => hc41_10 (Value.ref.inj q)) (by decide) (by decide) kz) ?_
          show own_Go p e below s _ _ (T9.setTop (mkF m 48 #[.val (.ref a), .val (.ref b), .unset] []))
          refine own_by (fun tz kz => XS.iconst X9.here hx rfl (hb hby d2_48) kz) ?_
          show own_Go p e below s _ _ (T9.setTop (mkF m 49 #[.val (.ref a), .val (.ref b), .unset] [(.int (0 : Int32))]))
          refine own_by (fun tz kz => XS.istoreN X9.here hx rfl (hb hby d2_49) rfl (l' := #[.val (.ref a), .val (.ref b), .val (.int (0 : Int32))]) rfl kz) ?_
          show own_Go p e below s _ _ (T9.setTop (mkF m 50 #[.val (.ref a), .val (.ref b), .val (.int (0 : Int32))] []))
          refine own_by (fun tz kz => XS.goto X9.here hx rfl (pc0 := 50) (pc' := 55) rfl (hb hby d2_50) (by decide) (by decide) kz) ?_
          show own_Go p e below s _ _ (T9.setTop (mkF m 55 #[.val (.ref a), .val (.ref b), .val (.int (0 : Int32))] []))
          refine own_by (fun tz kz => XS.iloadN X9.here hx rfl (hb hby d2_55) rfl  kz) ?_
          show own_Go p e below s _ _ (T9.setTop (mkF m 56 #[.val (.ref a), .val (.ref b), .val (.int (0 : Int32))] [(.int (0 : Int32))]))
          refine own_retI X9 hx hlk (t := .boolean) hret (by simp) rfl (hb hby d2_56) ?_ (by decide) (by decide)
          exact ⟨by simp [hr, hc4_2, hc27_6, hc34_8, hc41_10], N0, e9⟩
    · refine own_by (fun tz kz => Jvm.RoadKit.acmp (g := (mkF m 27 #[.val (.ref a), .val (.ref b), .unset] [(.ref (w 8)), (.ref a)])) X5 hx rfl rfl rfl (pc0 := 27) (pc' := 53) (same := false) rfl (hb hby d2_27) rfl (decide_eq_false fun q => hc27_6 (Value.ref.inj q)) (by decide) (by decide) kz) ?_
      show own_Go p e below s _ _ (T5.setTop (mkF m 53 #[.val (.ref a), .val (.ref b), .unset] []))
      refine own_by (fun tz kz => XS.iconst X5.here hx rfl (hb hby d2_53) kz) ?_
      show own_Go p e below s _ _ (T5.setTop (mkF m 54 #[.val (.ref a), .val (.ref b), .unset] [(.int (0 : Int32))]))
      refine own_by (fun tz kz => XS.istoreN X5.here hx rfl (hb hby d2_54) rfl (l' := #[.val (.ref a), .val (.ref b), .val (.int (0 : Int32))]) rfl kz) ?_
      show own_Go p e below s _ _ (T5.setTop (mkF m 55 #[.val (.ref a), .val (.ref b), .val (.int (0 : Int32))] []))
      refine own_by (fun tz kz => XS.iloadN X5.here hx rfl (hb hby d2_55) rfl  kz) ?_
      show own_Go p e below s _ _ (T5.setTop (mkF m 56 #[.val (.ref a), .val (.ref b), .val (.int (0 : Int32))] [(.int (0 : Int32))]))
      refine own_retI X5 hx hlk (t := .boolean) hret (by simp) rfl (hb hby d2_56) ?_ (by decide) (by decide)
      exact ⟨by simp [hr, hc4_2, hc27_6], N0, e5⟩
def Q_rm0 (Z : State) (p0 p1 I J : Int32) (w : Nat → Addr) (h0 : Heap) (n0 : Nat) (v : Option Value) (h : Heap) (L : List Loc) : Prop := v = some (.int 1) ∧ Fr n0 L
set_option maxRecDepth 65536 in
set_option maxHeartbeats 40000000 in
theorem rm0 (l : Launch) (Z : State) (a0 : Array Value) (hw : ∀ d ∈ tables_1, d.before a0 Z = true) (ws : List Jvm.Cond) (p0 p1 I J : Int32) (w : Nat → Addr) (h0 : Heap) (n0 : Nat) (O0 : Old Z n0 h0) (S_0 : Sta Z Z.heap "com/example/placerfill/placerfill/PlacerAction" "CREATE" "Lcom/example/placerfill/placerfill/PlacerAction;" (.ref (w 0))) (S_1 : Sta Z Z.heap "com/example/placerfill/placerfill/PlacerAction" "CHANGE" "Lcom/example/placerfill/placerfill/PlacerAction;" (.ref (w 1))) (S_2 : Sta Z Z.heap "com/example/placerfill/placerfill/PlacerAction" "RENEW" "Lcom/example/placerfill/placerfill/PlacerAction;" (.ref (w 2))) (S_3 : Sta Z Z.heap "com/example/placerfill/placerfill/PlacerAction" "DISCONTINUE" "Lcom/example/placerfill/placerfill/PlacerAction;" (.ref (w 3))) (S_4 : Sta Z Z.heap "com/example/placerfill/placerfill/PlacerAction" "HOLD" "Lcom/example/placerfill/placerfill/PlacerAction;" (.ref (w 4))) (S_5 : Sta Z Z.heap "com/example/placerfill/placerfill/PlacerAction" "RESUME" "Lcom/example/placerfill/placerfill/PlacerAction;" (.ref (w 5))) (S_6 : Sta Z Z.heap "com/example/placerfill/placerfill/PlacerAction" "CANCEL" "Lcom/example/placerfill/placerfill/PlacerAction;" (.ref (w 6))) (S_7 : Sta Z Z.heap "com/example/placerfill/placerfill/PlacerAction" "REPLACE" "Lcom/example/placerfill/placerfill/PlacerAction;" (.ref (w 7))) (S_8 : Sta Z Z.heap "com/example/placerfill/placerfill/PlacerAction" "REPLACEMENT" "Lcom/example/placerfill/placerfill/PlacerAction;" (.ref (w 8))) (hE : ∀ n, n < 9 → Exa Z Z.heap (w n) "com/example/placerfill/placerfill/PlacerAction") (hI : I = (p0 &&& (2147483647 : Int32)) % (9 : Int32)) (hJ : J = (p1 &&& (2147483647 : Int32)) % (9 : Int32)) (hI9 : ¬ I < 0 ∧ I < (9 : Int32)) (hJ9 : ¬ J < 0 ∧ J < (9 : Int32)) (eI7 : w I.toNatClampNeg = w 7 ↔ I = (7 : Int32)) (eI8 : w I.toNatClampNeg = w 8 ↔ I = (8 : Int32)) (eJ7 : w J.toNatClampNeg = w 7 ↔ J = (7 : Int32)) (eJ8 : w J.toNatClampNeg = w 8 ↔ J = (8 : Int32)) :
    MetFree l x (head1 (Jvm.Cond.code x code maxLocals ret :: ws) room_1) (fun ar U => ar = #[(.int p0), (.int p1)] ∧ Z.Warmed39 U.vm ∧ U.heap = h0) (fun _ _ _ _ _ => True) (fun _ U o U' => ∃ v L, o = .returned v ∧ Q_rm0 Z p0 p1 I J w h0 n0 v U'.heap L ∧ FrameEnd U o U' L room_1.cells room_1.slots) := by
  refine own_enter (Q := (Q_rm0 Z p0 p1 I J w h0 n0)) pl_0 ?_
  intro p e s m below meth c s₁ X0 hx hZ hby hml hown hnm hret hlk e0
  have N0 := Fr.nil n0
  refine own_by (fun tz kz => castTop (g' := (mkF m 0 #[.val (.int p0), .val (.int p1), .unset, .unset, .unset, .unset, .unset] [])) (by first | rfl | (simp [entryFrame, mkF, argsToLocals, Value.category, maxLocals]; done)) kz) ?_
  have K0 := Keep.refl h0 []
  show own_Go p e below s _ _ (s₁.setTop (mkF m 0 #[.val (.int p0), .val (.int p1), .unset, .unset, .unset, .unset, .unset] []))
  refine own_by (fun tz kz => XS.iloadN X0.here hx rfl (hb hby at_0) rfl  kz) ?_
  show own_Go p e below s _ _ (s₁.setTop (mkF m 1 #[.val (.int p0), .val (.int p1), .unset, .unset, .unset, .unset, .unset] [(.int p0)]))
  refine own_by (fun tz kz => X0.ldcInt hx hown (mvT hZ (hw _ (List.mem_of_getElem? (i := 0) rfl))) (g := (mkF m 1 #[.val (.int p0), .val (.int p1), .unset, .unset, .unset, .unset, .unset] [(.int p0)])) rfl (hb hby at_1) _ kz) ?_
  show own_Go p e below s _ _ (s₁.setTop (mkF m 3 #[.val (.int p0), .val (.int p1), .unset, .unset, .unset, .unset, .unset] [(.int (2147483647 : Int32)), (.int p0)]))
  refine own_by (fun tz kz => XS.iand X0.here hx rfl (hb hby at_3) rfl kz) ?_
  show own_Go p e below s _ _ (s₁.setTop (mkF m 4 #[.val (.int p0), .val (.int p1), .unset, .unset, .unset, .unset, .unset] [(.int (p0 &&& (2147483647 : Int32)))]))
  refine own_by (fun tz kz => XS.bipush X0.here hx rfl (hb hby at_4) kz) ?_
  show own_Go p e below s _ _ (s₁.setTop (mkF m 6 #[.val (.int p0), .val (.int p1), .unset, .unset, .unset, .unset, .unset] [(.int (9 : Int32)), (.int (p0 &&& (2147483647 : Int32)))]))
  refine own_by (fun tz kz => iremM X0 hx rfl (hb hby at_6) rfl (by decide) kz) ?_
  show own_Go p e below s _ _ (s₁.setTop (mkF m 7 #[.val (.int p0), .val (.int p1), .unset, .unset, .unset, .unset, .unset] [(.int ((p0 &&& (2147483647 : Int32)) % (9 : Int32)))]))
  refine own_by (fun tz kz => XS.istoreN X0.here hx rfl (hb hby at_7) rfl (l' := #[.val (.int p0), .val (.int p1), .val (.int ((p0 &&& (2147483647 : Int32)) % (9 : Int32))), .unset, .unset, .unset, .unset]) rfl kz) ?_
  rw [← hI]
  show own_Go p e below s _ _ (s₁.setTop (mkF m 8 #[.val (.int p0), .val (.int p1), .val (.int I), .unset, .unset, .unset, .unset] []))
  refine own_by (fun tz kz => XS.iloadN X0.here hx rfl (hb hby at_8) rfl  kz) ?_
  show own_Go p e below s _ _ (s₁.setTop (mkF m 9 #[.val (.int p0), .val (.int p1), .val (.int I), .unset, .unset, .unset, .unset] [(.int p1)]))
  refine own_by (fun tz kz => X0.ldcInt hx hown (mvT hZ (hw _ (List.mem_of_getElem? (i := 0) rfl))) (g := (mkF m 9 #[.val (.int p0), .val (.int p1), .val (.int I), .unset, .unset, .unset, .unset] [(.int p1)])) rfl (hb hby at_9) _ kz) ?_
  show own_Go p e below s _ _ (s₁.setTop (mkF m 11 #[.val (.int p0), .val (.int p1), .val (.int I), .unset, .unset, .unset, .unset] [(.int (2147483647 : Int32)), (.int p1)]))
  refine own_by (fun tz kz => XS.iand X0.here hx rfl (hb hby at_11) rfl kz) ?_
  show own_Go p e below s _ _ (s₁.setTop (mkF m 12 #[.val (.int p0), .val (.int p1), .val (.int I), .unset, .unset, .unset, .unset] [(.int (p1 &&& (2147483647 : Int32)))]))
  refine own_by (fun tz kz => XS.bipush X0.here hx rfl (hb hby at_12) kz) ?_
  show own_Go p e below s _ _ (s₁.setTop (mkF m 14 #[.val (.int p0), .val (.int p1), .val (.int I), .unset, .unset, .unset, .unset] [(.int (9 : Int32)), (.int (p1 &&& (2147483647 : Int32)))]))
  refine own_by (fun tz kz => iremM X0 hx rfl (hb hby at_14) rfl (by decide) kz) ?_
  show own_Go p e below s _ _ (s₁.setTop (mkF m 15 #[.val (.int p0), .val (.int p1), .val (.int I), .unset, .unset, .unset, .unset] [(.int ((p1 &&& (2147483647 : Int32)) % (9 : Int32)))]))
  refine own_by (fun tz kz => XS.istoreN X0.here hx rfl (hb hby at_15) rfl (l' := #[.val (.int p0), .val (.int p1), .val (.int I), .val (.int ((p1 &&& (2147483647 : Int32)) % (9 : Int32))), .unset, .unset, .unset]) rfl kz) ?_
  rw [← hJ]
  show own_Go p e below s _ _ (s₁.setTop (mkF m 16 #[.val (.int p0), .val (.int p1), .val (.int I), .val (.int J), .unset, .unset, .unset] []))
  refine own_by (fun tz kz => XS.iloadN X0.here hx rfl (hb hby at_16) rfl  kz) ?_
  show own_Go p e below s _ _ (s₁.setTop (mkF m 17 #[.val (.int p0), .val (.int p1), .val (.int I), .val (.int J), .unset, .unset, .unset] [(.int I)]))
  obtain ⟨_, _, ⟨T1, L1, k1, n1⟩, -, X1, ⟨Lc1, hQ1, l1, y1, z1⟩, st1⟩ := Jvm.LawKit.callS X0 hx (y := (⟨"com/example/placerfill/placerfill/PlacerActionJoinsPinLaw", "pick", "(I)Lcom/example/placerfill/placerfill/PlacerAction;"⟩ : MethodName)) hown (mvT hZ (hw _ (List.mem_of_getElem? (i := 1) rfl))) (mvT hZ (hw _ (List.mem_of_getElem? (i := 2) rfl))) (mvT hZ (hw _ (List.mem_of_getElem? (i := 3) rfl))) (mvT hZ (hw _ (List.mem_of_getElem? (i := 4) rfl))) (by decide) (backOf (W := 0) (rm_pick l Z a0 hw [] I w h0 n0 O0 S_0 S_1 S_2 S_3 S_4 S_5 S_6 S_7 S_8 hE hI9) hZ (hw _ (List.mem_of_getElem? (i := 4) rfl)) (hw _ (List.mem_of_getElem? (i := 3) rfl)) (by decide) (by decide)) (g := (mkF m 17 #[.val (.int p0), .val (.int p1), .val (.int I), .val (.int J), .unset, .unset, .unset] [(.int I)])) rfl (by rw [hml]; rfl) (argsL := [(.int I)]) (rest := []) (lenOf pd_0 rfl) rfl (by show 2 * 0 + _ ≤ _; exact Nat.le_of_eq rfl) (hb hby at_17) (fun _ _ => ⟨rfl, e0, (by decide : 0 + 1 ≤ _), (by decide : 0 + 9 ≤ _)⟩)
  dsimp only [Pt.U, Pt.locs, Pt.cells, Pt.slots] at X1 l1 y1 z1 st1 hQ1
  subst l1 y1 z1
  obtain ⟨rfl, Nq1, Kq1⟩ := hQ1
  have N1 := Fr.app N0 Nq1
  have e1 : T1.heap = T1.heap := rfl
  refine own_by st1 ?_
  have O1 := O0.keep Kq1 all0
  have K1 := K0.trans Kq1 all0
  show own_Go p e below s _ _ (T1.setTop (mkF m 20 #[.val (.int p0), .val (.int p1), .val (.int I), .val (.int J), .unset, .unset, .unset] [(.ref (w I.toNatClampNeg))]))
  refine own_by (fun tz kz => XS.astore X1.here hx rfl (hb hby at_20) rfl rfl (l' := #[.val (.int p0), .val (.int p1), .val (.int I), .val (.int J), .val (.ref (w I.toNatClampNeg)), .unset, .unset]) rfl kz) ?_
  show own_Go p e below s _ _ (T1.setTop (mkF m 22 #[.val (.int p0), .val (.int p1), .val (.int I), .val (.int J), .val (.ref (w I.toNatClampNeg)), .unset, .unset] []))
  refine own_by (fun tz kz => XS.iloadN X1.here hx rfl (hb hby at_22) rfl  kz) ?_
  show own_Go p e below s _ _ (T1.setTop (mkF m 23 #[.val (.int p0), .val (.int p1), .val (.int I), .val (.int J), .val (.ref (w I.toNatClampNeg)), .unset, .unset] [(.int J)]))
  obtain ⟨_, _, ⟨T2, L2, k2, n2⟩, -, X2, ⟨Lc2, hQ2, l2, y2, z2⟩, st2⟩ := Jvm.LawKit.callS X1 hx (y := (⟨"com/example/placerfill/placerfill/PlacerActionJoinsPinLaw", "pick", "(I)Lcom/example/placerfill/placerfill/PlacerAction;"⟩ : MethodName)) hown (mvT hZ (hw _ (List.mem_of_getElem? (i := 1) rfl))) (mvT hZ (hw _ (List.mem_of_getElem? (i := 2) rfl))) (mvT hZ (hw _ (List.mem_of_getElem? (i := 3) rfl))) (mvT hZ (hw _ (List.mem_of_getElem? (i := 4) rfl))) (by decide) (backOf (W := 0) (rm_pick l Z a0 hw [] J w T1.heap n0 O1 S_0 S_1 S_2 S_3 S_4 S_5 S_6 S_7 S_8 hE hJ9) hZ (hw _ (List.mem_of_getElem? (i := 4) rfl)) (hw _ (List.mem_of_getElem? (i := 3) rfl)) (by decide) (by decide)) (g := (mkF m 23 #[.val (.int p0), .val (.int p1), .val (.int I), .val (.int J), .val (.ref (w I.toNatClampNeg)), .unset, .unset] [(.int J)])) rfl (by rw [hml]; rfl) (argsL := [(.int J)]) (rest := []) (lenOf pd_0 rfl) rfl (by show 2 * 0 + _ ≤ _; exact Nat.le_of_eq rfl) (hb hby at_23) (fun _ _ => ⟨rfl, e1, (by decide : (0 + 1) + 1 ≤ _), (by decide : (0 + 9) + 9 ≤ _)⟩)
  dsimp only [Pt.U, Pt.locs, Pt.cells, Pt.slots] at X2 l2 y2 z2 st2 hQ2
  subst l2 y2 z2
  obtain ⟨rfl, Nq2, Kq2⟩ := hQ2
  have N2 := Fr.app N1 Nq2
  have e2 : T2.heap = T2.heap := rfl
  refine own_by st2 ?_
  have O2 := O1.keep Kq2 all0
  have K2 := K1.trans Kq2 all0
  show own_Go p e below s _ _ (T2.setTop (mkF m 26 #[.val (.int p0), .val (.int p1), .val (.int I), .val (.int J), .val (.ref (w I.toNatClampNeg)), .unset, .unset] [(.ref (w J.toNatClampNeg))]))
  refine own_by (fun tz kz => XS.astore X2.here hx rfl (hb hby at_26) rfl rfl (l' := #[.val (.int p0), .val (.int p1), .val (.int I), .val (.int J), .val (.ref (w I.toNatClampNeg)), .val (.ref (w J.toNatClampNeg)), .unset]) rfl kz) ?_
  show own_Go p e below s _ _ (T2.setTop (mkF m 28 #[.val (.int p0), .val (.int p1), .val (.int I), .val (.int J), .val (.ref (w I.toNatClampNeg)), .val (.ref (w J.toNatClampNeg)), .unset] []))
  refine own_by (fun tz kz => XS.iloadN X2.here hx rfl (hb hby at_28) rfl  kz) ?_
  show own_Go p e below s _ _ (T2.setTop (mkF m 29 #[.val (.int p0), .val (.int p1), .val (.int I), .val (.int J), .val (.ref (w I.toNatClampNeg)), .val (.ref (w J.toNatClampNeg)), .unset] [(.int I)]))
  refine own_by (fun tz kz => XS.bipush X2.here hx rfl (hb hby at_29) kz) ?_
  show own_Go p e below s _ _ (T2.setTop (mkF m 31 #[.val (.int p0), .val (.int p1), .val (.int I), .val (.int J), .val (.ref (w I.toNatClampNeg)), .val (.ref (w J.toNatClampNeg)), .unset] [(.int (7 : Int32)), (.int I)]))
  by_cases hc31_3 : I = (7 : Int32)
  · refine own_by (fun tz kz => XS.icmpNo X2.here hx rfl (hb hby at_31) rfl (teq hc31_3).2 kz) ?_
    show own_Go p e below s _ _ (T2.setTop (mkF m 34 #[.val (.int p0), .val (.int p1), .val (.int I), .val (.int J), .val (.ref (w I.toNatClampNeg)), .val (.ref (w J.toNatClampNeg)), .unset] []))
    refine own_by (fun tz kz => XS.iloadN X2.here hx rfl (hb hby at_34) rfl  kz) ?_
    show own_Go p e below s _ _ (T2.setTop (mkF m 35 #[.val (.int p0), .val (.int p1), .val (.int I), .val (.int J), .val (.ref (w I.toNatClampNeg)), .val (.ref (w J.toNatClampNeg)), .unset] [(.int J)]))
    refine own_by (fun tz kz => XS.bipush X2.here hx rfl (hb hby at_35) kz) ?_
    show own_Go p e below s _ _ (T2.setTop (mkF m 37 #[.val (.int p0), .val (.int p1), .val (.int I), .val (.int J), .val (.ref (w I.toNatClampNeg)), .val (.ref (w J.toNatClampNeg)), .unset] [(.int (7 : Int32)), (.int J)]))
    by_cases hc37_4 : J = (7 : Int32)
    · refine own_by (fun tz kz => XS.icmpYes X2.here hx rfl (pc0 := 37) (pc' := 64) rfl (hb hby at_37) rfl (teq hc37_4).1 (by decide) (by decide) kz) ?_
      show own_Go p e below s _ _ (T2.setTop (mkF m 64 #[.val (.int p0), .val (.int p1), .val (.int I), .val (.int J), .val (.ref (w I.toNatClampNeg)), .val (.ref (w J.toNatClampNeg)), .unset] []))
      refine own_by (fun tz kz => XS.iconst X2.here hx rfl (hb hby at_64) kz) ?_
      show own_Go p e below s _ _ (T2.setTop (mkF m 65 #[.val (.int p0), .val (.int p1), .val (.int I), .val (.int J), .val (.ref (w I.toNatClampNeg)), .val (.ref (w J.toNatClampNeg)), .unset] [(.int (1 : Int32))]))
      refine own_by (fun tz kz => XS.goto X2.here hx rfl (pc0 := 65) (pc' := 69) rfl (hb hby at_65) (by decide) (by decide) kz) ?_
      show own_Go p e below s _ _ (T2.setTop (mkF m 69 #[.val (.int p0), .val (.int p1), .val (.int I), .val (.int J), .val (.ref (w I.toNatClampNeg)), .val (.ref (w J.toNatClampNeg)), .unset] [(.int (1 : Int32))]))
      refine own_by (fun tz kz => XS.istore X2.here hx rfl (hb hby at_69) rfl (l' := #[.val (.int p0), .val (.int p1), .val (.int I), .val (.int J), .val (.ref (w I.toNatClampNeg)), .val (.ref (w J.toNatClampNeg)), .val (.int (1 : Int32))]) rfl kz) ?_
      show own_Go p e below s _ _ (T2.setTop (mkF m 71 #[.val (.int p0), .val (.int p1), .val (.int I), .val (.int J), .val (.ref (w I.toNatClampNeg)), .val (.ref (w J.toNatClampNeg)), .val (.int (1 : Int32))] []))
      refine own_by (fun tz kz => XS.aload X2.here hx rfl (hb hby at_71) rfl rfl kz) ?_
      show own_Go p e below s _ _ (T2.setTop (mkF m 73 #[.val (.int p0), .val (.int p1), .val (.int I), .val (.int J), .val (.ref (w I.toNatClampNeg)), .val (.ref (w J.toNatClampNeg)), .val (.int (1 : Int32))] [(.ref (w I.toNatClampNeg))]))
      refine own_by (fun tz kz => XS.aload X2.here hx rfl (hb hby at_73) rfl rfl kz) ?_
      show own_Go p e below s _ _ (T2.setTop (mkF m 75 #[.val (.int p0), .val (.int p1), .val (.int I), .val (.int J), .val (.ref (w I.toNatClampNeg)), .val (.ref (w J.toNatClampNeg)), .val (.int (1 : Int32))] [(.ref (w J.toNatClampNeg)), (.ref (w I.toNatClampNeg))]))
      obtain ⟨cq5, kq5, q5a, q5b, q5c⟩ := isOf hZ e2 ((hE _ (own_lt9 hI9)).ext O2.2)
      obtain ⟨_, _, ⟨T5, L5, k5, n5⟩, -, X5, ⟨Lc5, hQ5, l5, y5, z5⟩, st5⟩ := X2.virtualBack hx (y := (⟨"com/example/placerfill/placerfill/PlacerAction", "joins", "(Lcom/example/placerfill/placerfill/PlacerAction;)Z"⟩ : MethodName)) (z := (⟨"com/example/placerfill/placerfill/PlacerAction", "joins", "(Lcom/example/placerfill/placerfill/PlacerAction;)Z"⟩ : MethodName)) hown (mvT hZ (hw _ (List.mem_of_getElem? (i := 27) rfl))) (mvT hZ (hw _ (List.mem_of_getElem? (i := 28) rfl))) (notFace_of_selects (args := #[]) (mvT hZ (hw _ (List.mem_of_getElem? (i := 30) rfl)))) (mvT hZ (hw _ (List.mem_of_getElem? (i := 30) rfl))) (mvT hZ (hw _ (List.mem_of_getElem? (i := 29) rfl))) (by decide) (backOf (W := 0) (rm_joins l Z a0 hw [] (w I.toNatClampNeg) (w J.toNatClampNeg) w (1 : Int32) T2.heap n0 O2 S_7 S_8 (by rw [if_pos (eI7.mpr hc31_3), if_pos (eJ7.mpr hc37_4)])) hZ (hw _ (List.mem_of_getElem? (i := 31) rfl)) (hw _ (List.mem_of_getElem? (i := 8) rfl)) (by decide) (by decide)) q5a q5c (g := (mkF m 75 #[.val (.int p0), .val (.int p1), .val (.int I), .val (.int J), .val (.ref (w I.toNatClampNeg)), .val (.ref (w J.toNatClampNeg)), .val (.int (1 : Int32))] [(.ref (w J.toNatClampNeg)), (.ref (w I.toNatClampNeg))])) rfl (by rw [hml]; rfl) (Steps.refl _) (argsL := [(.ref (w J.toNatClampNeg))]) (rest := []) (lenOf pd_1 rfl) rfl (by show 2 * 0 + _ ≤ _; exact Nat.le_of_eq rfl) (hb hby at_75) (fun _ _ => ⟨rfl, e2, (by decide : ((0 + 1) + 1) + 0 ≤ _), (by decide : ((0 + 9) + 9) + 0 ≤ _)⟩)
      dsimp only [Pt.U, Pt.locs, Pt.cells, Pt.slots] at X5 l5 y5 z5 st5 hQ5
      subst l5 y5 z5
      obtain ⟨rfl, Nq5, e5⟩ := hQ5
      have N5 := Fr.app N2 Nq5
      refine own_via st5 ?_
      show own_Go p e below s _ _ (T5.setTop (mkF m 78 #[.val (.int p0), .val (.int p1), .val (.int I), .val (.int J), .val (.ref (w I.toNatClampNeg)), .val (.ref (w J.toNatClampNeg)), .val (.int (1 : Int32))] [(.int (1 : Int32))]))
      refine own_by (fun tz kz => XS.iload X5.here hx rfl (hb hby at_78) rfl  kz) ?_
      show own_Go p e below s _ _ (T5.setTop (mkF m 80 #[.val (.int p0), .val (.int p1), .val (.int I), .val (.int J), .val (.ref (w I.toNatClampNeg)), .val (.ref (w J.toNatClampNeg)), .val (.int (1 : Int32))] [(.int (1 : Int32)), (.int (1 : Int32))]))
      refine own_by (fun tz kz => XS.icmpNo X5.here hx rfl (hb hby at_80) rfl (teq (by decide : (1 : Int32) = (1 : Int32))).2 kz) ?_
      show own_Go p e below s _ _ (T5.setTop (mkF m 83 #[.val (.int p0), .val (.int p1), .val (.int I), .val (.int J), .val (.ref (w I.toNatClampNeg)), .val (.ref (w J.toNatClampNeg)), .val (.int (1 : Int32))] []))
      refine own_by (fun tz kz => XS.iconst X5.here hx rfl (hb hby at_83) kz) ?_
      show own_Go p e below s _ _ (T5.setTop (mkF m 84 #[.val (.int p0), .val (.int p1), .val (.int I), .val (.int J), .val (.ref (w I.toNatClampNeg)), .val (.ref (w J.toNatClampNeg)), .val (.int (1 : Int32))] [(.int (1 : Int32))]))
      refine own_by (fun tz kz => XS.goto X5.here hx rfl (pc0 := 84) (pc' := 88) rfl (hb hby at_84) (by decide) (by decide) kz) ?_
      show own_Go p e below s _ _ (T5.setTop (mkF m 88 #[.val (.int p0), .val (.int p1), .val (.int I), .val (.int J), .val (.ref (w I.toNatClampNeg)), .val (.ref (w J.toNatClampNeg)), .val (.int (1 : Int32))] [(.int (1 : Int32))]))
      refine own_retI X5 hx hlk (t := .boolean) hret (by simp) rfl (hb hby at_88) ?_ (by decide) (by decide)
      exact ⟨rfl, N5⟩
    · refine own_by (fun tz kz => XS.icmpNo X2.here hx rfl (hb hby at_37) rfl (feq hc37_4).1 kz) ?_
      show own_Go p e below s _ _ (T2.setTop (mkF m 40 #[.val (.int p0), .val (.int p1), .val (.int I), .val (.int J), .val (.ref (w I.toNatClampNeg)), .val (.ref (w J.toNatClampNeg)), .unset] []))
      refine own_by (fun tz kz => XS.iloadN X2.here hx rfl (hb hby at_40) rfl  kz) ?_
      show own_Go p e below s _ _ (T2.setTop (mkF m 41 #[.val (.int p0), .val (.int p1), .val (.int I), .val (.int J), .val (.ref (w I.toNatClampNeg)), .val (.ref (w J.toNatClampNeg)), .unset] [(.int I)]))
      refine own_by (fun tz kz => XS.bipush X2.here hx rfl (hb hby at_41) kz) ?_
      show own_Go p e below s _ _ (T2.setTop (mkF m 43 #[.val (.int p0), .val (.int p1), .val (.int I), .val (.int J), .val (.ref (w I.toNatClampNeg)), .val (.ref (w J.toNatClampNeg)), .unset] [(.int (8 : Int32)), (.int I)]))
      refine own_by (fun tz kz => XS.icmpYes X2.here hx rfl (pc0 := 43) (pc' := 52) rfl (hb hby at_43) rfl (feq (by rw [hc31_3]; decide)).2 (by decide) (by decide) kz) ?_
      show own_Go p e below s _ _ (T2.setTop (mkF m 52 #[.val (.int p0), .val (.int p1), .val (.int I), .val (.int J), .val (.ref (w I.toNatClampNeg)), .val (.ref (w J.toNatClampNeg)), .unset] []))
      refine own_by (fun tz kz => XS.iloadN X2.here hx rfl (hb hby at_52) rfl  kz) ?_
      show own_Go p e below s _ _ (T2.setTop (mkF m 53 #[.val (.int p0), .val (.int p1), .val (.int I), .val (.int J), .val (.ref (w I.toNatClampNeg)), .val (.ref (w J.toNatClampNeg)), .unset] [(.int I)]))
      refine own_by (fun tz kz => XS.bipush X2.here hx rfl (hb hby at_53) kz) ?_
      show own_Go p e below s _ _ (T2.setTop (mkF m 55 #[.val (.int p0), .val (.int p1), .val (.int I), .val (.int J), .val (.ref (w I.toNatClampNeg)), .val (.ref (w J.toNatClampNeg)), .unset] [(.int (8 : Int32)), (.int I)]))
      refine own_by (fun tz kz => XS.icmpYes X2.here hx rfl (pc0 := 55) (pc' := 68) rfl (hb hby at_55) rfl (feq (by rw [hc31_3]; decide)).2 (by decide) (by decide) kz) ?_
      show own_Go p e below s _ _ (T2.setTop (mkF m 68 #[.val (.int p0), .val (.int p1), .val (.int I), .val (.int J), .val (.ref (w I.toNatClampNeg)), .val (.ref (w J.toNatClampNeg)), .unset] []))
      refine own_by (fun tz kz => XS.iconst X2.here hx rfl (hb hby at_68) kz) ?_
      show own_Go p e below s _ _ (T2.setTop (mkF m 69 #[.val (.int p0), .val (.int p1), .val (.int I), .val (.int J), .val (.ref (w I.toNatClampNeg)), .val (.ref (w J.toNatClampNeg)), .unset] [(.int (0 : Int32))]))
      refine own_by (fun tz kz => XS.istore X2.here hx rfl (hb hby at_69) rfl (l' := #[.val (.int p0), .val (.int p1), .val (.int I), .val (.int J), .val (.ref (w I.toNatClampNeg)), .val (.ref (w J.toNatClampNeg)), .val (.int (0 : Int32))]) rfl kz) ?_
      show own_Go p e below s _ _ (T2.setTop (mkF m 71 #[.val (.int p0), .val (.int p1), .val (.int I), .val (.int J), .val (.ref (w I.toNatClampNeg)), .val (.ref (w J.toNatClampNeg)), .val (.int (0 : Int32))] []))
      refine own_by (fun tz kz => XS.aload X2.here hx rfl (hb hby at_71) rfl rfl kz) ?_
      show own_Go p e below s _ _ (T2.setTop (mkF m 73 #[.val (.int p0), .val (.int p1), .val (.int I), .val (.int J), .val (.ref (w I.toNatClampNeg)), .val (.ref (w J.toNatClampNeg)), .val (.int (0 : Int32))] [(.ref (w I.toNatClampNeg))]))
      refine own_by (fun tz kz => XS.aload X2.here hx rfl (hb hby at_73) rfl rfl kz) ?_
      show own_Go p e below s _ _ (T2.setTop (mkF m 75 #[.val (.int p0), .val (.int p1), .val (.int I), .val (.int J), .val (.ref (w I.toNatClampNeg)), .val (.ref (w J.toNatClampNeg)), .val (.int (0 : Int32))] [(.ref (w J.toNatClampNeg)), (.ref (w I.toNatClampNeg))]))
      obtain ⟨cq6, kq6, q6a, q6b, q6c⟩ := isOf hZ e2 ((hE _ (own_lt9 hI9)).ext O2.2)
      obtain ⟨_, _, ⟨T6, L6, k6, n6⟩, -, X6, ⟨Lc6, hQ6, l6, y6, z6⟩, st6⟩ := X2.virtualBack hx (y := (⟨"com/example/placerfill/placerfill/PlacerAction", "joins", "(Lcom/example/placerfill/placerfill/PlacerAction;)Z"⟩ : MethodName)) (z := (⟨"com/example/placerfill/placerfill/PlacerAction", "joins", "(Lcom/example/placerfill/placerfill/PlacerAction;)Z"⟩ : MethodName)) hown (mvT hZ (hw _ (List.mem_of_getElem? (i := 27) rfl))) (mvT hZ (hw _ (List.mem_of_getElem? (i := 28) rfl))) (notFace_of_selects (args := #[]) (mvT hZ (hw _ (List.mem_of_getElem? (i := 30) rfl)))) (mvT hZ (hw _ (List.mem_of_getElem? (i := 30) rfl))) (mvT hZ (hw _ (List.mem_of_getElem? (i := 29) rfl))) (by decide) (backOf (W := 0) (rm_joins l Z a0 hw [] (w I.toNatClampNeg) (w J.toNatClampNeg) w (0 : Int32) T2.heap n0 O2 S_7 S_8 (by rw [if_pos (eI7.mpr hc31_3), if_neg (fun q => hc37_4 (eJ7.mp q))])) hZ (hw _ (List.mem_of_getElem? (i := 31) rfl)) (hw _ (List.mem_of_getElem? (i := 8) rfl)) (by decide) (by decide)) q6a q6c (g := (mkF m 75 #[.val (.int p0), .val (.int p1), .val (.int I), .val (.int J), .val (.ref (w I.toNatClampNeg)), .val (.ref (w J.toNatClampNeg)), .val (.int (0 : Int32))] [(.ref (w J.toNatClampNeg)), (.ref (w I.toNatClampNeg))])) rfl (by rw [hml]; rfl) (Steps.refl _) (argsL := [(.ref (w J.toNatClampNeg))]) (rest := []) (lenOf pd_1 rfl) rfl (by show 2 * 0 + _ ≤ _; exact Nat.le_of_eq rfl) (hb hby at_75) (fun _ _ => ⟨rfl, e2, (by decide : ((0 + 1) + 1) + 0 ≤ _), (by decide : ((0 + 9) + 9) + 0 ≤ _)⟩)
      dsimp only [Pt.U, Pt.locs, Pt.cells, Pt.slots] at X6 l6 y6 z6 st6 hQ6
      subst l6 y6 z6
      obtain ⟨rfl, Nq6, e6⟩ := hQ6
      have N6 := Fr.app N2 Nq6
      refine own_via st6 ?_
      show own_Go p e below s _ _ (T6.setTop (mkF m 78 #[.val (.int p0), .val (.int p1), .val (.int I), .val (.int J), .val (.ref (w I.toNatClampNeg)), .val (.ref (w J.toNatClampNeg)), .val (.int (0 : Int32))] [(.int (0 : Int32))]))
      refine own_by (fun tz kz => XS.iload X6.here hx rfl (hb hby at_78) rfl  kz) ?_
      show own_Go p e below s _ _ (T6.setTop (mkF m 80 #[.val (.int p0), .val (.int p1), .val (.int I), .val (.int J), .val (.ref (w I.toNatClampNeg)), .val (.ref (w J.toNatClampNeg)), .val (.int (0 : Int32))] [(.int (0 : Int32)), (.int (0 : Int32))]))
      refine own_by (fun tz kz => XS.icmpNo X6.here hx rfl (hb hby at_80) rfl (teq (by decide : (0 : Int32) = (0 : Int32))).2 kz) ?_
      show own_Go p e below s _ _ (T6.setTop (mkF m 83 #[.val (.int p0), .val (.int p1), .val (.int I), .val (.int J), .val (.ref (w I.toNatClampNeg)), .val (.ref (w J.toNatClampNeg)), .val (.int (0 : Int32))] []))
      refine own_by (fun tz kz => XS.iconst X6.here hx rfl (hb hby at_83) kz) ?_
      show own_Go p e below s _ _ (T6.setTop (mkF m 84 #[.val (.int p0), .val (.int p1), .val (.int I), .val (.int J), .val (.ref (w I.toNatClampNeg)), .val (.ref (w J.toNatClampNeg)), .val (.int (0 : Int32))] [(.int (1 : Int32))]))
      refine own_by (fun tz kz => XS.goto X6.here hx rfl (pc0 := 84) (pc' := 88) rfl (hb hby at_84) (by decide) (by decide) kz) ?_
      show own_Go p e below s _ _ (T6.setTop (mkF m 88 #[.val (.int p0), .val (.int p1), .val (.int I), .val (.int J), .val (.ref (w I.toNatClampNeg)), .val (.ref (w J.toNatClampNeg)), .val (.int (0 : Int32))] [(.int (1 : Int32))]))
      refine own_retI X6 hx hlk (t := .boolean) hret (by simp) rfl (hb hby at_88) ?_ (by decide) (by decide)
      exact ⟨rfl, N6⟩
  · refine own_by (fun tz kz => XS.icmpYes X2.here hx rfl (pc0 := 31) (pc' := 40) rfl (hb hby at_31) rfl (feq hc31_3).2 (by decide) (by decide) kz) ?_
    show own_Go p e below s _ _ (T2.setTop (mkF m 40 #[.val (.int p0), .val (.int p1), .val (.int I), .val (.int J), .val (.ref (w I.toNatClampNeg)), .val (.ref (w J.toNatClampNeg)), .unset] []))
    refine own_by (fun tz kz => XS.iloadN X2.here hx rfl (hb hby at_40) rfl  kz) ?_
    show own_Go p e below s _ _ (T2.setTop (mkF m 41 #[.val (.int p0), .val (.int p1), .val (.int I), .val (.int J), .val (.ref (w I.toNatClampNeg)), .val (.ref (w J.toNatClampNeg)), .unset] [(.int I)]))
    refine own_by (fun tz kz => XS.bipush X2.here hx rfl (hb hby at_41) kz) ?_
    show own_Go p e below s _ _ (T2.setTop (mkF m 43 #[.val (.int p0), .val (.int p1), .val (.int I), .val (.int J), .val (.ref (w I.toNatClampNeg)), .val (.ref (w J.toNatClampNeg)), .unset] [(.int (8 : Int32)), (.int I)]))
    by_cases hc43_7 : I = (8 : Int32)
    · refine own_by (fun tz kz => XS.icmpNo X2.here hx rfl (hb hby at_43) rfl (teq hc43_7).2 kz) ?_
      show own_Go p e below s _ _ (T2.setTop (mkF m 46 #[.val (.int p0), .val (.int p1), .val (.int I), .val (.int J), .val (.ref (w I.toNatClampNeg)), .val (.ref (w J.toNatClampNeg)), .unset] []))
      refine own_by (fun tz kz => XS.iloadN X2.here hx rfl (hb hby at_46) rfl  kz) ?_
      show own_Go p e below s _ _ (T2.setTop (mkF m 47 #[.val (.int p0), .val (.int p1), .val (.int I), .val (.int J), .val (.ref (w I.toNatClampNeg)), .val (.ref (w J.toNatClampNeg)), .unset] [(.int J)]))
      refine own_by (fun tz kz => XS.bipush X2.here hx rfl (hb hby at_47) kz) ?_
      show own_Go p e below s _ _ (T2.setTop (mkF m 49 #[.val (.int p0), .val (.int p1), .val (.int I), .val (.int J), .val (.ref (w I.toNatClampNeg)), .val (.ref (w J.toNatClampNeg)), .unset] [(.int (7 : Int32)), (.int J)]))
      by_cases hc49_8 : J = (7 : Int32)
      · refine own_by (fun tz kz => XS.icmpYes X2.here hx rfl (pc0 := 49) (pc' := 64) rfl (hb hby at_49) rfl (teq hc49_8).1 (by decide) (by decide) kz) ?_
        show own_Go p e below s _ _ (T2.setTop (mkF m 64 #[.val (.int p0), .val (.int p1), .val (.int I), .val (.int J), .val (.ref (w I.toNatClampNeg)), .val (.ref (w J.toNatClampNeg)), .unset] []))
        refine own_by (fun tz kz => XS.iconst X2.here hx rfl (hb hby at_64) kz) ?_
        show own_Go p e below s _ _ (T2.setTop (mkF m 65 #[.val (.int p0), .val (.int p1), .val (.int I), .val (.int J), .val (.ref (w I.toNatClampNeg)), .val (.ref (w J.toNatClampNeg)), .unset] [(.int (1 : Int32))]))
        refine own_by (fun tz kz => XS.goto X2.here hx rfl (pc0 := 65) (pc' := 69) rfl (hb hby at_65) (by decide) (by decide) kz) ?_
        show own_Go p e below s _ _ (T2.setTop (mkF m 69 #[.val (.int p0), .val (.int p1), .val (.int I), .val (.int J), .val (.ref (w I.toNatClampNeg)), .val (.ref (w J.toNatClampNeg)), .unset] [(.int (1 : Int32))]))
        refine own_by (fun tz kz => XS.istore X2.here hx rfl (hb hby at_69) rfl (l' := #[.val (.int p0), .val (.int p1), .val (.int I), .val (.int J), .val (.ref (w I.toNatClampNeg)), .val (.ref (w J.toNatClampNeg)), .val (.int (1 : Int32))]) rfl kz) ?_
        show own_Go p e below s _ _ (T2.setTop (mkF m 71 #[.val (.int p0), .val (.int p1), .val (.int I), .val (.int J), .val (.ref (w I.toNatClampNeg)), .val (.ref (w J.toNatClampNeg)), .val (.int (1 : Int32))] []))
        refine own_by (fun tz kz => XS.aload X2.here hx rfl (hb hby at_71) rfl rfl kz) ?_
        show own_Go p e below s _ _ (T2.setTop (mkF m 73 #[.val (.int p0), .val (.int p1), .val (.int I), .val (.int J), .val (.ref (w I.toNatClampNeg)), .val (.ref (w J.toNatClampNeg)), .val (.int (1 : Int32))] [(.ref (w I.toNatClampNeg))]))
        refine own_by (fun tz kz => XS.aload X2.here hx rfl (hb hby at_73) rfl rfl kz) ?_
        show own_Go p e below s _ _ (T2.setTop (mkF m 75 #[.val (.int p0), .val (.int p1), .val (.int I), .val (.int J), .val (.ref (w I.toNatClampNeg)), .val (.ref (w J.toNatClampNeg)), .val (.int (1 : Int32))] [(.ref (w J.toNatClampNeg)), (.ref (w I.toNatClampNeg))]))
        obtain ⟨cq9, kq9, q9a, q9b, q9c⟩ := isOf hZ e2 ((hE _ (own_lt9 hI9)).ext O2.2)
        obtain ⟨_, _, ⟨T9, L9, k9, n9⟩, -, X9, ⟨Lc9, hQ9, l9, y9, z9⟩, st9⟩ := X2.virtualBack hx (y := (⟨"com/example/placerfill/placerfill/PlacerAction", "joins", "(Lcom/example/placerfill/placerfill/PlacerAction;)Z"⟩ : MethodName)) (z := (⟨"com/example/placerfill/placerfill/PlacerAction", "joins", "(Lcom/example/placerfill/placerfill/PlacerAction;)Z"⟩ : MethodName)) hown (mvT hZ (hw _ (List.mem_of_getElem? (i := 27) rfl))) (mvT hZ (hw _ (List.mem_of_getElem? (i := 28) rfl))) (notFace_of_selects (args := #[]) (mvT hZ (hw _ (List.mem_of_getElem? (i := 30) rfl)))) (mvT hZ (hw _ (List.mem_of_getElem? (i := 30) rfl))) (mvT hZ (hw _ (List.mem_of_getElem? (i := 29) rfl))) (by decide) (backOf (W := 0) (rm_joins l Z a0 hw [] (w I.toNatClampNeg) (w J.toNatClampNeg) w (1 : Int32) T2.heap n0 O2 S_7 S_8 (by rw [if_neg (fun q => hc31_3 (eI7.mp q)), if_pos (eI8.mpr hc43_7), if_pos (Or.inl (eJ7.mpr hc49_8))])) hZ (hw _ (List.mem_of_getElem? (i := 31) rfl)) (hw _ (List.mem_of_getElem? (i := 8) rfl)) (by decide) (by decide)) q9a q9c (g := (mkF m 75 #[.val (.int p0), .val (.int p1), .val (.int I), .val (.int J), .val (.ref (w I.toNatClampNeg)), .val (.ref (w J.toNatClampNeg)), .val (.int (1 : Int32))] [(.ref (w J.toNatClampNeg)), (.ref (w I.toNatClampNeg))])) rfl (by rw [hml]; rfl) (Steps.refl _) (argsL := [(.ref (w J.toNatClampNeg))]) (rest := []) (lenOf pd_1 rfl) rfl (by show 2 * 0 + _ ≤ _; exact Nat.le_of_eq rfl) (hb hby at_75) (fun _ _ => ⟨rfl, e2, (by decide : ((0 + 1) + 1) + 0 ≤ _), (by decide : ((0 + 9) + 9) + 0 ≤ _)⟩)
        dsimp only [Pt.U, Pt.locs, Pt.cells, Pt.slots] at X9 l9 y9 z9 st9 hQ9
        subst l9 y9 z9
        obtain ⟨rfl, Nq9, e9⟩ := hQ9
        have N9 := Fr.app N2 Nq9
        refine own_via st9 ?_
        show own_Go p e below s _ _ (T9.setTop (mkF m 78 #[.val (.int p0), .val (.int p1), .val (.int I), .val (.int J), .val (.ref (w I.toNatClampNeg)), .val (.ref (w J.toNatClampNeg)), .val (.int (1 : Int32))] [(.int (1 : Int32))]))
        refine own_by (fun tz kz => XS.iload X9.here hx rfl (hb hby at_78) rfl  kz) ?_
        show own_Go p e below s _ _ (T9.setTop (mkF m 80 #[.val (.int p0), .val (.int p1), .val (.int I), .val (.int J), .val (.ref (w I.toNatClampNeg)), .val (.ref (w J.toNatClampNeg)), .val (.int (1 : Int32))] [(.int (1 : Int32)), (.int (1 : Int32))]))
        refine own_by (fun tz kz => XS.icmpNo X9.here hx rfl (hb hby at_80) rfl (teq (by decide : (1 : Int32) = (1 : Int32))).2 kz) ?_
        show own_Go p e below s _ _ (T9.setTop (mkF m 83 #[.val (.int p0), .val (.int p1), .val (.int I), .val (.int J), .val (.ref (w I.toNatClampNeg)), .val (.ref (w J.toNatClampNeg)), .val (.int (1 : Int32))] []))
        refine own_by (fun tz kz => XS.iconst X9.here hx rfl (hb hby at_83) kz) ?_
        show own_Go p e below s _ _ (T9.setTop (mkF m 84 #[.val (.int p0), .val (.int p1), .val (.int I), .val (.int J), .val (.ref (w I.toNatClampNeg)), .val (.ref (w J.toNatClampNeg)), .val (.int (1 : Int32))] [(.int (1 : Int32))]))
        refine own_by (fun tz kz => XS.goto X9.here hx rfl (pc0 := 84) (pc' := 88) rfl (hb hby at_84) (by decide) (by decide) kz) ?_
        show own_Go p e below s _ _ (T9.setTop (mkF m 88 #[.val (.int p0), .val (.int p1), .val (.int I), .val (.int J), .val (.ref (w I.toNatClampNeg)), .val (.ref (w J.toNatClampNeg)), .val (.int (1 : Int32))] [(.int (1 : Int32))]))
        refine own_retI X9 hx hlk (t := .boolean) hret (by simp) rfl (hb hby at_88) ?_ (by decide) (by decide)
        exact ⟨rfl, N9⟩
      · refine own_by (fun tz kz => XS.icmpNo X2.here hx rfl (hb hby at_49) rfl (feq hc49_8).1 kz) ?_
        show own_Go p e below s _ _ (T2.setTop (mkF m 52 #[.val (.int p0), .val (.int p1), .val (.int I), .val (.int J), .val (.ref (w I.toNatClampNeg)), .val (.ref (w J.toNatClampNeg)), .unset] []))
        refine own_by (fun tz kz => XS.iloadN X2.here hx rfl (hb hby at_52) rfl  kz) ?_
        show own_Go p e below s _ _ (T2.setTop (mkF m 53 #[.val (.int p0), .val (.int p1), .val (.int I), .val (.int J), .val (.ref (w I.toNatClampNeg)), .val (.ref (w J.toNatClampNeg)), .unset] [(.int I)]))
        refine own_by (fun tz kz => XS.bipush X2.here hx rfl (hb hby at_53) kz) ?_
        show own_Go p e below s _ _ (T2.setTop (mkF m 55 #[.val (.int p0), .val (.int p1), .val (.int I), .val (.int J), .val (.ref (w I.toNatClampNeg)), .val (.ref (w J.toNatClampNeg)), .unset] [(.int (8 : Int32)), (.int I)]))
        refine own_by (fun tz kz => XS.icmpNo X2.here hx rfl (hb hby at_55) rfl (teq hc43_7).2 kz) ?_
        show own_Go p e below s _ _ (T2.setTop (mkF m 58 #[.val (.int p0), .val (.int p1), .val (.int I), .val (.int J), .val (.ref (w I.toNatClampNeg)), .val (.ref (w J.toNatClampNeg)), .unset] []))
        refine own_by (fun tz kz => XS.iloadN X2.here hx rfl (hb hby at_58) rfl  kz) ?_
        show own_Go p e below s _ _ (T2.setTop (mkF m 59 #[.val (.int p0), .val (.int p1), .val (.int I), .val (.int J), .val (.ref (w I.toNatClampNeg)), .val (.ref (w J.toNatClampNeg)), .unset] [(.int J)]))
        refine own_by (fun tz kz => XS.bipush X2.here hx rfl (hb hby at_59) kz) ?_
        show own_Go p e below s _ _ (T2.setTop (mkF m 61 #[.val (.int p0), .val (.int p1), .val (.int I), .val (.int J), .val (.ref (w I.toNatClampNeg)), .val (.ref (w J.toNatClampNeg)), .unset] [(.int (8 : Int32)), (.int J)]))
        by_cases hc61_10 : J = (8 : Int32)
        · refine own_by (fun tz kz => XS.icmpNo X2.here hx rfl (hb hby at_61) rfl (teq hc61_10).2 kz) ?_
          show own_Go p e below s _ _ (T2.setTop (mkF m 64 #[.val (.int p0), .val (.int p1), .val (.int I), .val (.int J), .val (.ref (w I.toNatClampNeg)), .val (.ref (w J.toNatClampNeg)), .unset] []))
          refine own_by (fun tz kz => XS.iconst X2.here hx rfl (hb hby at_64) kz) ?_
          show own_Go p e below s _ _ (T2.setTop (mkF m 65 #[.val (.int p0), .val (.int p1), .val (.int I), .val (.int J), .val (.ref (w I.toNatClampNeg)), .val (.ref (w J.toNatClampNeg)), .unset] [(.int (1 : Int32))]))
          refine own_by (fun tz kz => XS.goto X2.here hx rfl (pc0 := 65) (pc' := 69) rfl (hb hby at_65) (by decide) (by decide) kz) ?_
          show own_Go p e below s _ _ (T2.setTop (mkF m 69 #[.val (.int p0), .val (.int p1), .val (.int I), .val (.int J), .val (.ref (w I.toNatClampNeg)), .val (.ref (w J.toNatClampNeg)), .unset] [(.int (1 : Int32))]))
          refine own_by (fun tz kz => XS.istore X2.here hx rfl (hb hby at_69) rfl (l' := #[.val (.int p0), .val (.int p1), .val (.int I), .val (.int J), .val (.ref (w I.toNatClampNeg)), .val (.ref (w J.toNatClampNeg)), .val (.int (1 : Int32))]) rfl kz) ?_
          show own_Go p e below s _ _ (T2.setTop (mkF m 71 #[.val (.int p0), .val (.int p1), .val (.int I), .val (.int J), .val (.ref (w I.toNatClampNeg)), .val (.ref (w J.toNatClampNeg)), .val (.int (1 : Int32))] []))
          refine own_by (fun tz kz => XS.aload X2.here hx rfl (hb hby at_71) rfl rfl kz) ?_
          show own_Go p e below s _ _ (T2.setTop (mkF m 73 #[.val (.int p0), .val (.int p1), .val (.int I), .val (.int J), .val (.ref (w I.toNatClampNeg)), .val (.ref (w J.toNatClampNeg)), .val (.int (1 : Int32))] [(.ref (w I.toNatClampNeg))]))
          refine own_by (fun tz kz => XS.aload X2.here hx rfl (hb hby at_73) rfl rfl kz) ?_
          show own_Go p e below s _ _ (T2.setTop (mkF m 75 #[.val (.int p0), .val (.int p1), .val (.int I), .val (.int J), .val (.ref (w I.toNatClampNeg)), .val (.ref (w J.toNatClampNeg)), .val (.int (1 : Int32))] [(.ref (w J.toNatClampNeg)), (.ref (w I.toNatClampNeg))]))
          obtain ⟨cq11, kq11, q11a, q11b, q11c⟩ := isOf hZ e2 ((hE _ (own_lt9 hI9)).ext O2.2)
          obtain ⟨_, _, ⟨T11, L11, k11, n11⟩, -, X11, ⟨Lc11, hQ11, l11, y11, z11⟩, st11⟩ := X2.virtualBack hx (y := (⟨"com/example/placerfill/placerfill/PlacerAction", "joins", "(Lcom/example/placerfill/placerfill/PlacerAction;)Z"⟩ : MethodName)) (z := (⟨"com/example/placerfill/placerfill/PlacerAction", "joins", "(Lcom/example/placerfill/placerfill/PlacerAction;)Z"⟩ : MethodName)) hown (mvT hZ (hw _ (List.mem_of_getElem? (i := 27) rfl))) (mvT hZ (hw _ (List.mem_of_getElem? (i := 28) rfl))) (notFace_of_selects (args := #[]) (mvT hZ (hw _ (List.mem_of_getElem? (i := 30) rfl)))) (mvT hZ (hw _ (List.mem_of_getElem? (i := 30) rfl))) (mvT hZ (hw _ (List.mem_of_getElem? (i := 29) rfl))) (by decide) (backOf (W := 0) (rm_joins l Z a0 hw [] (w I.toNatClampNeg) (w J.toNatClampNeg) w (1 : Int32) T2.heap n0 O2 S_7 S_8 (by rw [if_neg (fun q => hc31_3 (eI7.mp q)), if_pos (eI8.mpr hc43_7), if_pos (Or.inr (eJ8.mpr hc61_10))])) hZ (hw _ (List.mem_of_getElem? (i := 31) rfl)) (hw _ (List.mem_of_getElem? (i := 8) rfl)) (by decide) (by decide)) q11a q11c (g := (mkF m 75 #[.val (.int p0), .val (.int p1), .val (.int I), .val (.int J), .val (.ref (w I.toNatClampNeg)), .val (.ref (w J.toNatClampNeg)), .val (.int (1 : Int32))] [(.ref (w J.toNatClampNeg)), (.ref (w I.toNatClampNeg))])) rfl (by rw [hml]; rfl) (Steps.refl _) (argsL := [(.ref (w J.toNatClampNeg))]) (rest := []) (lenOf pd_1 rfl) rfl (by show 2 * 0 + _ ≤ _; exact Nat.le_of_eq rfl) (hb hby at_75) (fun _ _ => ⟨rfl, e2, (by decide : ((0 + 1) + 1) + 0 ≤ _), (by decide : ((0 + 9) + 9) + 0 ≤ _)⟩)
          dsimp only [Pt.U, Pt.locs, Pt.cells, Pt.slots] at X11 l11 y11 z11 st11 hQ11
          subst l11 y11 z11
          obtain ⟨rfl, Nq11, e11⟩ := hQ11
          have N11 := Fr.app N2 Nq11
          refine own_via st11 ?_
          show own_Go p e below s _ _ (T11.setTop (mkF m 78 #[.val (.int p0), .val (.int p1), .val (.int I), .val (.int J), .val (.ref (w I.toNatClampNeg)), .val (.ref (w J.toNatClampNeg)), .val (.int (1 : Int32))] [(.int (1 : Int32))]))
          refine own_by (fun tz kz => XS.iload X11.here hx rfl (hb hby at_78) rfl  kz) ?_
          show own_Go p e below s _ _ (T11.setTop (mkF m 80 #[.val (.int p0), .val (.int p1), .val (.int I), .val (.int J), .val (.ref (w I.toNatClampNeg)), .val (.ref (w J.toNatClampNeg)), .val (.int (1 : Int32))] [(.int (1 : Int32)), (.int (1 : Int32))]))
          refine own_by (fun tz kz => XS.icmpNo X11.here hx rfl (hb hby at_80) rfl (teq (by decide : (1 : Int32) = (1 : Int32))).2 kz) ?_
          show own_Go p e below s _ _ (T11.setTop (mkF m 83 #[.val (.int p0), .val (.int p1), .val (.int I), .val (.int J), .val (.ref (w I.toNatClampNeg)), .val (.ref (w J.toNatClampNeg)), .val (.int (1 : Int32))] []))
          refine own_by (fun tz kz => XS.iconst X11.here hx rfl (hb hby at_83) kz) ?_
          show own_Go p e below s _ _ (T11.setTop (mkF m 84 #[.val (.int p0), .val (.int p1), .val (.int I), .val (.int J), .val (.ref (w I.toNatClampNeg)), .val (.ref (w J.toNatClampNeg)), .val (.int (1 : Int32))] [(.int (1 : Int32))]))
          refine own_by (fun tz kz => XS.goto X11.here hx rfl (pc0 := 84) (pc' := 88) rfl (hb hby at_84) (by decide) (by decide) kz) ?_
          show own_Go p e below s _ _ (T11.setTop (mkF m 88 #[.val (.int p0), .val (.int p1), .val (.int I), .val (.int J), .val (.ref (w I.toNatClampNeg)), .val (.ref (w J.toNatClampNeg)), .val (.int (1 : Int32))] [(.int (1 : Int32))]))
          refine own_retI X11 hx hlk (t := .boolean) hret (by simp) rfl (hb hby at_88) ?_ (by decide) (by decide)
          exact ⟨rfl, N11⟩
        · refine own_by (fun tz kz => XS.icmpYes X2.here hx rfl (pc0 := 61) (pc' := 68) rfl (hb hby at_61) rfl (feq hc61_10).2 (by decide) (by decide) kz) ?_
          show own_Go p e below s _ _ (T2.setTop (mkF m 68 #[.val (.int p0), .val (.int p1), .val (.int I), .val (.int J), .val (.ref (w I.toNatClampNeg)), .val (.ref (w J.toNatClampNeg)), .unset] []))
          refine own_by (fun tz kz => XS.iconst X2.here hx rfl (hb hby at_68) kz) ?_
          show own_Go p e below s _ _ (T2.setTop (mkF m 69 #[.val (.int p0), .val (.int p1), .val (.int I), .val (.int J), .val (.ref (w I.toNatClampNeg)), .val (.ref (w J.toNatClampNeg)), .unset] [(.int (0 : Int32))]))
          refine own_by (fun tz kz => XS.istore X2.here hx rfl (hb hby at_69) rfl (l' := #[.val (.int p0), .val (.int p1), .val (.int I), .val (.int J), .val (.ref (w I.toNatClampNeg)), .val (.ref (w J.toNatClampNeg)), .val (.int (0 : Int32))]) rfl kz) ?_
          show own_Go p e below s _ _ (T2.setTop (mkF m 71 #[.val (.int p0), .val (.int p1), .val (.int I), .val (.int J), .val (.ref (w I.toNatClampNeg)), .val (.ref (w J.toNatClampNeg)), .val (.int (0 : Int32))] []))
          refine own_by (fun tz kz => XS.aload X2.here hx rfl (hb hby at_71) rfl rfl kz) ?_
          show own_Go p e below s _ _ (T2.setTop (mkF m 73 #[.val (.int p0), .val (.int p1), .val (.int I), .val (.int J), .val (.ref (w I.toNatClampNeg)), .val (.ref (w J.toNatClampNeg)), .val (.int (0 : Int32))] [(.ref (w I.toNatClampNeg))]))
          refine own_by (fun tz kz => XS.aload X2.here hx rfl (hb hby at_73) rfl rfl kz) ?_
          show own_Go p e below s _ _ (T2.setTop (mkF m 75 #[.val (.int p0), .val (.int p1), .val (.int I), .val (.int J), .val (.ref (w I.toNatClampNeg)), .val (.ref (w J.toNatClampNeg)), .val (.int (0 : Int32))] [(.ref (w J.toNatClampNeg)), (.ref (w I.toNatClampNeg))]))
          obtain ⟨cq12, kq12, q12a, q12b, q12c⟩ := isOf hZ e2 ((hE _ (own_lt9 hI9)).ext O2.2)
          obtain ⟨_, _, ⟨T12, L12, k12, n12⟩, -, X12, ⟨Lc12, hQ12, l12, y12, z12⟩, st12⟩ := X2.virtualBack hx (y := (⟨"com/example/placerfill/placerfill/PlacerAction", "joins", "(Lcom/example/placerfill/placerfill/PlacerAction;)Z"⟩ : MethodName)) (z := (⟨"com/example/placerfill/placerfill/PlacerAction", "joins", "(Lcom/example/placerfill/placerfill/PlacerAction;)Z"⟩ : MethodName)) hown (mvT hZ (hw _ (List.mem_of_getElem? (i := 27) rfl))) (mvT hZ (hw _ (List.mem_of_getElem? (i := 28) rfl))) (notFace_of_selects (args := #[]) (mvT hZ (hw _ (List.mem_of_getElem? (i := 30) rfl)))) (mvT hZ (hw _ (List.mem_of_getElem? (i := 30) rfl))) (mvT hZ (hw _ (List.mem_of_getElem? (i := 29) rfl))) (by decide) (backOf (W := 0) (rm_joins l Z a0 hw [] (w I.toNatClampNeg) (w J.toNatClampNeg) w (0 : Int32) T2.heap n0 O2 S_7 S_8 (by rw [if_neg (fun q => hc31_3 (eI7.mp q)), if_pos (eI8.mpr hc43_7), if_neg (fun q => q.elim (fun q => hc49_8 (eJ7.mp q)) (fun q => hc61_10 (eJ8.mp q)))])) hZ (hw _ (List.mem_of_getElem? (i := 31) rfl)) (hw _ (List.mem_of_getElem? (i := 8) rfl)) (by decide) (by decide)) q12a q12c (g := (mkF m 75 #[.val (.int p0), .val (.int p1), .val (.int I), .val (.int J), .val (.ref (w I.toNatClampNeg)), .val (.ref (w J.toNatClampNeg)), .val (.int (0 : Int32))] [(.ref (w J.toNatClampNeg)), (.ref (w I.toNatClampNeg))])) rfl (by rw [hml]; rfl) (Steps.refl _) (argsL := [(.ref (w J.toNatClampNeg))]) (rest := []) (lenOf pd_1 rfl) rfl (by show 2 * 0 + _ ≤ _; exact Nat.le_of_eq rfl) (hb hby at_75) (fun _ _ => ⟨rfl, e2, (by decide : ((0 + 1) + 1) + 0 ≤ _), (by decide : ((0 + 9) + 9) + 0 ≤ _)⟩)
          dsimp only [Pt.U, Pt.locs, Pt.cells, Pt.slots] at X12 l12 y12 z12 st12 hQ12
          subst l12 y12 z12
          obtain ⟨rfl, Nq12, e12⟩ := hQ12
          have N12 := Fr.app N2 Nq12
          refine own_via st12 ?_
          show own_Go p e below s _ _ (T12.setTop (mkF m 78 #[.val (.int p0), .val (.int p1), .val (.int I), .val (.int J), .val (.ref (w I.toNatClampNeg)), .val (.ref (w J.toNatClampNeg)), .val (.int (0 : Int32))] [(.int (0 : Int32))]))
          refine own_by (fun tz kz => XS.iload X12.here hx rfl (hb hby at_78) rfl  kz) ?_
          show own_Go p e below s _ _ (T12.setTop (mkF m 80 #[.val (.int p0), .val (.int p1), .val (.int I), .val (.int J), .val (.ref (w I.toNatClampNeg)), .val (.ref (w J.toNatClampNeg)), .val (.int (0 : Int32))] [(.int (0 : Int32)), (.int (0 : Int32))]))
          refine own_by (fun tz kz => XS.icmpNo X12.here hx rfl (hb hby at_80) rfl (teq (by decide : (0 : Int32) = (0 : Int32))).2 kz) ?_
          show own_Go p e below s _ _ (T12.setTop (mkF m 83 #[.val (.int p0), .val (.int p1), .val (.int I), .val (.int J), .val (.ref (w I.toNatClampNeg)), .val (.ref (w J.toNatClampNeg)), .val (.int (0 : Int32))] []))
          refine own_by (fun tz kz => XS.iconst X12.here hx rfl (hb hby at_83) kz) ?_
          show own_Go p e below s _ _ (T12.setTop (mkF m 84 #[.val (.int p0), .val (.int p1), .val (.int I), .val (.int J), .val (.ref (w I.toNatClampNeg)), .val (.ref (w J.toNatClampNeg)), .val (.int (0 : Int32))] [(.int (1 : Int32))]))
          refine own_by (fun tz kz => XS.goto X12.here hx rfl (pc0 := 84) (pc' := 88) rfl (hb hby at_84) (by decide) (by decide) kz) ?_
          show own_Go p e below s _ _ (T12.setTop (mkF m 88 #[.val (.int p0), .val (.int p1), .val (.int I), .val (.int J), .val (.ref (w I.toNatClampNeg)), .val (.ref (w J.toNatClampNeg)), .val (.int (0 : Int32))] [(.int (1 : Int32))]))
          refine own_retI X12 hx hlk (t := .boolean) hret (by simp) rfl (hb hby at_88) ?_ (by decide) (by decide)
          exact ⟨rfl, N12⟩
    · refine own_by (fun tz kz => XS.icmpYes X2.here hx rfl (pc0 := 43) (pc' := 52) rfl (hb hby at_43) rfl (feq hc43_7).2 (by decide) (by decide) kz) ?_
      show own_Go p e below s _ _ (T2.setTop (mkF m 52 #[.val (.int p0), .val (.int p1), .val (.int I), .val (.int J), .val (.ref (w I.toNatClampNeg)), .val (.ref (w J.toNatClampNeg)), .unset] []))
      refine own_by (fun tz kz => XS.iloadN X2.here hx rfl (hb hby at_52) rfl  kz) ?_
      show own_Go p e below s _ _ (T2.setTop (mkF m 53 #[.val (.int p0), .val (.int p1), .val (.int I), .val (.int J), .val (.ref (w I.toNatClampNeg)), .val (.ref (w J.toNatClampNeg)), .unset] [(.int I)]))
      refine own_by (fun tz kz => XS.bipush X2.here hx rfl (hb hby at_53) kz) ?_
      show own_Go p e below s _ _ (T2.setTop (mkF m 55 #[.val (.int p0), .val (.int p1), .val (.int I), .val (.int J), .val (.ref (w I.toNatClampNeg)), .val (.ref (w J.toNatClampNeg)), .unset] [(.int (8 : Int32)), (.int I)]))
      refine own_by (fun tz kz => XS.icmpYes X2.here hx rfl (pc0 := 55) (pc' := 68) rfl (hb hby at_55) rfl (feq hc43_7).2 (by decide) (by decide) kz) ?_
      show own_Go p e below s _ _ (T2.setTop (mkF m 68 #[.val (.int p0), .val (.int p1), .val (.int I), .val (.int J), .val (.ref (w I.toNatClampNeg)), .val (.ref (w J.toNatClampNeg)), .unset] []))
      refine own_by (fun tz kz => XS.iconst X2.here hx rfl (hb hby at_68) kz) ?_
      show own_Go p e below s _ _ (T2.setTop (mkF m 69 #[.val (.int p0), .val (.int p1), .val (.int I), .val (.int J), .val (.ref (w I.toNatClampNeg)), .val (.ref (w J.toNatClampNeg)), .unset] [(.int (0 : Int32))]))
      refine own_by (fun tz kz => XS.istore X2.here hx rfl (hb hby at_69) rfl (l' := #[.val (.int p0), .val (.int p1), .val (.int I), .val (.int J), .val (.ref (w I.toNatClampNeg)), .val (.ref (w J.toNatClampNeg)), .val (.int (0 : Int32))]) rfl kz) ?_
      show own_Go p e below s _ _ (T2.setTop (mkF m 71 #[.val (.int p0), .val (.int p1), .val (.int I), .val (.int J), .val (.ref (w I.toNatClampNeg)), .val (.ref (w J.toNatClampNeg)), .val (.int (0 : Int32))] []))
      refine own_by (fun tz kz => XS.aload X2.here hx rfl (hb hby at_71) rfl rfl kz) ?_
      show own_Go p e below s _ _ (T2.setTop (mkF m 73 #[.val (.int p0), .val (.int p1), .val (.int I), .val (.int J), .val (.ref (w I.toNatClampNeg)), .val (.ref (w J.toNatClampNeg)), .val (.int (0 : Int32))] [(.ref (w I.toNatClampNeg))]))
      refine own_by (fun tz kz => XS.aload X2.here hx rfl (hb hby at_73) rfl rfl kz) ?_
      show own_Go p e below s _ _ (T2.setTop (mkF m 75 #[.val (.int p0), .val (.int p1), .val (.int I), .val (.int J), .val (.ref (w I.toNatClampNeg)), .val (.ref (w J.toNatClampNeg)), .val (.int (0 : Int32))] [(.ref (w J.toNatClampNeg)), (.ref (w I.toNatClampNeg))]))
      obtain ⟨cq13, kq13, q13a, q13b, q13c⟩ := isOf hZ e2 ((hE _ (own_lt9 hI9)).ext O2.2)
      obtain ⟨_, _, ⟨T13, L13, k13, n13⟩, -, X13, ⟨Lc13, hQ13, l13, y13, z13⟩, st13⟩ := X2.virtualBack hx (y := (⟨"com/example/placerfill/placerfill/PlacerAction", "joins", "(Lcom/example/placerfill/placerfill/PlacerAction;)Z"⟩ : MethodName)) (z := (⟨"com/example/placerfill/placerfill/PlacerAction", "joins", "(Lcom/example/placerfill/placerfill/PlacerAction;)Z"⟩ : MethodName)) hown (mvT hZ (hw _ (List.mem_of_getElem? (i := 27) rfl))) (mvT hZ (hw _ (List.mem_of_getElem? (i := 28) rfl))) (notFace_of_selects (args := #[]) (mvT hZ (hw _ (List.mem_of_getElem? (i := 30) rfl)))) (mvT hZ (hw _ (List.mem_of_getElem? (i := 30) rfl))) (mvT hZ (hw _ (List.mem_of_getElem? (i := 29) rfl))) (by decide) (backOf (W := 0) (rm_joins l Z a0 hw [] (w I.toNatClampNeg) (w J.toNatClampNeg) w (0 : Int32) T2.heap n0 O2 S_7 S_8 (by rw [if_neg (fun q => hc31_3 (eI7.mp q)), if_neg (fun q => hc43_7 (eI8.mp q))])) hZ (hw _ (List.mem_of_getElem? (i := 31) rfl)) (hw _ (List.mem_of_getElem? (i := 8) rfl)) (by decide) (by decide)) q13a q13c (g := (mkF m 75 #[.val (.int p0), .val (.int p1), .val (.int I), .val (.int J), .val (.ref (w I.toNatClampNeg)), .val (.ref (w J.toNatClampNeg)), .val (.int (0 : Int32))] [(.ref (w J.toNatClampNeg)), (.ref (w I.toNatClampNeg))])) rfl (by rw [hml]; rfl) (Steps.refl _) (argsL := [(.ref (w J.toNatClampNeg))]) (rest := []) (lenOf pd_1 rfl) rfl (by show 2 * 0 + _ ≤ _; exact Nat.le_of_eq rfl) (hb hby at_75) (fun _ _ => ⟨rfl, e2, (by decide : ((0 + 1) + 1) + 0 ≤ _), (by decide : ((0 + 9) + 9) + 0 ≤ _)⟩)
      dsimp only [Pt.U, Pt.locs, Pt.cells, Pt.slots] at X13 l13 y13 z13 st13 hQ13
      subst l13 y13 z13
      obtain ⟨rfl, Nq13, e13⟩ := hQ13
      have N13 := Fr.app N2 Nq13
      refine own_via st13 ?_
      show own_Go p e below s _ _ (T13.setTop (mkF m 78 #[.val (.int p0), .val (.int p1), .val (.int I), .val (.int J), .val (.ref (w I.toNatClampNeg)), .val (.ref (w J.toNatClampNeg)), .val (.int (0 : Int32))] [(.int (0 : Int32))]))
      refine own_by (fun tz kz => XS.iload X13.here hx rfl (hb hby at_78) rfl  kz) ?_
      show own_Go p e below s _ _ (T13.setTop (mkF m 80 #[.val (.int p0), .val (.int p1), .val (.int I), .val (.int J), .val (.ref (w I.toNatClampNeg)), .val (.ref (w J.toNatClampNeg)), .val (.int (0 : Int32))] [(.int (0 : Int32)), (.int (0 : Int32))]))
      refine own_by (fun tz kz => XS.icmpNo X13.here hx rfl (hb hby at_80) rfl (teq (by decide : (0 : Int32) = (0 : Int32))).2 kz) ?_
      show own_Go p e below s _ _ (T13.setTop (mkF m 83 #[.val (.int p0), .val (.int p1), .val (.int I), .val (.int J), .val (.ref (w I.toNatClampNeg)), .val (.ref (w J.toNatClampNeg)), .val (.int (0 : Int32))] []))
      refine own_by (fun tz kz => XS.iconst X13.here hx rfl (hb hby at_83) kz) ?_
      show own_Go p e below s _ _ (T13.setTop (mkF m 84 #[.val (.int p0), .val (.int p1), .val (.int I), .val (.int J), .val (.ref (w I.toNatClampNeg)), .val (.ref (w J.toNatClampNeg)), .val (.int (0 : Int32))] [(.int (1 : Int32))]))
      refine own_by (fun tz kz => XS.goto X13.here hx rfl (pc0 := 84) (pc' := 88) rfl (hb hby at_84) (by decide) (by decide) kz) ?_
      show own_Go p e below s _ _ (T13.setTop (mkF m 88 #[.val (.int p0), .val (.int p1), .val (.int I), .val (.int J), .val (.ref (w I.toNatClampNeg)), .val (.ref (w J.toNatClampNeg)), .val (.int (0 : Int32))] [(.int (1 : Int32))]))
      refine own_retI X13 hx hlk (t := .boolean) hret (by simp) rfl (hb hby at_88) ?_ (by decide) (by decide)
      exact ⟨rfl, N13⟩
set_option maxRecDepth 65536 in
set_option maxHeartbeats 40000000 in
theorem comes_1 {Post : Tables → Env → Array Value → State → Outcome → State → Prop} (hpost : ∀ tb e args s v u, (limb_1_1.after args s (.returned v) u = true ∧ limb_1_2.after args s (.returned v) u = true ∧ True) → FrameEnd s (.returned v) u (Jvm.fieldLocs frame_1_writes args s ++ Jvm.arrayLocs frame_1_arrays args s ++ Jvm.staticLocs frame_1_statics s) 16 128 → Post tb e args s (.returned v) u) :
    ArmFor flags0 classFile x code maxLocals ret World_1 tables_1 room_1 Calls_1 rest_1 Pre_1 Post := by
  intro l hfl _ _ p e ha hc hk s m args below hf hA hF happ hP
  obtain ⟨hcalls, hrest, hpre⟩ := hP
  obtain ⟨-, -, -, hnamed, -, -, -, hat⟩ := (Spec.applies_iff hf).mp happ
  obtain ⟨hg, hn⟩ := and_e (Cond.before_iff.mp (show (Jvm.Cond.and given_1 narrow_1).before args s = true from hpre))
  obtain ⟨g1a, g1b⟩ := and_e hg
  obtain ⟨g2a, g2b⟩ := and_e g1b
  obtain ⟨w0, w1, rfl⟩ : ∃ w0 w1 : Value, args = #[w0, w1] := by
    have hs : args.size = 2 := by simpa [Cond.value, given_1] using g1a
    obtain ⟨L⟩ := args
    match L, hs with
    | [w0, w1], _ => exact ⟨w0, w1, rfl⟩
  have hw := fun d (hd : d ∈ tables_1) => atoms_spec (ws := Jvm.Cond.code x code maxLocals ret :: tables_1) hat d (List.mem_cons_of_mem _ hd)
  have hfit : Fit s := fun {y c} hc i hi => by
    obtain ⟨ha, rfl⟩ := Array.getElem?_eq_some_iff.mp hc
    have q := List.all_eq_true.mp ((Array.all_eq_true_iff_forall_mem.mp hF) _ (Array.getElem_mem ha)) i (List.mem_range.mpr hi)
    simpa [Array.getElem?_eq_getElem hi] using q
  obtain ⟨i0, ei0⟩ := is_v g2a
  obtain rfl : w0 = (.int i0) := Option.some.inj ei0
  obtain ⟨i1, ei1⟩ := is_v g2b
  obtain rfl : w1 = (.int i1) := Option.some.inj ei1
  obtain ⟨m3a, m3b⟩ := and_e hn
  obtain ⟨m4a, m4b⟩ := and_e m3b
  obtain ⟨m5a, m5b⟩ := and_e m4b
  obtain ⟨m6a, m6b⟩ := and_e m5b
  obtain ⟨m7a, m7b⟩ := and_e m6b
  obtain ⟨m8a, m8b⟩ := and_e m7b
  obtain ⟨m9a, m9b⟩ := and_e m8b
  obtain ⟨m10a, m10b⟩ := and_e m9b
  obtain ⟨m11a, m11b⟩ := and_e m10b
  obtain ⟨m12a, m12b⟩ := and_e m11b
  obtain ⟨m13a, m13b⟩ := and_e m12b
  obtain ⟨m14a, m14b⟩ := and_e m13b
  obtain ⟨m15a, m15b⟩ := and_e m14b
  obtain ⟨m16a, m16b⟩ := and_e m15b
  obtain ⟨m17a, m17b⟩ := and_e m16b
  obtain ⟨m18a, m18b⟩ := and_e m17b
  obtain ⟨m19a, m19b⟩ := and_e m18b
  obtain ⟨PlacerAction_CREATE, ev_PlacerAction_CREATE⟩ := exa_v m3a
  have E_PlacerAction_CREATE : Exa s s.heap PlacerAction_CREATE "com/example/placerfill/placerfill/PlacerAction" := Exa.start ev_PlacerAction_CREATE m3a
  have S_PlacerAction_CREATE : Sta s s.heap "com/example/placerfill/placerfill/PlacerAction" "CREATE" "Lcom/example/placerfill/placerfill/PlacerAction;" (.ref PlacerAction_CREATE) := Sta.start ev_PlacerAction_CREATE (Or.inr ⟨(hw _ (List.mem_of_getElem? (i := 8) rfl)), (hw _ (List.mem_of_getElem? (i := 9) rfl))⟩)
  obtain ⟨PlacerAction_CHANGE, ev_PlacerAction_CHANGE⟩ := exa_v m4a
  have E_PlacerAction_CHANGE : Exa s s.heap PlacerAction_CHANGE "com/example/placerfill/placerfill/PlacerAction" := Exa.start ev_PlacerAction_CHANGE m4a
  have S_PlacerAction_CHANGE : Sta s s.heap "com/example/placerfill/placerfill/PlacerAction" "CHANGE" "Lcom/example/placerfill/placerfill/PlacerAction;" (.ref PlacerAction_CHANGE) := Sta.start ev_PlacerAction_CHANGE (Or.inr ⟨(hw _ (List.mem_of_getElem? (i := 8) rfl)), (hw _ (List.mem_of_getElem? (i := 12) rfl))⟩)
  obtain ⟨PlacerAction_RENEW, ev_PlacerAction_RENEW⟩ := exa_v m5a
  have E_PlacerAction_RENEW : Exa s s.heap PlacerAction_RENEW "com/example/placerfill/placerfill/PlacerAction" := Exa.start ev_PlacerAction_RENEW m5a
  have S_PlacerAction_RENEW : Sta s s.heap "com/example/placerfill/placerfill/PlacerAction" "RENEW" "Lcom/example/placerfill/placerfill/PlacerAction;" (.ref PlacerAction_RENEW) := Sta.start ev_PlacerAction_RENEW (Or.inr ⟨(hw _ (List.mem_of_getElem? (i := 8) rfl)), (hw _ (List.mem_of_getElem? (i := 14) rfl))⟩)
  obtain ⟨PlacerAction_DISCONTINUE, ev_PlacerAction_DISCONTINUE⟩ := exa_v m6a
  have E_PlacerAction_DISCONTINUE : Exa s s.heap PlacerAction_DISCONTINUE "com/example/placerfill/placerfill/PlacerAction" := Exa.start ev_PlacerAction_DISCONTINUE m6a
  have S_PlacerAction_DISCONTINUE : Sta s s.heap "com/example/placerfill/placerfill/PlacerAction" "DISCONTINUE" "Lcom/example/placerfill/placerfill/PlacerAction;" (.ref PlacerAction_DISCONTINUE) := Sta.start ev_PlacerAction_DISCONTINUE (Or.inr ⟨(hw _ (List.mem_of_getElem? (i := 8) rfl)), (hw _ (List.mem_of_getElem? (i := 16) rfl))⟩)
  obtain ⟨PlacerAction_HOLD, ev_PlacerAction_HOLD⟩ := exa_v m7a
  have E_PlacerAction_HOLD : Exa s s.heap PlacerAction_HOLD "com/example/placerfill/placerfill/PlacerAction" := Exa.start ev_PlacerAction_HOLD m7a
  have S_PlacerAction_HOLD : Sta s s.heap "com/example/placerfill/placerfill/PlacerAction" "HOLD" "Lcom/example/placerfill/placerfill/PlacerAction;" (.ref PlacerAction_HOLD) := Sta.start ev_PlacerAction_HOLD (Or.inr ⟨(hw _ (List.mem_of_getElem? (i := 8) rfl)), (hw _ (List.mem_of_getElem? (i := 18) rfl))⟩)
  obtain ⟨PlacerAction_RESUME, ev_PlacerAction_RESUME⟩ := exa_v m8a
  have E_PlacerAction_RESUME : Exa s s.heap PlacerAction_RESUME "com/example/placerfill/placerfill/PlacerAction" := Exa.start ev_PlacerAction_RESUME m8a
  have S_PlacerAction_RESUME : Sta s s.heap "com/example/placerfill/placerfill/PlacerAction" "RESUME" "Lcom/example/placerfill/placerfill/PlacerAction;" (.ref PlacerAction_RESUME) := Sta.start ev_PlacerAction_RESUME (Or.inr ⟨(hw _ (List.mem_of_getElem? (i := 8) rfl)), (hw _ (List.mem_of_getElem? (i := 20) rfl))⟩)
  obtain ⟨PlacerAction_CANCEL, ev_PlacerAction_CANCEL⟩ := exa_v m9a
  have E_PlacerAction_CANCEL : Exa s s.heap PlacerAction_CANCEL "com/example/placerfill/placerfill/PlacerAction" := Exa.start ev_PlacerAction_CANCEL m9a
  have S_PlacerAction_CANCEL : Sta s s.heap "com/example/placerfill/placerfill/PlacerAction" "CANCEL" "Lcom/example/placerfill/placerfill/PlacerAction;" (.ref PlacerAction_CANCEL) := Sta.start ev_PlacerAction_CANCEL (Or.inr ⟨(hw _ (List.mem_of_getElem? (i := 8) rfl)), (hw _ (List.mem_of_getElem? (i := 22) rfl))⟩)
  obtain ⟨PlacerAction_REPLACE, ev_PlacerAction_REPLACE⟩ := exa_v m10a
  have E_PlacerAction_REPLACE : Exa s s.heap PlacerAction_REPLACE "com/example/placerfill/placerfill/PlacerAction" := Exa.start ev_PlacerAction_REPLACE m10a
  have S_PlacerAction_REPLACE : Sta s s.heap "com/example/placerfill/placerfill/PlacerAction" "REPLACE" "Lcom/example/placerfill/placerfill/PlacerAction;" (.ref PlacerAction_REPLACE) := Sta.start ev_PlacerAction_REPLACE (Or.inr ⟨(hw _ (List.mem_of_getElem? (i := 8) rfl)), (hw _ (List.mem_of_getElem? (i := 24) rfl))⟩)
  obtain ⟨PlacerAction_REPLACEMENT, ev_PlacerAction_REPLACEMENT⟩ := exa_v m11a
  have E_PlacerAction_REPLACEMENT : Exa s s.heap PlacerAction_REPLACEMENT "com/example/placerfill/placerfill/PlacerAction" := Exa.start ev_PlacerAction_REPLACEMENT m11a
  have S_PlacerAction_REPLACEMENT : Sta s s.heap "com/example/placerfill/placerfill/PlacerAction" "REPLACEMENT" "Lcom/example/placerfill/placerfill/PlacerAction;" (.ref PlacerAction_REPLACEMENT) := Sta.start ev_PlacerAction_REPLACEMENT (Or.inr ⟨(hw _ (List.mem_of_getElem? (i := 8) rfl)), (hw _ (List.mem_of_getElem? (i := 26) rfl))⟩)
  have F_PlacerAction_CREATE_ordinal : Fld s s.heap PlacerAction_CREATE "java/lang/Enum" "ordinal" "I" (.int (0 : Int32)) := Fld.start ((fld_at ev_PlacerAction_CREATE).symm.trans (eqv_i (Term.int_eval (0)) m12a))
  have F_PlacerAction_REPLACE_ordinal : Fld s s.heap PlacerAction_REPLACE "java/lang/Enum" "ordinal" "I" (.int (7 : Int32)) := Fld.start ((fld_at ev_PlacerAction_REPLACE).symm.trans (eqv_i (Term.int_eval (7)) m13a))
  have F_PlacerAction_REPLACEMENT_ordinal : Fld s s.heap PlacerAction_REPLACEMENT "java/lang/Enum" "ordinal" "I" (.int (8 : Int32)) := Fld.start ((fld_at ev_PlacerAction_REPLACEMENT).symm.trans (eqv_i (Term.int_eval (8)) m14a))
  have F_PlacerAction_RESUME_ordinal : Fld s s.heap PlacerAction_RESUME "java/lang/Enum" "ordinal" "I" (.int (5 : Int32)) := Fld.start ((fld_at ev_PlacerAction_RESUME).symm.trans (eqv_i (Term.int_eval (5)) m15a))
  have F_PlacerAction_HOLD_ordinal : Fld s s.heap PlacerAction_HOLD "java/lang/Enum" "ordinal" "I" (.int (4 : Int32)) := Fld.start ((fld_at ev_PlacerAction_HOLD).symm.trans (eqv_i (Term.int_eval (4)) m16a))
  have F_PlacerAction_CHANGE_ordinal : Fld s s.heap PlacerAction_CHANGE "java/lang/Enum" "ordinal" "I" (.int (1 : Int32)) := Fld.start ((fld_at ev_PlacerAction_CHANGE).symm.trans (eqv_i (Term.int_eval (1)) m17a))
  have F_PlacerAction_CANCEL_ordinal : Fld s s.heap PlacerAction_CANCEL "java/lang/Enum" "ordinal" "I" (.int (6 : Int32)) := Fld.start ((fld_at ev_PlacerAction_CANCEL).symm.trans (eqv_i (Term.int_eval (6)) m18a))
  have F_PlacerAction_DISCONTINUE_ordinal : Fld s s.heap PlacerAction_DISCONTINUE "java/lang/Enum" "ordinal" "I" (.int (3 : Int32)) := Fld.start ((fld_at ev_PlacerAction_DISCONTINUE).symm.trans (eqv_i (Term.int_eval (3)) m19a))
  have F_PlacerAction_RENEW_ordinal : Fld s s.heap PlacerAction_RENEW "java/lang/Enum" "ordinal" "I" (.int (2 : Int32)) := Fld.start ((fld_at ev_PlacerAction_RENEW).symm.trans (eqv_i (Term.int_eval (2)) m19b))
  have hO : ∀ n, n < 9 → Fld s s.heap (([PlacerAction_CREATE, PlacerAction_CHANGE, PlacerAction_RENEW, PlacerAction_DISCONTINUE, PlacerAction_HOLD, PlacerAction_RESUME, PlacerAction_CANCEL, PlacerAction_REPLACE, PlacerAction_REPLACEMENT] : List Addr).getD n 0) "java/lang/Enum" "ordinal" "I" (.int (Int32.ofNat n)) := by
    intro n h
    match n, h with
    | 0, _ => exact F_PlacerAction_CREATE_ordinal
    | 1, _ => exact F_PlacerAction_CHANGE_ordinal
    | 2, _ => exact F_PlacerAction_RENEW_ordinal
    | 3, _ => exact F_PlacerAction_DISCONTINUE_ordinal
    | 4, _ => exact F_PlacerAction_HOLD_ordinal
    | 5, _ => exact F_PlacerAction_RESUME_ordinal
    | 6, _ => exact F_PlacerAction_CANCEL_ordinal
    | 7, _ => exact F_PlacerAction_REPLACE_ordinal
    | 8, _ => exact F_PlacerAction_REPLACEMENT_ordinal
    | n + 9, h => exact absurd h (by omega)
  have hi : ∀ i j, i < 9 → j < 9 → i ≠ j → ([PlacerAction_CREATE, PlacerAction_CHANGE, PlacerAction_RENEW, PlacerAction_DISCONTINUE, PlacerAction_HOLD, PlacerAction_RESUME, PlacerAction_CANCEL, PlacerAction_REPLACE, PlacerAction_REPLACEMENT] : List Addr).getD i 0 ≠ ([PlacerAction_CREATE, PlacerAction_CHANGE, PlacerAction_RENEW, PlacerAction_DISCONTINUE, PlacerAction_HOLD, PlacerAction_RESUME, PlacerAction_CANCEL, PlacerAction_REPLACE, PlacerAction_REPLACEMENT] : List Addr).getD j 0 := fun i j h1 h2 h3 => Fld.ne (hO i h1) (hO j h2) (fun q => (by decide : ∀ a b : Fin 9, a ≠ b → Int32.ofNat a.1 ≠ Int32.ofNat b.1) ⟨i, h1⟩ ⟨j, h2⟩ (fun z => h3 (congrArg Fin.val z)) (Value.int.inj q))
  have hE : ∀ n, n < 9 → Exa s s.heap (([PlacerAction_CREATE, PlacerAction_CHANGE, PlacerAction_RENEW, PlacerAction_DISCONTINUE, PlacerAction_HOLD, PlacerAction_RESUME, PlacerAction_CANCEL, PlacerAction_REPLACE, PlacerAction_REPLACEMENT] : List Addr).getD n 0) "com/example/placerfill/placerfill/PlacerAction" := by
    intro n h
    match n, h with
    | 0, _ => exact E_PlacerAction_CREATE
    | 1, _ => exact E_PlacerAction_CHANGE
    | 2, _ => exact E_PlacerAction_RENEW
    | 3, _ => exact E_PlacerAction_DISCONTINUE
    | 4, _ => exact E_PlacerAction_HOLD
    | 5, _ => exact E_PlacerAction_RESUME
    | 6, _ => exact E_PlacerAction_CANCEL
    | 7, _ => exact E_PlacerAction_REPLACE
    | 8, _ => exact E_PlacerAction_REPLACEMENT
    | n + 9, h => exact absurd h (by omega)
  obtain ⟨W, hW⟩ : ∃ W : Nat → Addr, W = fun i => ([PlacerAction_CREATE, PlacerAction_CHANGE, PlacerAction_RENEW, PlacerAction_DISCONTINUE, PlacerAction_HOLD, PlacerAction_RESUME, PlacerAction_CANCEL, PlacerAction_REPLACE, PlacerAction_REPLACEMENT] : List Addr).getD i 0 := ⟨_, rfl⟩
  have hi' : ∀ i j, i < 9 → j < 9 → i ≠ j → W i ≠ W j := by rw [hW]; exact hi
  have hE' : ∀ n, n < 9 → Exa s s.heap (W n) "com/example/placerfill/placerfill/PlacerAction" := by rw [hW]; exact hE
  have S0 : Sta s s.heap "com/example/placerfill/placerfill/PlacerAction" "CREATE" "Lcom/example/placerfill/placerfill/PlacerAction;" (.ref (W 0)) := by rw [hW]; exact S_PlacerAction_CREATE
  have S1 : Sta s s.heap "com/example/placerfill/placerfill/PlacerAction" "CHANGE" "Lcom/example/placerfill/placerfill/PlacerAction;" (.ref (W 1)) := by rw [hW]; exact S_PlacerAction_CHANGE
  have S2 : Sta s s.heap "com/example/placerfill/placerfill/PlacerAction" "RENEW" "Lcom/example/placerfill/placerfill/PlacerAction;" (.ref (W 2)) := by rw [hW]; exact S_PlacerAction_RENEW
  have S3 : Sta s s.heap "com/example/placerfill/placerfill/PlacerAction" "DISCONTINUE" "Lcom/example/placerfill/placerfill/PlacerAction;" (.ref (W 3)) := by rw [hW]; exact S_PlacerAction_DISCONTINUE
  have S4 : Sta s s.heap "com/example/placerfill/placerfill/PlacerAction" "HOLD" "Lcom/example/placerfill/placerfill/PlacerAction;" (.ref (W 4)) := by rw [hW]; exact S_PlacerAction_HOLD
  have S5 : Sta s s.heap "com/example/placerfill/placerfill/PlacerAction" "RESUME" "Lcom/example/placerfill/placerfill/PlacerAction;" (.ref (W 5)) := by rw [hW]; exact S_PlacerAction_RESUME
  have S6 : Sta s s.heap "com/example/placerfill/placerfill/PlacerAction" "CANCEL" "Lcom/example/placerfill/placerfill/PlacerAction;" (.ref (W 6)) := by rw [hW]; exact S_PlacerAction_CANCEL
  have S7 : Sta s s.heap "com/example/placerfill/placerfill/PlacerAction" "REPLACE" "Lcom/example/placerfill/placerfill/PlacerAction;" (.ref (W 7)) := by rw [hW]; exact S_PlacerAction_REPLACE
  have S8 : Sta s s.heap "com/example/placerfill/placerfill/PlacerAction" "REPLACEMENT" "Lcom/example/placerfill/placerfill/PlacerAction;" (.ref (W 8)) := by rw [hW]; exact S_PlacerAction_REPLACEMENT
  obtain ⟨n, o, h1, h2, h3, _, L, rfl, ⟨rfl, N⟩, hq⟩ := rm0 l s _ hw tables_1 i0 i1 _ _ W s.heap s.heap.size (Old.start s) S0 S1 S2 S3 S4 S5 S6 S7 S8 hE' rfl rfl (own_b9 i0) (own_b9 i1) (own_is hi' (own_b9 i0) 7 7 (by decide) (by decide)) (own_is hi' (own_b9 i0) 8 8 (by decide) (by decide)) (own_is hi' (own_b9 i1) 7 7 (by decide) (by decide)) (own_is hi' (own_b9 i1) 8 8 (by decide) (by decide)) p e ha hc hk s m _ below hf ((Spec.applies_iff_loose hf).mp happ).1 ⟨rfl, State.Warmed39.refl s, rfl⟩ trivial
  refine ⟨n, _, h1, h2, h3, hpost _ _ _ _ _ _ ⟨Cond.after_iff.mpr rfl, Cond.after_iff.mpr (eq_i res_at (Term.int_eval (1)) rfl), trivial⟩ ⟨hq.1, hq.2.1, (hq.2.2.sift fun y hy => Or.inr (N y hy)).mono (by decide) (by decide)⟩⟩
theorem main_1_1 : Claimed_1_1 := comes_1 fun _ _ _ _ _ _ h hF => ⟨h.1, hF⟩
theorem main_1_2 : Claimed_1_2 := comes_1 fun _ _ _ _ _ _ h hF => ⟨h.2.1, hF⟩
end Jvm.Pilot.@@N@@
namespace Jvm.Pilot.@@N@@
open Jvm Jvm.ClassFile Sem Op Lib Jvm.Free Jvm.Stand Jvm.Pilot.@@N@@.Jvm.D
/-! MADE BY PROGRAM (witnessworld.py) out of the Statement's table words and the real class files: 13 classes; the members and pool entries that the words name. The judged class is class 1, her method 2. -/
namespace start1
open Jvm.ClassFile
def u (s : String) : CpInfo := .utf8 (stringToUtf16 s)
/-- a pool by its gaps: so many unusable entries, then the entry; so many at the end -/
def gap : Nat → List CpInfo → List CpInfo
  | 0, r => r
  | n + 1, r => .unusable :: gap n r
def poolList (es : List (Nat × CpInfo)) (last : Nat) : List CpInfo := es.foldr (fun e r => gap e.1 (e.2 :: r)) (gap last [])
def pool (es : List (Nat × CpInfo)) (last : Nat) : Array CpInfo := ⟨poolList es last⟩
def fileOf (pool : Array CpInfo) (this : Nat) (attrs : Array Attribute := #[]) (ms : Array MethodInfo := #[]) (fl : Nat := 33) (sup : Nat := 0) (ifs : Array Nat := #[]) (fds : Array FieldInfo := #[]) : ClassFile where
  minorVersion := 0
  majorVersion := 65
  constantPool := pool
  accessFlags := fl
  thisClass := this
  superClass := sup
  interfaces := ifs
  fields := fds
  methods := ms
  attributes := attrs
def plain (name : String) (sup : Option ClassId) : Class where
  name := name
  kind := .ordinary
  loader := none
  accessFlags := 33
  super := sup
  interfaces := #[]
  cf := none
  fields := #[]
  methods := #[]
  instanceTypes := #[]
  staticTypes := #[]
  resolved := #[]
  callSites := []
  init := .initialized
  statics := none
  mirror := none

def pool0 : Array CpInfo := pool [(5, u "<init>"), (0, u "()V"), (1, .class_ 10), (1, u "java/lang/Object")] 113

def k0m0 : Method := { name := "<init>", desc := "()V", sig := { parameters := [], returnType := none }, accessFlags := 1, code := none }
/-- java/lang/Object -/
def k0 : Class := { plain "java/lang/Object" none with
  accessFlags := 33
  interfaces := #[]
  cf := some (fileOf pool0 8 #[] #[{ accessFlags := 1, nameIndex := 5, descriptorIndex := 6, attributes := #[] }] 33 0 #[] #[])
  fields := #[]
  methods := #[k0m0]
  instanceTypes := #[]
  staticTypes := #[]
  resolved := Array.replicate 124 none
  statics := none }

def pool1 : Array CpInfo := pool [(2, .class_ 4), (1, u "java/lang/Object"), (0, u "<init>"), (0, u "()V"), (0, .class_ 8), (0, u "com/example/placerfill/placerfill/PlacerAction"), (0, .fieldref 7 10), (0, .nameAndType 11 12), (0, u "CREATE"), (0, u "Lcom/example/placerfill/placerfill/PlacerAction;"), (0, .fieldref 7 14), (0, .nameAndType 15 12), (0, u "CHANGE"), (0, .fieldref 7 17), (0, .nameAndType 18 12), (0, u "RENEW"), (0, .fieldref 7 20), (0, .nameAndType 21 12), (0, u "DISCONTINUE"), (0, .fieldref 7 23), (0, .nameAndType 24 12), (0, u "HOLD"), (0, .fieldref 7 26), (0, .nameAndType 27 12), (0, u "RESUME"), (0, .fieldref 7 29), (0, .nameAndType 30 12), (0, u "CANCEL"), (0, .fieldref 7 32), (0, .nameAndType 33 12), (0, u "REPLACE"), (0, .fieldref 7 35), (0, .nameAndType 36 12), (0, u "REPLACEMENT"), (0, .integer 2147483647), (0, .methodref 39 40), (0, .class_ 41), (0, .nameAndType 42 43), (0, u "com/example/placerfill/placerfill/PlacerActionJoinsPinLaw"), (0, u "pick"), (0, u "(I)Lcom/example/placerfill/placerfill/PlacerAction;"), (0, .methodref 7 45), (0, .nameAndType 46 47), (0, u "joins"), (0, u "(Lcom/example/placerfill/placerfill/PlacerAction;)Z"), (2, u "law"), (0, u "(II)Z")] 3

def k1m0 : Method := { name := "<init>", desc := "()V", sig := { parameters := [], returnType := none }, accessFlags := 1, code := none }
def k1c1 : Code := { maxStack := 4, maxLocals := 2, code := method_2_code, exceptionTable := #[], attributes := #[] }
def k1m1 : Method := { name := "pick", desc := "(I)Lcom/example/placerfill/placerfill/PlacerAction;", sig := { parameters := [.int], returnType := some (.object "com/example/placerfill/placerfill/PlacerAction") }, accessFlags := 10, code := some k1c1 }
def k1c2 : Code := { maxStack := 2, maxLocals := 7, code := code, exceptionTable := #[], attributes := #[] }
def k1m2 : Method := { name := "law", desc := "(II)Z", sig := { parameters := [.int, .int], returnType := some .boolean }, accessFlags := 9, code := some k1c2 }
/-- com/example/placerfill/placerfill/PlacerActionJoinsPinLaw -/
def k1 : Class := { plain "com/example/placerfill/placerfill/PlacerActionJoinsPinLaw" (some 0) with
  accessFlags := 49
  interfaces := #[]
  cf := some (fileOf pool1 39 #[] #[{ accessFlags := 1, nameIndex := 5, descriptorIndex := 6, attributes := #[] }, { accessFlags := 10, nameIndex := 42, descriptorIndex := 43, attributes := #[] }, { accessFlags := 9, nameIndex := 50, descriptorIndex := 51, attributes := #[] }] 49 2 #[] #[])
  fields := #[]
  methods := #[k1m0, k1m1, k1m2]
  instanceTypes := #[]
  staticTypes := #[]
  resolved := Array.replicate 55 none
  statics := none }

def pool2 : Array CpInfo := pool [(1, .class_ 2), (0, u "java/lang/constant/Constable"), (0, .class_ 4), (0, u "java/lang/Object")] 6

/-- java/lang/constant/Constable -/
def k2 : Class := { plain "java/lang/constant/Constable" (some 0) with
  accessFlags := 1537
  interfaces := #[]
  cf := some (fileOf pool2 1 #[] #[] 1537 3 #[] #[])
  fields := #[]
  methods := #[]
  instanceTypes := #[]
  staticTypes := #[]
  resolved := Array.replicate 11 none
  statics := none }

def pool3 : Array CpInfo := pool [(1, .class_ 2), (0, u "java/lang/Comparable"), (0, .class_ 4), (0, u "java/lang/Object")] 7

/-- java/lang/Comparable -/
def k3 : Class := { plain "java/lang/Comparable" (some 0) with
  accessFlags := 1537
  interfaces := #[]
  cf := some (fileOf pool3 1 #[] #[] 1537 3 #[] #[])
  fields := #[]
  methods := #[]
  instanceTypes := #[]
  staticTypes := #[]
  resolved := Array.replicate 12 none
  statics := none }

def pool4 : Array CpInfo := pool [(1, .class_ 2), (0, u "java/io/Serializable"), (0, .class_ 4), (0, u "java/lang/Object")] 2

/-- java/io/Serializable -/
def k4 : Class := { plain "java/io/Serializable" (some 0) with
  accessFlags := 1537
  interfaces := #[]
  cf := some (fileOf pool4 1 #[] #[] 1537 3 #[] #[])
  fields := #[]
  methods := #[]
  instanceTypes := #[]
  staticTypes := #[]
  resolved := Array.replicate 7 none
  statics := none }

def pool5 : Array CpInfo := pool [(2, .class_ 4), (1, u "java/lang/Enum"), (0, u "name"), (0, u "Ljava/lang/String;"), (2, u "ordinal"), (0, u "I"), (1, .class_ 14), (1, u "java/lang/Object"), (4, u "hash"), (86, .class_ 108), (1, u "java/lang/Enum$EnumDesc"), (2, .class_ 112), (0, u "java/lang/constant/Constable"), (0, .class_ 114), (0, u "java/lang/Comparable"), (0, .class_ 116), (0, u "java/io/Serializable")] 87

/-- java/lang/Enum -/
def k5 : Class := { plain "java/lang/Enum" (some 0) with
  accessFlags := 1057
  interfaces := #[2, 3, 4]
  cf := some (fileOf pool5 2 #[.nestMembers #[106]] #[] 1057 12 #[111, 113, 115] #[{ accessFlags := 18, nameIndex := 5, descriptorIndex := 6, attributes := #[] }, { accessFlags := 18, nameIndex := 9, descriptorIndex := 10, attributes := #[] }, { accessFlags := 2, nameIndex := 19, descriptorIndex := 10, attributes := #[] }])
  fields := #[{ name := "name", type := (.object "java/lang/String"), accessFlags := 18, slot := 0, constantValue := 0 }, { name := "ordinal", type := .int, accessFlags := 18, slot := 1, constantValue := 0 }, { name := "hash", type := .int, accessFlags := 2, slot := 2, constantValue := 0 }]
  methods := #[]
  instanceTypes := #[(.object "java/lang/String"), .int, .int]
  staticTypes := #[]
  resolved := Array.replicate 204 none
  statics := none }

def pool6 : Array CpInfo := pool [(1, .class_ 2), (0, u "com/example/placerfill/placerfill/PlacerAction"), (2, u "CREATE"), (0, u "Lcom/example/placerfill/placerfill/PlacerAction;"), (2, u "CHANGE"), (2, u "RENEW"), (2, u "DISCONTINUE"), (2, u "HOLD"), (2, u "RESUME"), (2, u "CANCEL"), (0, .fieldref 1 26), (0, .nameAndType 27 6), (0, u "REPLACE"), (0, .fieldref 1 29), (0, .nameAndType 30 6), (0, u "REPLACEMENT"), (2, u "$VALUES"), (0, u "[Lcom/example/placerfill/placerfill/PlacerAction;"), (6, .class_ 43), (1, u "java/lang/Enum"), (8, u "word"), (0, u "Ljava/lang/String;"), (2, u "asked"), (0, u "Lcom/example/placerfill/placerfill/OrderAction;"), (2, u "carriesService"), (0, u "Z"), (120, u "joins"), (0, u "(Lcom/example/placerfill/placerfill/PlacerAction;)Z")] 37

def k6c0 : Code := { maxStack := 2, maxLocals := 3, code := prog_56_method_8_code, exceptionTable := #[], attributes := #[] }
def k6m0 : Method := { name := "joins", desc := "(Lcom/example/placerfill/placerfill/PlacerAction;)Z", sig := { parameters := [(.object "com/example/placerfill/placerfill/PlacerAction")], returnType := some .boolean }, accessFlags := 0, code := some k6c0 }
/-- com/example/placerfill/placerfill/PlacerAction -/
def k6 : Class := { plain "com/example/placerfill/placerfill/PlacerAction" (some 5) with
  accessFlags := 16433
  interfaces := #[]
  cf := some (fileOf pool6 1 #[] #[{ accessFlags := 0, nameIndex := 182, descriptorIndex := 183, attributes := #[] }] 16433 41 #[] #[{ accessFlags := 16409, nameIndex := 5, descriptorIndex := 6, attributes := #[] }, { accessFlags := 16409, nameIndex := 9, descriptorIndex := 6, attributes := #[] }, { accessFlags := 16409, nameIndex := 12, descriptorIndex := 6, attributes := #[] }, { accessFlags := 16409, nameIndex := 15, descriptorIndex := 6, attributes := #[] }, { accessFlags := 16409, nameIndex := 18, descriptorIndex := 6, attributes := #[] }, { accessFlags := 16409, nameIndex := 21, descriptorIndex := 6, attributes := #[] }, { accessFlags := 16409, nameIndex := 24, descriptorIndex := 6, attributes := #[] }, { accessFlags := 16409, nameIndex := 27, descriptorIndex := 6, attributes := #[] }, { accessFlags := 16409, nameIndex := 30, descriptorIndex := 6, attributes := #[] }, { accessFlags := 18, nameIndex := 52, descriptorIndex := 53, attributes := #[] }, { accessFlags := 18, nameIndex := 56, descriptorIndex := 57, attributes := #[] }, { accessFlags := 18, nameIndex := 60, descriptorIndex := 61, attributes := #[] }, { accessFlags := 4122, nameIndex := 33, descriptorIndex := 34, attributes := #[] }])
  fields := #[{ name := "CREATE", type := (.object "com/example/placerfill/placerfill/PlacerAction"), accessFlags := 16409, slot := 0, constantValue := 0 }, { name := "CHANGE", type := (.object "com/example/placerfill/placerfill/PlacerAction"), accessFlags := 16409, slot := 1, constantValue := 0 }, { name := "RENEW", type := (.object "com/example/placerfill/placerfill/PlacerAction"), accessFlags := 16409, slot := 2, constantValue := 0 }, { name := "DISCONTINUE", type := (.object "com/example/placerfill/placerfill/PlacerAction"), accessFlags := 16409, slot := 3, constantValue := 0 }, { name := "HOLD", type := (.object "com/example/placerfill/placerfill/PlacerAction"), accessFlags := 16409, slot := 4, constantValue := 0 }, { name := "RESUME", type := (.object "com/example/placerfill/placerfill/PlacerAction"), accessFlags := 16409, slot := 5, constantValue := 0 }, { name := "CANCEL", type := (.object "com/example/placerfill/placerfill/PlacerAction"), accessFlags := 16409, slot := 6, constantValue := 0 }, { name := "REPLACE", type := (.object "com/example/placerfill/placerfill/PlacerAction"), accessFlags := 16409, slot := 7, constantValue := 0 }, { name := "REPLACEMENT", type := (.object "com/example/placerfill/placerfill/PlacerAction"), accessFlags := 16409, slot := 8, constantValue := 0 }, { name := "word", type := (.object "java/lang/String"), accessFlags := 18, slot := 3, constantValue := 0 }, { name := "asked", type := (.object "com/example/placerfill/placerfill/OrderAction"), accessFlags := 18, slot := 4, constantValue := 0 }, { name := "carriesService", type := .boolean, accessFlags := 18, slot := 5, constantValue := 0 }, { name := "$VALUES", type := (.array (.object "com/example/placerfill/placerfill/PlacerAction")), accessFlags := 4122, slot := 9, constantValue := 0 }]
  methods := #[k6m0]
  instanceTypes := #[(.object "java/lang/String"), .int, .int, (.object "java/lang/String"), (.object "com/example/placerfill/placerfill/OrderAction"), .boolean]
  staticTypes := #[(.object "com/example/placerfill/placerfill/PlacerAction"), (.object "com/example/placerfill/placerfill/PlacerAction"), (.object "com/example/placerfill/placerfill/PlacerAction"), (.object "com/example/placerfill/placerfill/PlacerAction"), (.object "com/example/placerfill/placerfill/PlacerAction"), (.object "com/example/placerfill/placerfill/PlacerAction"), (.object "com/example/placerfill/placerfill/PlacerAction"), (.object "com/example/placerfill/placerfill/PlacerAction"), (.object "com/example/placerfill/placerfill/PlacerAction"), (.array (.object "com/example/placerfill/placerfill/PlacerAction"))]
  resolved := Array.replicate 221 none
  statics := some 0 }

def pool7 : Array CpInfo := pool [(1, u "java/lang/Cloneable"), (0, .class_ 1), (0, u "java/lang/Object"), (0, .class_ 3)] 3

/-- java/lang/Cloneable -/
def k7 : Class := { plain "java/lang/Cloneable" (some 0) with
  accessFlags := 1537
  interfaces := #[]
  cf := some (fileOf pool7 2 #[] #[] 1537 4 #[] #[])
  fields := #[]
  methods := #[]
  instanceTypes := #[]
  staticTypes := #[]
  resolved := Array.replicate 8 none
  statics := none }

/-- the primitive byte -/
def k8 : Class := { plain "byte" none with kind := .primitive 'B', accessFlags := 0x411 }
/-- [B -/
def k9 : Class := { plain "[B" (some 0) with kind := .array 8 .byte, interfaces := #[7, 4], accessFlags := 1041 }

/-- the primitive int -/
def k10 : Class := { plain "int" none with kind := .primitive 'I', accessFlags := 0x411 }
/-- [I -/
def k11 : Class := { plain "[I" (some 0) with kind := .array 10 .int, interfaces := #[7, 4], accessFlags := 1041 }

/-- [Lcom/example/placerfill/placerfill/PlacerAction; -/
def k12 : Class := { plain "[Lcom/example/placerfill/placerfill/PlacerAction;" (some 0) with kind := .array 6 (.object "com/example/placerfill/placerfill/PlacerAction"), interfaces := #[7, 4], accessFlags := 1041 }

def heap : Heap := #[{ cls := 6, slots := #[.ref 1, .ref 2, .ref 3, .ref 4, .ref 5, .ref 6, .ref 7, .ref 8, .ref 9, .null], vm := .statics 6 },
  { cls := 6, slots := #[.null, .int 0, .int 0, .null, .null, .int 0], vm := .none },
  { cls := 6, slots := #[.null, .int 1, .int 0, .null, .null, .int 0], vm := .none },
  { cls := 6, slots := #[.null, .int 2, .int 0, .null, .null, .int 0], vm := .none },
  { cls := 6, slots := #[.null, .int 3, .int 0, .null, .null, .int 0], vm := .none },
  { cls := 6, slots := #[.null, .int 4, .int 0, .null, .null, .int 0], vm := .none },
  { cls := 6, slots := #[.null, .int 5, .int 0, .null, .null, .int 0], vm := .none },
  { cls := 6, slots := #[.null, .int 6, .int 0, .null, .null, .int 0], vm := .none },
  { cls := 6, slots := #[.null, .int 7, .int 0, .null, .null, .int 0], vm := .none },
  { cls := 6, slots := #[.null, .int 8, .int 0, .null, .null, .int 0], vm := .none }]
def classes : Array Class := #[k0, k1, k2, k3, k4, k5, k6, k7, k8, k9, k10, k11, k12]
def interned : List (Array UInt16 × Addr) := []
def slotsUsed : Nat := 64
def theMethod : MethodId := ⟨1, 2⟩
def args0 : Array Value := #[.int 5, .int 6]
def aboutOver (below : List Frame) : State where
  vm := { classes := classes, interned := interned.toArray }
  heap := heap
  slotsUsed := slotsUsed
  threads := #[{ frames := .invoking theMethod args0 :: below }]
def below0 : List Frame := [.native { method := ⟨0, 0⟩, args := #[] }]
def about1 : State := aboutOver below0
def p0 : Program := .bare "" "" ""
def e0 : Env := launch0.env 0 0 0
theorem w_frames : about1.frames = Frame.invoking theMethod args0 :: below0 := rfl
set_option maxRecDepth 65536 in
theorem w_args : argsFit about1.vm theMethod args0 = true := by decide +kernel
set_option maxRecDepth 65536 in
theorem w_heap : heapFits about1 = true := by decide +kernel
set_option maxRecDepth 65536 in
theorem w_runnable : about1.curStatus? = some .runnable := by decide +kernel
set_option maxRecDepth 65536 in
theorem w_alone : about1.alone = true := by decide +kernel
set_option maxRecDepth 65536 in
theorem w_named : about1.methodNamed? x = some theMethod := by decide +kernel
set_option maxRecDepth 65536 in
theorem w_hears : about1.hears theMethod below0 = true := by decide +kernel
set_option maxRecDepth 65536 in
theorem w_ripe : about1.ripe theMethod args0 below0 = true := by decide +kernel
theorem w_running : about1.status = .running := rfl
set_option maxRecDepth 65536 in
theorem w_room : about1.hasRoom e0.platform room_1 = true :=
  launch0.hasRoom_least _ room_1 (by decide +kernel) (by decide +kernel) (by decide +kernel) (by decide +kernel) (by decide +kernel) (by decide +kernel)
theorem allAtoms_all (ts : List Jvm.Cond) (a : Array Jvm.Value) (st : Jvm.State) : (allAtoms ts).before a st = ts.all (fun c => c.before a st) := by
  induction ts with
  | nil => rfl
  | cons c t ih =>
    show (Jvm.Cond.and c (allAtoms t)).before a st = _
    rw [Jvm.Cond.before_and, ih, List.all_cons]
def words1 : List Jvm.Cond := Jvm.Cond.code x code maxLocals ret :: tables_1
/-- a 'code' word, met by the world's own term for the bytes: nothing is compared byte by byte -/
theorem code_word {y : MethodName} {bytes : ByteArray} {mx : Nat} {rt : Option FieldType} {a : Array Value} {s : State} {m : MethodId} {meth : Method} {c : Code} (h1 : s.methodNamed? y = some m) (h2 : s.vm.method? m = some meth) (h3 : meth.code = some c) (h4 : c.code = bytes)
    (h5 : (c.maxLocals == mx && c.exceptionTable.isEmpty && decide (c.maxStack ≤ mostOperands) && decide (meth.sig.returnType = rt) && !meth.locks && decide (parseMethodDescriptor y.desc = some meth.sig)) = true) : (Jvm.Cond.code y bytes mx rt).before a s = true := by
  simp only [Bool.and_eq_true, beq_iff_eq, Bool.not_eq_true', decide_eq_true_eq] at h5
  obtain ⟨⟨⟨⟨⟨g1, g2⟩, g3⟩, g4⟩, g5⟩, g6⟩ := h5
  simp [Cond.before, Cond.holds, Cond.value, h1, h2, h3, h4, g1, g2, g3, g4, g5, g6]
def isCode : Jvm.Cond → Bool
  | .code _ _ _ _ => true
  | _ => false
theorem all_split {L : List Jvm.Cond} {P : Jvm.Cond → Bool} (h1 : L.all (fun c => isCode c || P c) = true) (h2 : ∀ c ∈ L.filter isCode, P c = true) : L.all P = true := by
  refine List.all_eq_true.mpr fun c hc => ?_
  have h := List.all_eq_true.mp h1 c hc
  rcases Bool.eq_false_or_eq_true (isCode c) with hi | hi
  · exact h2 c (List.mem_filter.mpr ⟨hc, hi⟩)
  · simpa [hi] using h
set_option maxRecDepth 65536 in
theorem w_c0 : (Jvm.Cond.code x code maxLocals ret).before args0 about1 = true := code_word (m := ⟨1, 2⟩) (meth := k1m2) (c := k1c2) (by decide +kernel) rfl rfl rfl (by decide +kernel)
set_option maxRecDepth 65536 in
theorem w_c1 : (Jvm.Cond.code ({ cls := "com/example/placerfill/placerfill/PlacerActionJoinsPinLaw", name := "pick", desc := "(I)Lcom/example/placerfill/placerfill/PlacerAction;" } : Jvm.MethodName) method_2_code (2 : Nat) (Option.some (Jvm.ClassFile.FieldType.object "com/example/placerfill/placerfill/PlacerAction"))).before args0 about1 = true := code_word (m := ⟨1, 1⟩) (meth := k1m1) (c := k1c1) (by decide +kernel) rfl rfl rfl (by decide +kernel)
set_option maxRecDepth 65536 in
theorem w_c2 : (Jvm.Cond.code ({ cls := "com/example/placerfill/placerfill/PlacerAction", name := "joins", desc := "(Lcom/example/placerfill/placerfill/PlacerAction;)Z" } : Jvm.MethodName) prog_56_method_8_code (3 : Nat) (Option.some Jvm.ClassFile.FieldType.boolean)).before args0 about1 = true := code_word (m := ⟨6, 0⟩) (meth := k6m0) (c := k6c0) (by decide +kernel) rfl rfl rfl (by decide +kernel)
def codes1 : List Jvm.Cond := [Jvm.Cond.code x code maxLocals ret, Jvm.Cond.code ({ cls := "com/example/placerfill/placerfill/PlacerActionJoinsPinLaw", name := "pick", desc := "(I)Lcom/example/placerfill/placerfill/PlacerAction;" } : Jvm.MethodName) method_2_code (2 : Nat) (Option.some (Jvm.ClassFile.FieldType.object "com/example/placerfill/placerfill/PlacerAction")), Jvm.Cond.code ({ cls := "com/example/placerfill/placerfill/PlacerAction", name := "joins", desc := "(Lcom/example/placerfill/placerfill/PlacerAction;)Z" } : Jvm.MethodName) prog_56_method_8_code (3 : Nat) (Option.some Jvm.ClassFile.FieldType.boolean)]
set_option maxRecDepth 65536 in
theorem codes_eq : words1.filter isCode = codes1 := rfl
theorem w_codes : ∀ c ∈ words1.filter isCode, c.before args0 about1 = true := by
  rw [codes_eq]
  intro c hc
  simp only [codes1, List.mem_cons, List.not_mem_nil, or_false] at hc
  rcases hc with rfl | rfl | rfl
  · exact w_c0
  · exact w_c1
  · exact w_c2
set_option maxRecDepth 65536 in
theorem w_t1 : (words1.take 24).all (fun c => isCode c || c.before args0 about1) = true := by decide +kernel
set_option maxRecDepth 65536 in
theorem w_t2 : (words1.drop 24).all (fun c => isCode c || c.before args0 about1) = true := by decide +kernel
theorem w_tables : (allAtoms (Jvm.Cond.code x code maxLocals ret :: tables_1)).before args0 about1 = true := by
  rw [allAtoms_all]
  show words1.all (fun c => c.before args0 about1) = true
  refine all_split ?_ w_codes
  rw [← List.take_append_drop 24 words1, List.all_append, w_t1, w_t2]
  rfl
set_option maxRecDepth 65536 in
theorem w_case : (Jvm.Cond.and given_1 narrow_1).before args0 about1 = true := by decide +kernel
theorem w_applies : (headSpec (Jvm.Cond.code x code maxLocals ret :: tables_1) room_1).applies x e0.platform about1 = true :=
  (Spec.applies_iff w_frames).mpr ⟨w_running, w_runnable, w_alone, w_named, w_hears, w_ripe, w_room, w_tables⟩
theorem atStart : AtStart classFile x code maxLocals ret World_1 tables_1 room_1 Calls_1 rest_1 Pre_1 launch0 p0 e0 about1 theMethod args0 below0 :=
  ⟨lists_1, trivial, launch0.admits_env _ _ _, launch0.least_env, fairChoices_fair.cas, fairChoices_fair.clock, w_frames, w_args, w_heap, w_applies, trivial, trivial, w_case⟩
end start1
theorem witness_1 : WitnessClaimed_1 := ⟨start1.p0, start1.e0, start1.about1, start1.theMethod, start1.args0, start1.below0, start1.atStart⟩
end Jvm.Pilot.@@N@@
