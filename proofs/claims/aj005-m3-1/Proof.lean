import JvmDerived
import JvmDerived.Pilot.@@N@@Statement
import JvmDerived.Pilot.@@N@@Code
set_option linter.unusedVariables false
set_option linter.unusedSimpArgs false
namespace Jvm.Pilot.@@N@@
open Jvm Jvm.ClassFile Sem Op Lib Jvm.Free Jvm.Stand Jvm.LawKit Jvm.RoadKit Bundle Jvm.Pilot.@@N@@.Jvm.D
/-- from S the run goes on to an end that answers Q -/
def own_Go (p : Program) (e : Env) (below : List Frame) (s : State) (Q : Option Value → Heap → List Loc → Prop) (rm : Room) (S : State) : Prop :=
  ∃ t o, Steps p.tables e below S t ∧ t.status = .running ∧ Ended t below o ∧ ∃ v L, o = .returned v ∧ Q v t.heap L ∧ FrameEnd s o t L rm.cells rm.slots
section OwnKit
variable {p : Program} {l : Launch} {e : Env} {R rm : Room} {s S S' : State} {m : MethodId} {args : Array Value} {below : List Frame} {meth : Method} {c : Code} {T : State} {locs : List Loc} {cells slots : Nat} {Q : Option Value → Heap → List Loc → Prop}
theorem own_by (st : ∀ t, Steps p.tables e below S' t → Steps p.tables e below S t) (k : own_Go p e below s Q rm S') : own_Go p e below s Q rm S := by
  obtain ⟨t, o, h, r⟩ := k
  exact ⟨t, o, st _ h, r⟩
theorem own_via (st : Steps p.tables e below S S') (k : own_Go p e below s Q rm S') : own_Go p e below s Q rm S := own_by (fun _ h => st.trans h) k
theorem own_out {v : Option Value} {pc : Nat} {Ls : Array Slot} {st : List Value} (X : Stand p l e rm s m args below meth c T locs cells slots) (hlk : meth.locks = false) (hv : meth.sig.returnType = none → v = none) (hc : cells ≤ rm.cells) (hs : slots ≤ rm.slots)
    (step : ∀ fs, (∀ (f : JFrame) (acts : List Action), f.method = m → f.locked = none → f.entered = [] → (doReturn e (T.setTop f) acts v).1 = T.setFrames fs) → Steps p.tables e below (T.setTop (mkF m pc Ls st)) (T.setFrames fs)) (hQ : Q v T.heap locs) : own_Go p e below s Q rm (T.setTop (mkF m pc Ls st)) := by
  obtain ⟨fs, hr, hrun, hended, hW, hsame⟩ := X.leave (v := v) hv hlk
  exact ⟨_, _, step fs hr, hrun, hended, v, locs, rfl, hQ, ⟨_, rfl⟩, hW, hsame.mono hc hs⟩
theorem own_retV (X : Stand p l e rm s m args below meth c T locs cells slots) (hx : p.tables.exec = Jvm.exec) (hlk : meth.locks = false) {pc : Nat} {Ls : Array Slot} (hret : meth.sig.returnType = none) (hd : decode c.code pc = .ok (.return_, 1)) (hQ : Q none T.heap locs) (hc : cells ≤ rm.cells) (hs : slots ≤ rm.slots) :
    own_Go p e below s Q rm (T.setTop (mkF m pc Ls [])) := own_out X hlk (fun _ => rfl) hc hs (fun fs hr => X.returnOut hx hret hd hr) hQ
theorem own_retI (X : Stand p l e rm s m args below meth c T locs cells slots) (hx : p.tables.exec = Jvm.exec) (hlk : meth.locks = false) {pc : Nat} {Ls : Array Slot} {z : Int32} {t : FieldType} {rest : List Value} (hret : meth.sig.returnType = some t) (ht : t = .int ∨ t = .boolean ∨ t = .byte ∨ t = .char ∨ t = .short) (hn : narrow t (.int z) = .int z) (hd : decode c.code pc = .ok (.ireturn, 1)) (hQ : Q (some (.int z)) T.heap locs) (hc : cells ≤ rm.cells) (hs : slots ≤ rm.slots) :
    own_Go p e below s Q rm (T.setTop (mkF m pc Ls (.int z :: rest))) := own_out X hlk (fun h => by rw [hret] at h; cases h) hc hs (fun fs hr => retOut X hx hret hn (Or.inl ⟨rfl, ht, z, rfl⟩) hd hr) hQ
theorem own_retL (X : Stand p l e rm s m args below meth c T locs cells slots) (hx : p.tables.exec = Jvm.exec) (hlk : meth.locks = false) {pc : Nat} {Ls : Array Slot} {z : Int64} {rest : List Value} (hret : meth.sig.returnType = some .long) (hd : decode c.code pc = .ok (.lreturn, 1)) (hQ : Q (some (.long z)) T.heap locs) (hc : cells ≤ rm.cells) (hs : slots ≤ rm.slots) :
    own_Go p e below s Q rm (T.setTop (mkF m pc Ls (.long z :: rest))) := own_out X hlk (fun h => by rw [hret] at h; cases h) hc hs (fun fs hr => retOut X hx hret rfl (Or.inr (Or.inl ⟨rfl, rfl, z, rfl⟩)) hd hr) hQ
theorem own_retA (X : Stand p l e rm s m args below meth c T locs cells slots) (hx : p.tables.exec = Jvm.exec) (hlk : meth.locks = false) {pc : Nat} {Ls : Array Slot} {w : Value} {t : FieldType} {rest : List Value} (hret : meth.sig.returnType = some t) (ht : t.isReference = true) (hw : w.isRef = true) (hd : decode c.code pc = .ok (.areturn, 1)) (hQ : Q (some w) T.heap locs) (hc : cells ≤ rm.cells) (hs : slots ≤ rm.slots) :
    own_Go p e below s Q rm (T.setTop (mkF m pc Ls (w :: rest))) := by
  have hn : narrow t w = w := by cases w <;> first | (simp [Value.isRef] at hw; done) | (cases t <;> first | (simp [FieldType.isReference] at ht; done) | rfl)
  exact own_out X hlk (fun h => by rw [hret] at h; cases h) hc hs (fun fs hr => retOut X hx hret hn (Or.inr (Or.inr (Or.inr (Or.inr ⟨rfl, ht, hw⟩)))) hd hr) hQ
theorem own_enter {Z : State} {h0 : Heap} {y : MethodName} {bytes : ByteArray} {maxL : Nat} {ret : Option FieldType} {ws : List Jvm.Cond} {as : Array Value} (hp : plainFor y = true)
    (body : ∀ p e s m below meth c s₁, Stand p l e rm s m as below meth c s₁ [] 0 0 → p.tables.exec = Jvm.exec → Z.Warmed39 s.vm → c.code = bytes → c.maxLocals = maxL → s.vm.findClass y.cls = some m.cls → meth.name = y.name → meth.sig.returnType = ret → meth.locks = false → s₁.heap = h0 →
      own_Go p e below s Q rm (s₁.setTop (entryFrame m as maxL))) :
    MetFree l y (head1 (Jvm.Cond.code y bytes maxL ret :: ws) rm) (fun a U => a = as ∧ Z.Warmed39 U.vm ∧ U.heap = h0) (fun _ _ _ _ _ => True) (fun _ U o U' => ∃ v L, o = .returned v ∧ Q v U'.heap L ∧ FrameEnd U o U' L rm.cells rm.slots) := by
  refine MetFree.of_bodySF hp hisR ?_
  intro p e s m args below meth c s₁ Bd hml0 hP hK
  obtain ⟨rfl, hZ, hh⟩ := hP
  have X0 : Stand p l e rm s m args below meth c s₁ [] 0 0 := Stand.of_body Bd
  exact body p e s m below meth c s₁ X0 Bd.exec hZ Bd.bytes hml0 (findClass_of_methodNamed Bd.named) (name_of_methodNamed Bd.named Bd.method).1 Bd.returns (BodyLoose.notSynchronized Bd) (by rw [← hh, Bd.state]; rfl)
end OwnKit
theorem own_len31 {Z : State} {args : Array Value} {t : Term} {v : Value} {a : Addr} {cl : Cell} (h : (Term.length t).eval args Z none [] Z = some v) (ht : t.eval args Z none [] Z = some (.ref a)) (hc : Z.heap[a]? = some cl) : cl.slots.size < 2 ^ 31 := by
  simp only [Term.eval, ht, Option.bind_eq_bind, Option.bind_some] at h
  cases ha : Z.arrayAt? a with
  | none => simp [ha] at h
  | some c2 =>
    cases (State.arrayAt?_spec ha).1.symm.trans hc
    by_cases q : cl.slots.size < 2 ^ 31
    · exact q
    · simp [ha, q] at h
theorem own_eqr {Z : State} {args : Array Value} {X F : Term} {y : Value} (hy : y.isRef = true) (hF : F.eval args Z none [] Z = some y) (h : (Jvm.Cond.eq X F).value args Z none Z [] = some true) : X.eval args Z none [] Z = some y := by
  obtain ⟨x, y', e1, e2, k1, k2⟩ := cmp_v (Or.inl h)
  cases hF.symm.trans e2
  have hx : x.isRef = true := by
    rcases ref_cases hy with rfl | ⟨a, rfl⟩
    · exact k2.2
    · exact k2.2
  exact e1.trans (congrArg some (gotT (eq_R e1 hF hx hy) h))
theorem pl_0 : plainFor x = true := plainFor_of_name (by first | (simp [plainName, overriddenIn]; done) | decide +kernel)
theorem d1_0 : decode method_4_code 0 = .ok (.iload_n 0, 1) := by decide +kernel
theorem d1_1 : decode method_4_code 1 = .ok (.tableswitch 291 1 35 #[155, 159, 163, 167, 291, 171, 175, 179, 183, 187, 191, 195, 199, 203, 207, 211, 215, 219, 223, 227, 231, 235, 239, 243, 247, 251, 255, 259, 263, 267, 271, 275, 279, 283, 287], 155) := by decide +kernel
theorem d1_156 : decode method_4_code 156 = .ok (.getstatic 24, 3) := by decide +kernel
theorem d1_159 : decode method_4_code 159 = .ok (.areturn, 1) := by decide +kernel
theorem d1_160 : decode method_4_code 160 = .ok (.getstatic 28, 3) := by decide +kernel
theorem d1_163 : decode method_4_code 163 = .ok (.areturn, 1) := by decide +kernel
theorem d1_164 : decode method_4_code 164 = .ok (.getstatic 31, 3) := by decide +kernel
theorem d1_167 : decode method_4_code 167 = .ok (.areturn, 1) := by decide +kernel
theorem d1_168 : decode method_4_code 168 = .ok (.getstatic 34, 3) := by decide +kernel
theorem d1_171 : decode method_4_code 171 = .ok (.areturn, 1) := by decide +kernel
theorem d1_172 : decode method_4_code 172 = .ok (.getstatic 37, 3) := by decide +kernel
theorem d1_175 : decode method_4_code 175 = .ok (.areturn, 1) := by decide +kernel
theorem d1_176 : decode method_4_code 176 = .ok (.getstatic 40, 3) := by decide +kernel
theorem d1_179 : decode method_4_code 179 = .ok (.areturn, 1) := by decide +kernel
theorem d1_180 : decode method_4_code 180 = .ok (.getstatic 43, 3) := by decide +kernel
theorem d1_183 : decode method_4_code 183 = .ok (.areturn, 1) := by decide +kernel
theorem d1_184 : decode method_4_code 184 = .ok (.getstatic 46, 3) := by decide +kernel
theorem d1_187 : decode method_4_code 187 = .ok (.areturn, 1) := by decide +kernel
theorem d1_188 : decode method_4_code 188 = .ok (.getstatic 49, 3) := by decide +kernel
theorem d1_191 : decode method_4_code 191 = .ok (.areturn, 1) := by decide +kernel
theorem d1_192 : decode method_4_code 192 = .ok (.getstatic 52, 3) := by decide +kernel
theorem d1_195 : decode method_4_code 195 = .ok (.areturn, 1) := by decide +kernel
theorem d1_196 : decode method_4_code 196 = .ok (.getstatic 55, 3) := by decide +kernel
theorem d1_199 : decode method_4_code 199 = .ok (.areturn, 1) := by decide +kernel
theorem d1_200 : decode method_4_code 200 = .ok (.getstatic 58, 3) := by decide +kernel
theorem d1_203 : decode method_4_code 203 = .ok (.areturn, 1) := by decide +kernel
theorem d1_204 : decode method_4_code 204 = .ok (.getstatic 61, 3) := by decide +kernel
theorem d1_207 : decode method_4_code 207 = .ok (.areturn, 1) := by decide +kernel
theorem d1_208 : decode method_4_code 208 = .ok (.getstatic 64, 3) := by decide +kernel
theorem d1_211 : decode method_4_code 211 = .ok (.areturn, 1) := by decide +kernel
theorem d1_212 : decode method_4_code 212 = .ok (.getstatic 67, 3) := by decide +kernel
theorem d1_215 : decode method_4_code 215 = .ok (.areturn, 1) := by decide +kernel
theorem d1_216 : decode method_4_code 216 = .ok (.getstatic 70, 3) := by decide +kernel
theorem d1_219 : decode method_4_code 219 = .ok (.areturn, 1) := by decide +kernel
theorem d1_220 : decode method_4_code 220 = .ok (.getstatic 73, 3) := by decide +kernel
theorem d1_223 : decode method_4_code 223 = .ok (.areturn, 1) := by decide +kernel
theorem d1_224 : decode method_4_code 224 = .ok (.getstatic 76, 3) := by decide +kernel
theorem d1_227 : decode method_4_code 227 = .ok (.areturn, 1) := by decide +kernel
theorem d1_228 : decode method_4_code 228 = .ok (.getstatic 79, 3) := by decide +kernel
theorem d1_231 : decode method_4_code 231 = .ok (.areturn, 1) := by decide +kernel
theorem d1_232 : decode method_4_code 232 = .ok (.getstatic 82, 3) := by decide +kernel
theorem d1_235 : decode method_4_code 235 = .ok (.areturn, 1) := by decide +kernel
theorem d1_236 : decode method_4_code 236 = .ok (.getstatic 85, 3) := by decide +kernel
theorem d1_239 : decode method_4_code 239 = .ok (.areturn, 1) := by decide +kernel
theorem d1_240 : decode method_4_code 240 = .ok (.getstatic 88, 3) := by decide +kernel
theorem d1_243 : decode method_4_code 243 = .ok (.areturn, 1) := by decide +kernel
theorem d1_244 : decode method_4_code 244 = .ok (.getstatic 91, 3) := by decide +kernel
theorem d1_247 : decode method_4_code 247 = .ok (.areturn, 1) := by decide +kernel
theorem d1_248 : decode method_4_code 248 = .ok (.getstatic 94, 3) := by decide +kernel
theorem d1_251 : decode method_4_code 251 = .ok (.areturn, 1) := by decide +kernel
theorem d1_252 : decode method_4_code 252 = .ok (.getstatic 97, 3) := by decide +kernel
theorem d1_255 : decode method_4_code 255 = .ok (.areturn, 1) := by decide +kernel
theorem d1_256 : decode method_4_code 256 = .ok (.getstatic 100, 3) := by decide +kernel
theorem d1_259 : decode method_4_code 259 = .ok (.areturn, 1) := by decide +kernel
theorem d1_260 : decode method_4_code 260 = .ok (.getstatic 103, 3) := by decide +kernel
theorem d1_263 : decode method_4_code 263 = .ok (.areturn, 1) := by decide +kernel
theorem d1_264 : decode method_4_code 264 = .ok (.getstatic 106, 3) := by decide +kernel
theorem d1_267 : decode method_4_code 267 = .ok (.areturn, 1) := by decide +kernel
theorem d1_268 : decode method_4_code 268 = .ok (.getstatic 109, 3) := by decide +kernel
theorem d1_271 : decode method_4_code 271 = .ok (.areturn, 1) := by decide +kernel
theorem d1_272 : decode method_4_code 272 = .ok (.getstatic 112, 3) := by decide +kernel
theorem d1_275 : decode method_4_code 275 = .ok (.areturn, 1) := by decide +kernel
theorem d1_276 : decode method_4_code 276 = .ok (.getstatic 115, 3) := by decide +kernel
theorem d1_279 : decode method_4_code 279 = .ok (.areturn, 1) := by decide +kernel
theorem d1_280 : decode method_4_code 280 = .ok (.getstatic 118, 3) := by decide +kernel
theorem d1_283 : decode method_4_code 283 = .ok (.areturn, 1) := by decide +kernel
theorem d1_284 : decode method_4_code 284 = .ok (.getstatic 121, 3) := by decide +kernel
theorem d1_287 : decode method_4_code 287 = .ok (.areturn, 1) := by decide +kernel
theorem d1_288 : decode method_4_code 288 = .ok (.getstatic 124, 3) := by decide +kernel
theorem d1_291 : decode method_4_code 291 = .ok (.areturn, 1) := by decide +kernel
theorem d1_292 : decode method_4_code 292 = .ok (.getstatic 127, 3) := by decide +kernel
theorem d1_295 : decode method_4_code 295 = .ok (.areturn, 1) := by decide +kernel
theorem pl_1 : plainFor (⟨"com/example/ajenda/ajenda/port4730/PacketTypeIsResponsePinLaw", "pick", "(I)Lcom/example/ajenda/ajenda/port4730/PacketType;"⟩ : MethodName) = true := plainFor_of_name (by first | (simp [plainName, overriddenIn]; done) | decide +kernel)
theorem d2_0 : decode prog_19_method_9_code 0 = .ok (.aload_n 0, 1) := by decide +kernel
theorem d2_1 : decode prog_19_method_9_code 1 = .ok (.getfield 132, 3) := by decide +kernel
theorem d2_4 : decode prog_19_method_9_code 4 = .ok (.getstatic 168, 3) := by decide +kernel
theorem d2_7 : decode prog_19_method_9_code 7 = .ok (.if_acmp .eq 7, 3) := by decide +kernel
theorem d2_10 : decode prog_19_method_9_code 10 = .ok (.iconst 1, 1) := by decide +kernel
theorem d2_11 : decode prog_19_method_9_code 11 = .ok (.goto 4, 3) := by decide +kernel
theorem d2_14 : decode prog_19_method_9_code 14 = .ok (.iconst 0, 1) := by decide +kernel
theorem d2_15 : decode prog_19_method_9_code 15 = .ok (.ireturn, 1) := by decide +kernel
theorem pl_2 : plainFor (⟨"com/example/ajenda/ajenda/port4730/PacketType", "isResponse", "()Z"⟩ : MethodName) = true := plainFor_of_name (by first | (simp [plainName, overriddenIn]; done) | decide +kernel)
theorem d3_0 : decode method_3_code 0 = .ok (.iload_n 0, 1) := by decide +kernel
theorem d3_1 : decode method_3_code 1 = .ok (.bipush 6, 2) := by decide +kernel
theorem d3_3 : decode method_3_code 3 = .ok (.if_icmp .eq 21, 3) := by decide +kernel
theorem d3_6 : decode method_3_code 6 = .ok (.iload_n 0, 1) := by decide +kernel
theorem d3_7 : decode method_3_code 7 = .ok (.bipush 8, 2) := by decide +kernel
theorem d3_9 : decode method_3_code 9 = .ok (.if_icmp .eq 15, 3) := by decide +kernel
theorem d3_12 : decode method_3_code 12 = .ok (.iload_n 0, 1) := by decide +kernel
theorem d3_13 : decode method_3_code 13 = .ok (.bipush 10, 2) := by decide +kernel
theorem d3_15 : decode method_3_code 15 = .ok (.if_icmp .eq 9, 3) := by decide +kernel
theorem d3_18 : decode method_3_code 18 = .ok (.iload_n 0, 1) := by decide +kernel
theorem d3_19 : decode method_3_code 19 = .ok (.bipush 11, 2) := by decide +kernel
theorem d3_21 : decode method_3_code 21 = .ok (.if_icmp .ne 5, 3) := by decide +kernel
theorem d3_24 : decode method_3_code 24 = .ok (.iconst 1, 1) := by decide +kernel
theorem d3_25 : decode method_3_code 25 = .ok (.ireturn, 1) := by decide +kernel
theorem d3_26 : decode method_3_code 26 = .ok (.iload_n 0, 1) := by decide +kernel
theorem d3_27 : decode method_3_code 27 = .ok (.bipush 12, 2) := by decide +kernel
theorem d3_29 : decode method_3_code 29 = .ok (.if_icmp .lt 11, 3) := by decide +kernel
theorem d3_32 : decode method_3_code 32 = .ok (.iload_n 0, 1) := by decide +kernel
theorem d3_33 : decode method_3_code 33 = .ok (.bipush 14, 2) := by decide +kernel
theorem d3_35 : decode method_3_code 35 = .ok (.if_icmp .gt 5, 3) := by decide +kernel
theorem d3_38 : decode method_3_code 38 = .ok (.iconst 1, 1) := by decide +kernel
theorem d3_39 : decode method_3_code 39 = .ok (.ireturn, 1) := by decide +kernel
theorem d3_40 : decode method_3_code 40 = .ok (.iload_n 0, 1) := by decide +kernel
theorem d3_41 : decode method_3_code 41 = .ok (.bipush 17, 2) := by decide +kernel
theorem d3_43 : decode method_3_code 43 = .ok (.if_icmp .eq 21, 3) := by decide +kernel
theorem d3_46 : decode method_3_code 46 = .ok (.iload_n 0, 1) := by decide +kernel
theorem d3_47 : decode method_3_code 47 = .ok (.bipush 19, 2) := by decide +kernel
theorem d3_49 : decode method_3_code 49 = .ok (.if_icmp .eq 15, 3) := by decide +kernel
theorem d3_52 : decode method_3_code 52 = .ok (.iload_n 0, 1) := by decide +kernel
theorem d3_53 : decode method_3_code 53 = .ok (.bipush 20, 2) := by decide +kernel
theorem d3_55 : decode method_3_code 55 = .ok (.if_icmp .eq 9, 3) := by decide +kernel
theorem d3_58 : decode method_3_code 58 = .ok (.iload_n 0, 1) := by decide +kernel
theorem d3_59 : decode method_3_code 59 = .ok (.bipush 25, 2) := by decide +kernel
theorem d3_61 : decode method_3_code 61 = .ok (.if_icmp .ne 5, 3) := by decide +kernel
theorem d3_64 : decode method_3_code 64 = .ok (.iconst 1, 1) := by decide +kernel
theorem d3_65 : decode method_3_code 65 = .ok (.ireturn, 1) := by decide +kernel
theorem d3_66 : decode method_3_code 66 = .ok (.iload_n 0, 1) := by decide +kernel
theorem d3_67 : decode method_3_code 67 = .ok (.bipush 27, 2) := by decide +kernel
theorem d3_69 : decode method_3_code 69 = .ok (.if_icmp .lt 11, 3) := by decide +kernel
theorem d3_72 : decode method_3_code 72 = .ok (.iload_n 0, 1) := by decide +kernel
theorem d3_73 : decode method_3_code 73 = .ok (.bipush 29, 2) := by decide +kernel
theorem d3_75 : decode method_3_code 75 = .ok (.if_icmp .gt 5, 3) := by decide +kernel
theorem d3_78 : decode method_3_code 78 = .ok (.iconst 1, 1) := by decide +kernel
theorem d3_79 : decode method_3_code 79 = .ok (.ireturn, 1) := by decide +kernel
theorem d3_80 : decode method_3_code 80 = .ok (.iload_n 0, 1) := by decide +kernel
theorem d3_81 : decode method_3_code 81 = .ok (.bipush 31, 2) := by decide +kernel
theorem d3_83 : decode method_3_code 83 = .ok (.if_icmp .ne 7, 3) := by decide +kernel
theorem d3_86 : decode method_3_code 86 = .ok (.iconst 1, 1) := by decide +kernel
theorem d3_87 : decode method_3_code 87 = .ok (.goto 4, 3) := by decide +kernel
theorem d3_90 : decode method_3_code 90 = .ok (.iconst 0, 1) := by decide +kernel
theorem d3_91 : decode method_3_code 91 = .ok (.ireturn, 1) := by decide +kernel
theorem pl_3 : plainFor (⟨"com/example/ajenda/ajenda/port4730/PacketTypeIsResponsePinLaw", "serverMaySend", "(I)Z"⟩ : MethodName) = true := plainFor_of_name (by first | (simp [plainName, overriddenIn]; done) | decide +kernel)
theorem pd_0 : parseMethodDescriptor "(I)Lcom/example/ajenda/ajenda/port4730/PacketType;" = some ⟨[.int], some (.object "com/example/ajenda/ajenda/port4730/PacketType")⟩ := by decide +kernel
theorem pd_1 : parseMethodDescriptor "()Z" = some ⟨[], some .boolean⟩ := by decide +kernel
theorem pd_2 : parseMethodDescriptor "(I)Z" = some ⟨[.int], some .boolean⟩ := by decide +kernel
theorem own_mod (x n : Int32) (hn : 0 < n.toInt) : 0 ≤ ((x &&& (2147483647 : Int32)) % n).toInt ∧ ((x &&& (2147483647 : Int32)) % n).toInt < n.toInt := by
  have h := (c_and x 2147483647 (by decide)).1
  have q := (c_iremV (x &&& 2147483647) n).1 h hn
  exact ⟨q.1, q.2.1⟩
theorem own_cases35 (k : Int32) (h : 0 ≤ k.toInt ∧ k.toInt < (35 : Int32).toInt) : k = (0 : Int32) ∨ k = (1 : Int32) ∨ k = (2 : Int32) ∨ k = (3 : Int32) ∨ k = (4 : Int32) ∨ k = (5 : Int32) ∨ k = (6 : Int32) ∨ k = (7 : Int32) ∨ k = (8 : Int32) ∨ k = (9 : Int32) ∨ k = (10 : Int32) ∨ k = (11 : Int32) ∨ k = (12 : Int32) ∨ k = (13 : Int32) ∨ k = (14 : Int32) ∨ k = (15 : Int32) ∨ k = (16 : Int32) ∨ k = (17 : Int32) ∨ k = (18 : Int32) ∨ k = (19 : Int32) ∨ k = (20 : Int32) ∨ k = (21 : Int32) ∨ k = (22 : Int32) ∨ k = (23 : Int32) ∨ k = (24 : Int32) ∨ k = (25 : Int32) ∨ k = (26 : Int32) ∨ k = (27 : Int32) ∨ k = (28 : Int32) ∨ k = (29 : Int32) ∨ k = (30 : Int32) ∨ k = (31 : Int32) ∨ k = (32 : Int32) ∨ k = (33 : Int32) ∨ k = (34 : Int32) := by
  have e : (35 : Int32).toInt = 35 := by decide
  have q : k.toInt = 0 ∨ k.toInt = 1 ∨ k.toInt = 2 ∨ k.toInt = 3 ∨ k.toInt = 4 ∨ k.toInt = 5 ∨ k.toInt = 6 ∨ k.toInt = 7 ∨ k.toInt = 8 ∨ k.toInt = 9 ∨ k.toInt = 10 ∨ k.toInt = 11 ∨ k.toInt = 12 ∨ k.toInt = 13 ∨ k.toInt = 14 ∨ k.toInt = 15 ∨ k.toInt = 16 ∨ k.toInt = 17 ∨ k.toInt = 18 ∨ k.toInt = 19 ∨ k.toInt = 20 ∨ k.toInt = 21 ∨ k.toInt = 22 ∨ k.toInt = 23 ∨ k.toInt = 24 ∨ k.toInt = 25 ∨ k.toInt = 26 ∨ k.toInt = 27 ∨ k.toInt = 28 ∨ k.toInt = 29 ∨ k.toInt = 30 ∨ k.toInt = 31 ∨ k.toInt = 32 ∨ k.toInt = 33 ∨ k.toInt = 34 := by omega
  rcases q with q | q | q | q | q | q | q | q | q | q | q | q | q | q | q | q | q | q | q | q | q | q | q | q | q | q | q | q | q | q | q | q | q | q | q
  · exact Or.inl (Int32.toInt_inj.mp (q.trans (by decide)))
  · exact Or.inr (Or.inl (Int32.toInt_inj.mp (q.trans (by decide))))
  · exact Or.inr (Or.inr (Or.inl (Int32.toInt_inj.mp (q.trans (by decide)))))
  · exact Or.inr (Or.inr (Or.inr (Or.inl (Int32.toInt_inj.mp (q.trans (by decide))))))
  · exact Or.inr (Or.inr (Or.inr (Or.inr (Or.inl (Int32.toInt_inj.mp (q.trans (by decide)))))))
  · exact Or.inr (Or.inr (Or.inr (Or.inr (Or.inr (Or.inl (Int32.toInt_inj.mp (q.trans (by decide))))))))
  · exact Or.inr (Or.inr (Or.inr (Or.inr (Or.inr (Or.inr (Or.inl (Int32.toInt_inj.mp (q.trans (by decide)))))))))
  · exact Or.inr (Or.inr (Or.inr (Or.inr (Or.inr (Or.inr (Or.inr (Or.inl (Int32.toInt_inj.mp (q.trans (by decide))))))))))
  · exact Or.inr (Or.inr (Or.inr (Or.inr (Or.inr (Or.inr (Or.inr (Or.inr (Or.inl (Int32.toInt_inj.mp (q.trans (by decide)))))))))))
  · exact Or.inr (Or.inr (Or.inr (Or.inr (Or.inr (Or.inr (Or.inr (Or.inr (Or.inr (Or.inl (Int32.toInt_inj.mp (q.trans (by decide))))))))))))
  · exact Or.inr (Or.inr (Or.inr (Or.inr (Or.inr (Or.inr (Or.inr (Or.inr (Or.inr (Or.inr (Or.inl (Int32.toInt_inj.mp (q.trans (by decide)))))))))))))
  · exact Or.inr (Or.inr (Or.inr (Or.inr (Or.inr (Or.inr (Or.inr (Or.inr (Or.inr (Or.inr (Or.inr (Or.inl (Int32.toInt_inj.mp (q.trans (by decide))))))))))))))
  · exact Or.inr (Or.inr (Or.inr (Or.inr (Or.inr (Or.inr (Or.inr (Or.inr (Or.inr (Or.inr (Or.inr (Or.inr (Or.inl (Int32.toInt_inj.mp (q.trans (by decide)))))))))))))))
  · exact Or.inr (Or.inr (Or.inr (Or.inr (Or.inr (Or.inr (Or.inr (Or.inr (Or.inr (Or.inr (Or.inr (Or.inr (Or.inr (Or.inl (Int32.toInt_inj.mp (q.trans (by decide))))))))))))))))
  · exact Or.inr (Or.inr (Or.inr (Or.inr (Or.inr (Or.inr (Or.inr (Or.inr (Or.inr (Or.inr (Or.inr (Or.inr (Or.inr (Or.inr (Or.inl (Int32.toInt_inj.mp (q.trans (by decide)))))))))))))))))
  · exact Or.inr (Or.inr (Or.inr (Or.inr (Or.inr (Or.inr (Or.inr (Or.inr (Or.inr (Or.inr (Or.inr (Or.inr (Or.inr (Or.inr (Or.inr (Or.inl (Int32.toInt_inj.mp (q.trans (by decide))))))))))))))))))
  · exact Or.inr (Or.inr (Or.inr (Or.inr (Or.inr (Or.inr (Or.inr (Or.inr (Or.inr (Or.inr (Or.inr (Or.inr (Or.inr (Or.inr (Or.inr (Or.inr (Or.inl (Int32.toInt_inj.mp (q.trans (by decide)))))))))))))))))))
  · exact Or.inr (Or.inr (Or.inr (Or.inr (Or.inr (Or.inr (Or.inr (Or.inr (Or.inr (Or.inr (Or.inr (Or.inr (Or.inr (Or.inr (Or.inr (Or.inr (Or.inr (Or.inl (Int32.toInt_inj.mp (q.trans (by decide))))))))))))))))))))
  · exact Or.inr (Or.inr (Or.inr (Or.inr (Or.inr (Or.inr (Or.inr (Or.inr (Or.inr (Or.inr (Or.inr (Or.inr (Or.inr (Or.inr (Or.inr (Or.inr (Or.inr (Or.inr (Or.inl (Int32.toInt_inj.mp (q.trans (by decide)))))))))))))))))))))
  · exact Or.inr (Or.inr (Or.inr (Or.inr (Or.inr (Or.inr (Or.inr (Or.inr (Or.inr (Or.inr (Or.inr (Or.inr (Or.inr (Or.inr (Or.inr (Or.inr (Or.inr (Or.inr (Or.inr (Or.inl (Int32.toInt_inj.mp (q.trans (by decide))))))))))))))))))))))
  · exact Or.inr (Or.inr (Or.inr (Or.inr (Or.inr (Or.inr (Or.inr (Or.inr (Or.inr (Or.inr (Or.inr (Or.inr (Or.inr (Or.inr (Or.inr (Or.inr (Or.inr (Or.inr (Or.inr (Or.inr (Or.inl (Int32.toInt_inj.mp (q.trans (by decide)))))))))))))))))))))))
  · exact Or.inr (Or.inr (Or.inr (Or.inr (Or.inr (Or.inr (Or.inr (Or.inr (Or.inr (Or.inr (Or.inr (Or.inr (Or.inr (Or.inr (Or.inr (Or.inr (Or.inr (Or.inr (Or.inr (Or.inr (Or.inr (Or.inl (Int32.toInt_inj.mp (q.trans (by decide))))))))))))))))))))))))
  · exact Or.inr (Or.inr (Or.inr (Or.inr (Or.inr (Or.inr (Or.inr (Or.inr (Or.inr (Or.inr (Or.inr (Or.inr (Or.inr (Or.inr (Or.inr (Or.inr (Or.inr (Or.inr (Or.inr (Or.inr (Or.inr (Or.inr (Or.inl (Int32.toInt_inj.mp (q.trans (by decide)))))))))))))))))))))))))
  · exact Or.inr (Or.inr (Or.inr (Or.inr (Or.inr (Or.inr (Or.inr (Or.inr (Or.inr (Or.inr (Or.inr (Or.inr (Or.inr (Or.inr (Or.inr (Or.inr (Or.inr (Or.inr (Or.inr (Or.inr (Or.inr (Or.inr (Or.inr (Or.inl (Int32.toInt_inj.mp (q.trans (by decide))))))))))))))))))))))))))
  · exact Or.inr (Or.inr (Or.inr (Or.inr (Or.inr (Or.inr (Or.inr (Or.inr (Or.inr (Or.inr (Or.inr (Or.inr (Or.inr (Or.inr (Or.inr (Or.inr (Or.inr (Or.inr (Or.inr (Or.inr (Or.inr (Or.inr (Or.inr (Or.inr (Or.inl (Int32.toInt_inj.mp (q.trans (by decide)))))))))))))))))))))))))))
  · exact Or.inr (Or.inr (Or.inr (Or.inr (Or.inr (Or.inr (Or.inr (Or.inr (Or.inr (Or.inr (Or.inr (Or.inr (Or.inr (Or.inr (Or.inr (Or.inr (Or.inr (Or.inr (Or.inr (Or.inr (Or.inr (Or.inr (Or.inr (Or.inr (Or.inr (Or.inl (Int32.toInt_inj.mp (q.trans (by decide))))))))))))))))))))))))))))
  · exact Or.inr (Or.inr (Or.inr (Or.inr (Or.inr (Or.inr (Or.inr (Or.inr (Or.inr (Or.inr (Or.inr (Or.inr (Or.inr (Or.inr (Or.inr (Or.inr (Or.inr (Or.inr (Or.inr (Or.inr (Or.inr (Or.inr (Or.inr (Or.inr (Or.inr (Or.inr (Or.inl (Int32.toInt_inj.mp (q.trans (by decide)))))))))))))))))))))))))))))
  · exact Or.inr (Or.inr (Or.inr (Or.inr (Or.inr (Or.inr (Or.inr (Or.inr (Or.inr (Or.inr (Or.inr (Or.inr (Or.inr (Or.inr (Or.inr (Or.inr (Or.inr (Or.inr (Or.inr (Or.inr (Or.inr (Or.inr (Or.inr (Or.inr (Or.inr (Or.inr (Or.inr (Or.inl (Int32.toInt_inj.mp (q.trans (by decide))))))))))))))))))))))))))))))
  · exact Or.inr (Or.inr (Or.inr (Or.inr (Or.inr (Or.inr (Or.inr (Or.inr (Or.inr (Or.inr (Or.inr (Or.inr (Or.inr (Or.inr (Or.inr (Or.inr (Or.inr (Or.inr (Or.inr (Or.inr (Or.inr (Or.inr (Or.inr (Or.inr (Or.inr (Or.inr (Or.inr (Or.inr (Or.inl (Int32.toInt_inj.mp (q.trans (by decide)))))))))))))))))))))))))))))))
  · exact Or.inr (Or.inr (Or.inr (Or.inr (Or.inr (Or.inr (Or.inr (Or.inr (Or.inr (Or.inr (Or.inr (Or.inr (Or.inr (Or.inr (Or.inr (Or.inr (Or.inr (Or.inr (Or.inr (Or.inr (Or.inr (Or.inr (Or.inr (Or.inr (Or.inr (Or.inr (Or.inr (Or.inr (Or.inr (Or.inl (Int32.toInt_inj.mp (q.trans (by decide))))))))))))))))))))))))))))))))
  · exact Or.inr (Or.inr (Or.inr (Or.inr (Or.inr (Or.inr (Or.inr (Or.inr (Or.inr (Or.inr (Or.inr (Or.inr (Or.inr (Or.inr (Or.inr (Or.inr (Or.inr (Or.inr (Or.inr (Or.inr (Or.inr (Or.inr (Or.inr (Or.inr (Or.inr (Or.inr (Or.inr (Or.inr (Or.inr (Or.inr (Or.inl (Int32.toInt_inj.mp (q.trans (by decide)))))))))))))))))))))))))))))))))
  · exact Or.inr (Or.inr (Or.inr (Or.inr (Or.inr (Or.inr (Or.inr (Or.inr (Or.inr (Or.inr (Or.inr (Or.inr (Or.inr (Or.inr (Or.inr (Or.inr (Or.inr (Or.inr (Or.inr (Or.inr (Or.inr (Or.inr (Or.inr (Or.inr (Or.inr (Or.inr (Or.inr (Or.inr (Or.inr (Or.inr (Or.inr (Or.inl (Int32.toInt_inj.mp (q.trans (by decide))))))))))))))))))))))))))))))))))
  · exact Or.inr (Or.inr (Or.inr (Or.inr (Or.inr (Or.inr (Or.inr (Or.inr (Or.inr (Or.inr (Or.inr (Or.inr (Or.inr (Or.inr (Or.inr (Or.inr (Or.inr (Or.inr (Or.inr (Or.inr (Or.inr (Or.inr (Or.inr (Or.inr (Or.inr (Or.inr (Or.inr (Or.inr (Or.inr (Or.inr (Or.inr (Or.inr (Or.inl (Int32.toInt_inj.mp (q.trans (by decide)))))))))))))))))))))))))))))))))))
  · exact Or.inr (Or.inr (Or.inr (Or.inr (Or.inr (Or.inr (Or.inr (Or.inr (Or.inr (Or.inr (Or.inr (Or.inr (Or.inr (Or.inr (Or.inr (Or.inr (Or.inr (Or.inr (Or.inr (Or.inr (Or.inr (Or.inr (Or.inr (Or.inr (Or.inr (Or.inr (Or.inr (Or.inr (Or.inr (Or.inr (Or.inr (Or.inr (Or.inr (Or.inl (Int32.toInt_inj.mp (q.trans (by decide))))))))))))))))))))))))))))))))))))
  · exact Or.inr (Or.inr (Or.inr (Or.inr (Or.inr (Or.inr (Or.inr (Or.inr (Or.inr (Or.inr (Or.inr (Or.inr (Or.inr (Or.inr (Or.inr (Or.inr (Or.inr (Or.inr (Or.inr (Or.inr (Or.inr (Or.inr (Or.inr (Or.inr (Or.inr (Or.inr (Or.inr (Or.inr (Or.inr (Or.inr (Or.inr (Or.inr (Or.inr (Or.inr ((Int32.toInt_inj.mp (q.trans (by decide)))))))))))))))))))))))))))))))))))))
def own_ok (n : Int32) : Prop := n = (1 : Int32) ∨ n = (2 : Int32) ∨ n = (3 : Int32) ∨ n = (4 : Int32) ∨ n = (6 : Int32) ∨ n = (7 : Int32) ∨ n = (8 : Int32) ∨ n = (9 : Int32) ∨ n = (10 : Int32) ∨ n = (11 : Int32) ∨ n = (12 : Int32) ∨ n = (13 : Int32) ∨ n = (14 : Int32) ∨ n = (15 : Int32) ∨ n = (16 : Int32) ∨ n = (17 : Int32) ∨ n = (18 : Int32) ∨ n = (19 : Int32) ∨ n = (20 : Int32) ∨ n = (21 : Int32) ∨ n = (22 : Int32) ∨ n = (23 : Int32) ∨ n = (24 : Int32) ∨ n = (25 : Int32) ∨ n = (26 : Int32) ∨ n = (27 : Int32) ∨ n = (28 : Int32) ∨ n = (29 : Int32) ∨ n = (30 : Int32) ∨ n = (31 : Int32) ∨ n = (32 : Int32) ∨ n = (33 : Int32) ∨ n = (34 : Int32) ∨ n = (35 : Int32) ∨ n = (36 : Int32)
theorem own_n (k : Int32) (h : k = (0 : Int32) ∨ k = (1 : Int32) ∨ k = (2 : Int32) ∨ k = (3 : Int32) ∨ k = (4 : Int32) ∨ k = (5 : Int32) ∨ k = (6 : Int32) ∨ k = (7 : Int32) ∨ k = (8 : Int32) ∨ k = (9 : Int32) ∨ k = (10 : Int32) ∨ k = (11 : Int32) ∨ k = (12 : Int32) ∨ k = (13 : Int32) ∨ k = (14 : Int32) ∨ k = (15 : Int32) ∨ k = (16 : Int32) ∨ k = (17 : Int32) ∨ k = (18 : Int32) ∨ k = (19 : Int32) ∨ k = (20 : Int32) ∨ k = (21 : Int32) ∨ k = (22 : Int32) ∨ k = (23 : Int32) ∨ k = (24 : Int32) ∨ k = (25 : Int32) ∨ k = (26 : Int32) ∨ k = (27 : Int32) ∨ k = (28 : Int32) ∨ k = (29 : Int32) ∨ k = (30 : Int32) ∨ k = (31 : Int32) ∨ k = (32 : Int32) ∨ k = (33 : Int32) ∨ k = (34 : Int32)) : (k < (4 : Int32) → own_ok (k + (1 : Int32))) ∧ (¬ k < (4 : Int32) → own_ok (k + (2 : Int32))) := by
  unfold own_ok
  rcases h with rfl | rfl | rfl | rfl | rfl | rfl | rfl | rfl | rfl | rfl | rfl | rfl | rfl | rfl | rfl | rfl | rfl | rfl | rfl | rfl | rfl | rfl | rfl | rfl | rfl | rfl | rfl | rfl | rfl | rfl | rfl | rfl | rfl | rfl | rfl
  · exact ⟨fun _ => Or.inl (by decide), fun h => absurd (by decide) h⟩
  · exact ⟨fun _ => Or.inr (Or.inl (by decide)), fun h => absurd (by decide) h⟩
  · exact ⟨fun _ => Or.inr (Or.inr (Or.inl (by decide))), fun h => absurd (by decide) h⟩
  · exact ⟨fun _ => Or.inr (Or.inr (Or.inr (Or.inl (by decide)))), fun h => absurd (by decide) h⟩
  · exact ⟨fun h => absurd h (by decide), fun _ => Or.inr (Or.inr (Or.inr (Or.inr (Or.inl (by decide)))))⟩
  · exact ⟨fun h => absurd h (by decide), fun _ => Or.inr (Or.inr (Or.inr (Or.inr (Or.inr (Or.inl (by decide))))))⟩
  · exact ⟨fun h => absurd h (by decide), fun _ => Or.inr (Or.inr (Or.inr (Or.inr (Or.inr (Or.inr (Or.inl (by decide)))))))⟩
  · exact ⟨fun h => absurd h (by decide), fun _ => Or.inr (Or.inr (Or.inr (Or.inr (Or.inr (Or.inr (Or.inr (Or.inl (by decide))))))))⟩
  · exact ⟨fun h => absurd h (by decide), fun _ => Or.inr (Or.inr (Or.inr (Or.inr (Or.inr (Or.inr (Or.inr (Or.inr (Or.inl (by decide)))))))))⟩
  · exact ⟨fun h => absurd h (by decide), fun _ => Or.inr (Or.inr (Or.inr (Or.inr (Or.inr (Or.inr (Or.inr (Or.inr (Or.inr (Or.inl (by decide))))))))))⟩
  · exact ⟨fun h => absurd h (by decide), fun _ => Or.inr (Or.inr (Or.inr (Or.inr (Or.inr (Or.inr (Or.inr (Or.inr (Or.inr (Or.inr (Or.inl (by decide)))))))))))⟩
  · exact ⟨fun h => absurd h (by decide), fun _ => Or.inr (Or.inr (Or.inr (Or.inr (Or.inr (Or.inr (Or.inr (Or.inr (Or.inr (Or.inr (Or.inr (Or.inl (by decide))))))))))))⟩
  · exact ⟨fun h => absurd h (by decide), fun _ => Or.inr (Or.inr (Or.inr (Or.inr (Or.inr (Or.inr (Or.inr (Or.inr (Or.inr (Or.inr (Or.inr (Or.inr (Or.inl (by decide)))))))))))))⟩
  · exact ⟨fun h => absurd h (by decide), fun _ => Or.inr (Or.inr (Or.inr (Or.inr (Or.inr (Or.inr (Or.inr (Or.inr (Or.inr (Or.inr (Or.inr (Or.inr (Or.inr (Or.inl (by decide))))))))))))))⟩
  · exact ⟨fun h => absurd h (by decide), fun _ => Or.inr (Or.inr (Or.inr (Or.inr (Or.inr (Or.inr (Or.inr (Or.inr (Or.inr (Or.inr (Or.inr (Or.inr (Or.inr (Or.inr (Or.inl (by decide)))))))))))))))⟩
  · exact ⟨fun h => absurd h (by decide), fun _ => Or.inr (Or.inr (Or.inr (Or.inr (Or.inr (Or.inr (Or.inr (Or.inr (Or.inr (Or.inr (Or.inr (Or.inr (Or.inr (Or.inr (Or.inr (Or.inl (by decide))))))))))))))))⟩
  · exact ⟨fun h => absurd h (by decide), fun _ => Or.inr (Or.inr (Or.inr (Or.inr (Or.inr (Or.inr (Or.inr (Or.inr (Or.inr (Or.inr (Or.inr (Or.inr (Or.inr (Or.inr (Or.inr (Or.inr (Or.inl (by decide)))))))))))))))))⟩
  · exact ⟨fun h => absurd h (by decide), fun _ => Or.inr (Or.inr (Or.inr (Or.inr (Or.inr (Or.inr (Or.inr (Or.inr (Or.inr (Or.inr (Or.inr (Or.inr (Or.inr (Or.inr (Or.inr (Or.inr (Or.inr (Or.inl (by decide))))))))))))))))))⟩
  · exact ⟨fun h => absurd h (by decide), fun _ => Or.inr (Or.inr (Or.inr (Or.inr (Or.inr (Or.inr (Or.inr (Or.inr (Or.inr (Or.inr (Or.inr (Or.inr (Or.inr (Or.inr (Or.inr (Or.inr (Or.inr (Or.inr (Or.inl (by decide)))))))))))))))))))⟩
  · exact ⟨fun h => absurd h (by decide), fun _ => Or.inr (Or.inr (Or.inr (Or.inr (Or.inr (Or.inr (Or.inr (Or.inr (Or.inr (Or.inr (Or.inr (Or.inr (Or.inr (Or.inr (Or.inr (Or.inr (Or.inr (Or.inr (Or.inr (Or.inl (by decide))))))))))))))))))))⟩
  · exact ⟨fun h => absurd h (by decide), fun _ => Or.inr (Or.inr (Or.inr (Or.inr (Or.inr (Or.inr (Or.inr (Or.inr (Or.inr (Or.inr (Or.inr (Or.inr (Or.inr (Or.inr (Or.inr (Or.inr (Or.inr (Or.inr (Or.inr (Or.inr (Or.inl (by decide)))))))))))))))))))))⟩
  · exact ⟨fun h => absurd h (by decide), fun _ => Or.inr (Or.inr (Or.inr (Or.inr (Or.inr (Or.inr (Or.inr (Or.inr (Or.inr (Or.inr (Or.inr (Or.inr (Or.inr (Or.inr (Or.inr (Or.inr (Or.inr (Or.inr (Or.inr (Or.inr (Or.inr (Or.inl (by decide))))))))))))))))))))))⟩
  · exact ⟨fun h => absurd h (by decide), fun _ => Or.inr (Or.inr (Or.inr (Or.inr (Or.inr (Or.inr (Or.inr (Or.inr (Or.inr (Or.inr (Or.inr (Or.inr (Or.inr (Or.inr (Or.inr (Or.inr (Or.inr (Or.inr (Or.inr (Or.inr (Or.inr (Or.inr (Or.inl (by decide)))))))))))))))))))))))⟩
  · exact ⟨fun h => absurd h (by decide), fun _ => Or.inr (Or.inr (Or.inr (Or.inr (Or.inr (Or.inr (Or.inr (Or.inr (Or.inr (Or.inr (Or.inr (Or.inr (Or.inr (Or.inr (Or.inr (Or.inr (Or.inr (Or.inr (Or.inr (Or.inr (Or.inr (Or.inr (Or.inr (Or.inl (by decide))))))))))))))))))))))))⟩
  · exact ⟨fun h => absurd h (by decide), fun _ => Or.inr (Or.inr (Or.inr (Or.inr (Or.inr (Or.inr (Or.inr (Or.inr (Or.inr (Or.inr (Or.inr (Or.inr (Or.inr (Or.inr (Or.inr (Or.inr (Or.inr (Or.inr (Or.inr (Or.inr (Or.inr (Or.inr (Or.inr (Or.inr (Or.inl (by decide)))))))))))))))))))))))))⟩
  · exact ⟨fun h => absurd h (by decide), fun _ => Or.inr (Or.inr (Or.inr (Or.inr (Or.inr (Or.inr (Or.inr (Or.inr (Or.inr (Or.inr (Or.inr (Or.inr (Or.inr (Or.inr (Or.inr (Or.inr (Or.inr (Or.inr (Or.inr (Or.inr (Or.inr (Or.inr (Or.inr (Or.inr (Or.inr (Or.inl (by decide))))))))))))))))))))))))))⟩
  · exact ⟨fun h => absurd h (by decide), fun _ => Or.inr (Or.inr (Or.inr (Or.inr (Or.inr (Or.inr (Or.inr (Or.inr (Or.inr (Or.inr (Or.inr (Or.inr (Or.inr (Or.inr (Or.inr (Or.inr (Or.inr (Or.inr (Or.inr (Or.inr (Or.inr (Or.inr (Or.inr (Or.inr (Or.inr (Or.inr (Or.inl (by decide)))))))))))))))))))))))))))⟩
  · exact ⟨fun h => absurd h (by decide), fun _ => Or.inr (Or.inr (Or.inr (Or.inr (Or.inr (Or.inr (Or.inr (Or.inr (Or.inr (Or.inr (Or.inr (Or.inr (Or.inr (Or.inr (Or.inr (Or.inr (Or.inr (Or.inr (Or.inr (Or.inr (Or.inr (Or.inr (Or.inr (Or.inr (Or.inr (Or.inr (Or.inr (Or.inl (by decide))))))))))))))))))))))))))))⟩
  · exact ⟨fun h => absurd h (by decide), fun _ => Or.inr (Or.inr (Or.inr (Or.inr (Or.inr (Or.inr (Or.inr (Or.inr (Or.inr (Or.inr (Or.inr (Or.inr (Or.inr (Or.inr (Or.inr (Or.inr (Or.inr (Or.inr (Or.inr (Or.inr (Or.inr (Or.inr (Or.inr (Or.inr (Or.inr (Or.inr (Or.inr (Or.inr (Or.inl (by decide)))))))))))))))))))))))))))))⟩
  · exact ⟨fun h => absurd h (by decide), fun _ => Or.inr (Or.inr (Or.inr (Or.inr (Or.inr (Or.inr (Or.inr (Or.inr (Or.inr (Or.inr (Or.inr (Or.inr (Or.inr (Or.inr (Or.inr (Or.inr (Or.inr (Or.inr (Or.inr (Or.inr (Or.inr (Or.inr (Or.inr (Or.inr (Or.inr (Or.inr (Or.inr (Or.inr (Or.inr (Or.inl (by decide))))))))))))))))))))))))))))))⟩
  · exact ⟨fun h => absurd h (by decide), fun _ => Or.inr (Or.inr (Or.inr (Or.inr (Or.inr (Or.inr (Or.inr (Or.inr (Or.inr (Or.inr (Or.inr (Or.inr (Or.inr (Or.inr (Or.inr (Or.inr (Or.inr (Or.inr (Or.inr (Or.inr (Or.inr (Or.inr (Or.inr (Or.inr (Or.inr (Or.inr (Or.inr (Or.inr (Or.inr (Or.inr (Or.inl (by decide)))))))))))))))))))))))))))))))⟩
  · exact ⟨fun h => absurd h (by decide), fun _ => Or.inr (Or.inr (Or.inr (Or.inr (Or.inr (Or.inr (Or.inr (Or.inr (Or.inr (Or.inr (Or.inr (Or.inr (Or.inr (Or.inr (Or.inr (Or.inr (Or.inr (Or.inr (Or.inr (Or.inr (Or.inr (Or.inr (Or.inr (Or.inr (Or.inr (Or.inr (Or.inr (Or.inr (Or.inr (Or.inr (Or.inr (Or.inl (by decide))))))))))))))))))))))))))))))))⟩
  · exact ⟨fun h => absurd h (by decide), fun _ => Or.inr (Or.inr (Or.inr (Or.inr (Or.inr (Or.inr (Or.inr (Or.inr (Or.inr (Or.inr (Or.inr (Or.inr (Or.inr (Or.inr (Or.inr (Or.inr (Or.inr (Or.inr (Or.inr (Or.inr (Or.inr (Or.inr (Or.inr (Or.inr (Or.inr (Or.inr (Or.inr (Or.inr (Or.inr (Or.inr (Or.inr (Or.inr (Or.inl (by decide)))))))))))))))))))))))))))))))))⟩
  · exact ⟨fun h => absurd h (by decide), fun _ => Or.inr (Or.inr (Or.inr (Or.inr (Or.inr (Or.inr (Or.inr (Or.inr (Or.inr (Or.inr (Or.inr (Or.inr (Or.inr (Or.inr (Or.inr (Or.inr (Or.inr (Or.inr (Or.inr (Or.inr (Or.inr (Or.inr (Or.inr (Or.inr (Or.inr (Or.inr (Or.inr (Or.inr (Or.inr (Or.inr (Or.inr (Or.inr (Or.inr (Or.inl (by decide))))))))))))))))))))))))))))))))))⟩
  · exact ⟨fun h => absurd h (by decide), fun _ => Or.inr (Or.inr (Or.inr (Or.inr (Or.inr (Or.inr (Or.inr (Or.inr (Or.inr (Or.inr (Or.inr (Or.inr (Or.inr (Or.inr (Or.inr (Or.inr (Or.inr (Or.inr (Or.inr (Or.inr (Or.inr (Or.inr (Or.inr (Or.inr (Or.inr (Or.inr (Or.inr (Or.inr (Or.inr (Or.inr (Or.inr (Or.inr (Or.inr (Or.inr ((by decide)))))))))))))))))))))))))))))))))))⟩
def own_sms (n : Int32) : Int32 := if n = (6 : Int32) ∨ n = (8 : Int32) ∨ n = (10 : Int32) ∨ n = (11 : Int32) ∨ (¬ n < (12 : Int32) ∧ ¬ (14 : Int32) < n) ∨ n = (17 : Int32) ∨ n = (19 : Int32) ∨ n = (20 : Int32) ∨ n = (25 : Int32) ∨ (¬ n < (27 : Int32) ∧ ¬ (29 : Int32) < n) ∨ n = (31 : Int32) then (1 : Int32) else (0 : Int32)
def Q_rm_pick (Z : State) (n : Int32) (w : Nat → Addr) (h0 : Heap) (n0 : Nat) (v : Option Value) (h : Heap) (L : List Loc) : Prop := v = some (.ref (w n.toNatClampNeg)) ∧ Fr n0 L ∧ h = h0
set_option maxRecDepth 65536 in
set_option maxHeartbeats 40000000 in
theorem rm_pick (l : Launch) (Z : State) (a0 : Array Value) (hw : ∀ d ∈ tables_1, d.before a0 Z = true) (ws : List Jvm.Cond) (n : Int32) (w : Nat → Addr) (h0 : Heap) (n0 : Nat) (S_1 : Sta Z h0 "com/example/ajenda/ajenda/port4730/PacketType" "CAN_DO" "Lcom/example/ajenda/ajenda/port4730/PacketType;" (.ref (w 1))) (S_2 : Sta Z h0 "com/example/ajenda/ajenda/port4730/PacketType" "CANT_DO" "Lcom/example/ajenda/ajenda/port4730/PacketType;" (.ref (w 2))) (S_3 : Sta Z h0 "com/example/ajenda/ajenda/port4730/PacketType" "RESET_ABILITIES" "Lcom/example/ajenda/ajenda/port4730/PacketType;" (.ref (w 3))) (S_4 : Sta Z h0 "com/example/ajenda/ajenda/port4730/PacketType" "PRE_SLEEP" "Lcom/example/ajenda/ajenda/port4730/PacketType;" (.ref (w 4))) (S_6 : Sta Z h0 "com/example/ajenda/ajenda/port4730/PacketType" "NOOP" "Lcom/example/ajenda/ajenda/port4730/PacketType;" (.ref (w 6))) (S_7 : Sta Z h0 "com/example/ajenda/ajenda/port4730/PacketType" "SUBMIT_JOB" "Lcom/example/ajenda/ajenda/port4730/PacketType;" (.ref (w 7))) (S_8 : Sta Z h0 "com/example/ajenda/ajenda/port4730/PacketType" "JOB_CREATED" "Lcom/example/ajenda/ajenda/port4730/PacketType;" (.ref (w 8))) (S_9 : Sta Z h0 "com/example/ajenda/ajenda/port4730/PacketType" "GRAB_JOB" "Lcom/example/ajenda/ajenda/port4730/PacketType;" (.ref (w 9))) (S_10 : Sta Z h0 "com/example/ajenda/ajenda/port4730/PacketType" "NO_JOB" "Lcom/example/ajenda/ajenda/port4730/PacketType;" (.ref (w 10))) (S_11 : Sta Z h0 "com/example/ajenda/ajenda/port4730/PacketType" "JOB_ASSIGN" "Lcom/example/ajenda/ajenda/port4730/PacketType;" (.ref (w 11))) (S_12 : Sta Z h0 "com/example/ajenda/ajenda/port4730/PacketType" "WORK_STATUS" "Lcom/example/ajenda/ajenda/port4730/PacketType;" (.ref (w 12))) (S_13 : Sta Z h0 "com/example/ajenda/ajenda/port4730/PacketType" "WORK_COMPLETE" "Lcom/example/ajenda/ajenda/port4730/PacketType;" (.ref (w 13))) (S_14 : Sta Z h0 "com/example/ajenda/ajenda/port4730/PacketType" "WORK_FAIL" "Lcom/example/ajenda/ajenda/port4730/PacketType;" (.ref (w 14))) (S_15 : Sta Z h0 "com/example/ajenda/ajenda/port4730/PacketType" "GET_STATUS" "Lcom/example/ajenda/ajenda/port4730/PacketType;" (.ref (w 15))) (S_16 : Sta Z h0 "com/example/ajenda/ajenda/port4730/PacketType" "ECHO_REQ" "Lcom/example/ajenda/ajenda/port4730/PacketType;" (.ref (w 16))) (S_17 : Sta Z h0 "com/example/ajenda/ajenda/port4730/PacketType" "ECHO_RES" "Lcom/example/ajenda/ajenda/port4730/PacketType;" (.ref (w 17))) (S_18 : Sta Z h0 "com/example/ajenda/ajenda/port4730/PacketType" "SUBMIT_JOB_BG" "Lcom/example/ajenda/ajenda/port4730/PacketType;" (.ref (w 18))) (S_19 : Sta Z h0 "com/example/ajenda/ajenda/port4730/PacketType" "ERROR" "Lcom/example/ajenda/ajenda/port4730/PacketType;" (.ref (w 19))) (S_20 : Sta Z h0 "com/example/ajenda/ajenda/port4730/PacketType" "STATUS_RES" "Lcom/example/ajenda/ajenda/port4730/PacketType;" (.ref (w 20))) (S_21 : Sta Z h0 "com/example/ajenda/ajenda/port4730/PacketType" "SUBMIT_JOB_HIGH" "Lcom/example/ajenda/ajenda/port4730/PacketType;" (.ref (w 21))) (S_22 : Sta Z h0 "com/example/ajenda/ajenda/port4730/PacketType" "SET_CLIENT_ID" "Lcom/example/ajenda/ajenda/port4730/PacketType;" (.ref (w 22))) (S_23 : Sta Z h0 "com/example/ajenda/ajenda/port4730/PacketType" "CAN_DO_TIMEOUT" "Lcom/example/ajenda/ajenda/port4730/PacketType;" (.ref (w 23))) (S_24 : Sta Z h0 "com/example/ajenda/ajenda/port4730/PacketType" "ALL_YOURS" "Lcom/example/ajenda/ajenda/port4730/PacketType;" (.ref (w 24))) (S_25 : Sta Z h0 "com/example/ajenda/ajenda/port4730/PacketType" "WORK_EXCEPTION" "Lcom/example/ajenda/ajenda/port4730/PacketType;" (.ref (w 25))) (S_26 : Sta Z h0 "com/example/ajenda/ajenda/port4730/PacketType" "OPTION_REQ" "Lcom/example/ajenda/ajenda/port4730/PacketType;" (.ref (w 26))) (S_27 : Sta Z h0 "com/example/ajenda/ajenda/port4730/PacketType" "OPTION_RES" "Lcom/example/ajenda/ajenda/port4730/PacketType;" (.ref (w 27))) (S_28 : Sta Z h0 "com/example/ajenda/ajenda/port4730/PacketType" "WORK_DATA" "Lcom/example/ajenda/ajenda/port4730/PacketType;" (.ref (w 28))) (S_29 : Sta Z h0 "com/example/ajenda/ajenda/port4730/PacketType" "WORK_WARNING" "Lcom/example/ajenda/ajenda/port4730/PacketType;" (.ref (w 29))) (S_30 : Sta Z h0 "com/example/ajenda/ajenda/port4730/PacketType" "GRAB_JOB_UNIQ" "Lcom/example/ajenda/ajenda/port4730/PacketType;" (.ref (w 30))) (S_31 : Sta Z h0 "com/example/ajenda/ajenda/port4730/PacketType" "JOB_ASSIGN_UNIQ" "Lcom/example/ajenda/ajenda/port4730/PacketType;" (.ref (w 31))) (S_32 : Sta Z h0 "com/example/ajenda/ajenda/port4730/PacketType" "SUBMIT_JOB_HIGH_BG" "Lcom/example/ajenda/ajenda/port4730/PacketType;" (.ref (w 32))) (S_33 : Sta Z h0 "com/example/ajenda/ajenda/port4730/PacketType" "SUBMIT_JOB_LOW" "Lcom/example/ajenda/ajenda/port4730/PacketType;" (.ref (w 33))) (S_34 : Sta Z h0 "com/example/ajenda/ajenda/port4730/PacketType" "SUBMIT_JOB_LOW_BG" "Lcom/example/ajenda/ajenda/port4730/PacketType;" (.ref (w 34))) (S_35 : Sta Z h0 "com/example/ajenda/ajenda/port4730/PacketType" "SUBMIT_JOB_SCHED" "Lcom/example/ajenda/ajenda/port4730/PacketType;" (.ref (w 35))) (S_36 : Sta Z h0 "com/example/ajenda/ajenda/port4730/PacketType" "SUBMIT_JOB_EPOCH" "Lcom/example/ajenda/ajenda/port4730/PacketType;" (.ref (w 36))) (hn : own_ok n) :
    MetFree l (⟨"com/example/ajenda/ajenda/port4730/PacketTypeIsResponsePinLaw", "pick", "(I)Lcom/example/ajenda/ajenda/port4730/PacketType;"⟩ : MethodName) (head1 (Jvm.Cond.code (⟨"com/example/ajenda/ajenda/port4730/PacketTypeIsResponsePinLaw", "pick", "(I)Lcom/example/ajenda/ajenda/port4730/PacketType;"⟩ : MethodName) method_4_code 1 (some (.object "com/example/ajenda/ajenda/port4730/PacketType")) :: ws) ({ frames := 0, cells := 0, slots := 0, locals := 0 } : Room)) (fun ar U => ar = #[(.int n)] ∧ Z.Warmed39 U.vm ∧ U.heap = h0) (fun _ _ _ _ _ => True) (fun _ U o U' => ∃ v L, o = .returned v ∧ Q_rm_pick Z n w h0 n0 v U'.heap L ∧ FrameEnd U o U' L ({ frames := 0, cells := 0, slots := 0, locals := 0 } : Room).cells ({ frames := 0, cells := 0, slots := 0, locals := 0 } : Room).slots) := by
  refine own_enter (Q := (Q_rm_pick Z n w h0 n0)) pl_1 ?_
  intro p e s m below meth c s₁ X0 hx hZ hby hml hown hnm hret hlk e0
  have N0 := Fr.nil n0
  refine own_by (fun tz kz => castTop (g' := (mkF m 0 #[.val (.int n)] [])) (by first | rfl | (simp [entryFrame, mkF, argsToLocals, Value.category]; done)) kz) ?_
  unfold own_ok at hn
  rcases hn with rfl | rfl | rfl | rfl | rfl | rfl | rfl | rfl | rfl | rfl | rfl | rfl | rfl | rfl | rfl | rfl | rfl | rfl | rfl | rfl | rfl | rfl | rfl | rfl | rfl | rfl | rfl | rfl | rfl | rfl | rfl | rfl | rfl | rfl | rfl
  · show own_Go p e below s _ _ (s₁.setTop (mkF m 0 #[.val (.int (1 : Int32))] []))
    refine own_by (fun tz kz => XS.iloadN X0.here hx rfl (hb hby d1_0) rfl  kz) ?_
    show own_Go p e below s _ _ (s₁.setTop (mkF m 1 #[.val (.int (1 : Int32))] [(.int (1 : Int32))]))
    refine own_by (fun tz kz => XS.tswIn X0.here hx rfl (pc0 := 1) (pc' := 156) rfl (hb hby d1_1) rfl (by decide) (o := 155) (by decide) (by decide) (by decide) kz) ?_
    show own_Go p e below s _ _ (s₁.setTop (mkF m 156 #[.val (.int (1 : Int32))] []))
    obtain ⟨T1, X1, e1, st1⟩ := getS2 X0 hx hZ hown (host := "") (Or.inl (hw _ (List.mem_of_getElem? (i := 5) rfl))) Via.refl e0 S_1 (g := (mkF m 156 #[.val (.int (1 : Int32))] [])) rfl (hb hby d1_156)
    refine own_by st1 ?_
    show own_Go p e below s _ _ (T1.setTop (mkF m 159 #[.val (.int (1 : Int32))] [(.ref (w 1))]))
    refine own_retA X1 hx hlk (t := (.object "com/example/ajenda/ajenda/port4730/PacketType")) hret rfl rfl (hb hby d1_159) ?_ (by decide) (by decide)
    exact ⟨congrArg (fun i => some (Value.ref (w i))) (by decide : 1 = (1 : Int32).toNatClampNeg), N0, e1⟩
  · show own_Go p e below s _ _ (s₁.setTop (mkF m 0 #[.val (.int (2 : Int32))] []))
    refine own_by (fun tz kz => XS.iloadN X0.here hx rfl (hb hby d1_0) rfl  kz) ?_
    show own_Go p e below s _ _ (s₁.setTop (mkF m 1 #[.val (.int (2 : Int32))] [(.int (2 : Int32))]))
    refine own_by (fun tz kz => XS.tswIn X0.here hx rfl (pc0 := 1) (pc' := 160) rfl (hb hby d1_1) rfl (by decide) (o := 159) (by decide) (by decide) (by decide) kz) ?_
    show own_Go p e below s _ _ (s₁.setTop (mkF m 160 #[.val (.int (2 : Int32))] []))
    obtain ⟨T2, X2, e2, st2⟩ := getS2 X0 hx hZ hown (host := "") (Or.inl (hw _ (List.mem_of_getElem? (i := 43) rfl))) Via.refl e0 S_2 (g := (mkF m 160 #[.val (.int (2 : Int32))] [])) rfl (hb hby d1_160)
    refine own_by st2 ?_
    show own_Go p e below s _ _ (T2.setTop (mkF m 163 #[.val (.int (2 : Int32))] [(.ref (w 2))]))
    refine own_retA X2 hx hlk (t := (.object "com/example/ajenda/ajenda/port4730/PacketType")) hret rfl rfl (hb hby d1_163) ?_ (by decide) (by decide)
    exact ⟨congrArg (fun i => some (Value.ref (w i))) (by decide : 2 = (2 : Int32).toNatClampNeg), N0, e2⟩
  · show own_Go p e below s _ _ (s₁.setTop (mkF m 0 #[.val (.int (3 : Int32))] []))
    refine own_by (fun tz kz => XS.iloadN X0.here hx rfl (hb hby d1_0) rfl  kz) ?_
    show own_Go p e below s _ _ (s₁.setTop (mkF m 1 #[.val (.int (3 : Int32))] [(.int (3 : Int32))]))
    refine own_by (fun tz kz => XS.tswIn X0.here hx rfl (pc0 := 1) (pc' := 164) rfl (hb hby d1_1) rfl (by decide) (o := 163) (by decide) (by decide) (by decide) kz) ?_
    show own_Go p e below s _ _ (s₁.setTop (mkF m 164 #[.val (.int (3 : Int32))] []))
    obtain ⟨T3, X3, e3, st3⟩ := getS2 X0 hx hZ hown (host := "") (Or.inl (hw _ (List.mem_of_getElem? (i := 34) rfl))) Via.refl e0 S_3 (g := (mkF m 164 #[.val (.int (3 : Int32))] [])) rfl (hb hby d1_164)
    refine own_by st3 ?_
    show own_Go p e below s _ _ (T3.setTop (mkF m 167 #[.val (.int (3 : Int32))] [(.ref (w 3))]))
    refine own_retA X3 hx hlk (t := (.object "com/example/ajenda/ajenda/port4730/PacketType")) hret rfl rfl (hb hby d1_167) ?_ (by decide) (by decide)
    exact ⟨congrArg (fun i => some (Value.ref (w i))) (by decide : 3 = (3 : Int32).toNatClampNeg), N0, e3⟩
  · show own_Go p e below s _ _ (s₁.setTop (mkF m 0 #[.val (.int (4 : Int32))] []))
    refine own_by (fun tz kz => XS.iloadN X0.here hx rfl (hb hby d1_0) rfl  kz) ?_
    show own_Go p e below s _ _ (s₁.setTop (mkF m 1 #[.val (.int (4 : Int32))] [(.int (4 : Int32))]))
    refine own_by (fun tz kz => XS.tswIn X0.here hx rfl (pc0 := 1) (pc' := 168) rfl (hb hby d1_1) rfl (by decide) (o := 167) (by decide) (by decide) (by decide) kz) ?_
    show own_Go p e below s _ _ (s₁.setTop (mkF m 168 #[.val (.int (4 : Int32))] []))
    obtain ⟨T4, X4, e4, st4⟩ := getS2 X0 hx hZ hown (host := "") (Or.inl (hw _ (List.mem_of_getElem? (i := 21) rfl))) Via.refl e0 S_4 (g := (mkF m 168 #[.val (.int (4 : Int32))] [])) rfl (hb hby d1_168)
    refine own_by st4 ?_
    show own_Go p e below s _ _ (T4.setTop (mkF m 171 #[.val (.int (4 : Int32))] [(.ref (w 4))]))
    refine own_retA X4 hx hlk (t := (.object "com/example/ajenda/ajenda/port4730/PacketType")) hret rfl rfl (hb hby d1_171) ?_ (by decide) (by decide)
    exact ⟨congrArg (fun i => some (Value.ref (w i))) (by decide : 4 = (4 : Int32).toNatClampNeg), N0, e4⟩
  · show own_Go p e below s _ _ (s₁.setTop (mkF m 0 #[.val (.int (6 : Int32))] []))
    refine own_by (fun tz kz => XS.iloadN X0.here hx rfl (hb hby d1_0) rfl  kz) ?_
    show own_Go p e below s _ _ (s₁.setTop (mkF m 1 #[.val (.int (6 : Int32))] [(.int (6 : Int32))]))
    refine own_by (fun tz kz => XS.tswIn X0.here hx rfl (pc0 := 1) (pc' := 172) rfl (hb hby d1_1) rfl (by decide) (o := 171) (by decide) (by decide) (by decide) kz) ?_
    show own_Go p e below s _ _ (s₁.setTop (mkF m 172 #[.val (.int (6 : Int32))] []))
    obtain ⟨T5, X5, e5, st5⟩ := getS2 X0 hx hZ hown (host := "") (Or.inl (hw _ (List.mem_of_getElem? (i := 30) rfl))) Via.refl e0 S_6 (g := (mkF m 172 #[.val (.int (6 : Int32))] [])) rfl (hb hby d1_172)
    refine own_by st5 ?_
    show own_Go p e below s _ _ (T5.setTop (mkF m 175 #[.val (.int (6 : Int32))] [(.ref (w 6))]))
    refine own_retA X5 hx hlk (t := (.object "com/example/ajenda/ajenda/port4730/PacketType")) hret rfl rfl (hb hby d1_175) ?_ (by decide) (by decide)
    exact ⟨congrArg (fun i => some (Value.ref (w i))) (by decide : 6 = (6 : Int32).toNatClampNeg), N0, e5⟩
  · show own_Go p e below s _ _ (s₁.setTop (mkF m 0 #[.val (.int (7 : Int32))] []))
    refine own_by (fun tz kz => XS.iloadN X0.here hx rfl (hb hby d1_0) rfl  kz) ?_
    show own_Go p e below s _ _ (s₁.setTop (mkF m 1 #[.val (.int (7 : Int32))] [(.int (7 : Int32))]))
    refine own_by (fun tz kz => XS.tswIn X0.here hx rfl (pc0 := 1) (pc' := 176) rfl (hb hby d1_1) rfl (by decide) (o := 175) (by decide) (by decide) (by decide) kz) ?_
    show own_Go p e below s _ _ (s₁.setTop (mkF m 176 #[.val (.int (7 : Int32))] []))
    obtain ⟨T6, X6, e6, st6⟩ := getS2 X0 hx hZ hown (host := "") (Or.inl (hw _ (List.mem_of_getElem? (i := 23) rfl))) Via.refl e0 S_7 (g := (mkF m 176 #[.val (.int (7 : Int32))] [])) rfl (hb hby d1_176)
    refine own_by st6 ?_
    show own_Go p e below s _ _ (T6.setTop (mkF m 179 #[.val (.int (7 : Int32))] [(.ref (w 7))]))
    refine own_retA X6 hx hlk (t := (.object "com/example/ajenda/ajenda/port4730/PacketType")) hret rfl rfl (hb hby d1_179) ?_ (by decide) (by decide)
    exact ⟨congrArg (fun i => some (Value.ref (w i))) (by decide : 7 = (7 : Int32).toNatClampNeg), N0, e6⟩
  · show own_Go p e below s _ _ (s₁.setTop (mkF m 0 #[.val (.int (8 : Int32))] []))
    refine own_by (fun tz kz => XS.iloadN X0.here hx rfl (hb hby d1_0) rfl  kz) ?_
    show own_Go p e below s _ _ (s₁.setTop (mkF m 1 #[.val (.int (8 : Int32))] [(.int (8 : Int32))]))
    refine own_by (fun tz kz => XS.tswIn X0.here hx rfl (pc0 := 1) (pc' := 180) rfl (hb hby d1_1) rfl (by decide) (o := 179) (by decide) (by decide) (by decide) kz) ?_
    show own_Go p e below s _ _ (s₁.setTop (mkF m 180 #[.val (.int (8 : Int32))] []))
    obtain ⟨T7, X7, e7, st7⟩ := getS2 X0 hx hZ hown (host := "") (Or.inl (hw _ (List.mem_of_getElem? (i := 27) rfl))) Via.refl e0 S_8 (g := (mkF m 180 #[.val (.int (8 : Int32))] [])) rfl (hb hby d1_180)
    refine own_by st7 ?_
    show own_Go p e below s _ _ (T7.setTop (mkF m 183 #[.val (.int (8 : Int32))] [(.ref (w 8))]))
    refine own_retA X7 hx hlk (t := (.object "com/example/ajenda/ajenda/port4730/PacketType")) hret rfl rfl (hb hby d1_183) ?_ (by decide) (by decide)
    exact ⟨congrArg (fun i => some (Value.ref (w i))) (by decide : 8 = (8 : Int32).toNatClampNeg), N0, e7⟩
  · show own_Go p e below s _ _ (s₁.setTop (mkF m 0 #[.val (.int (9 : Int32))] []))
    refine own_by (fun tz kz => XS.iloadN X0.here hx rfl (hb hby d1_0) rfl  kz) ?_
    show own_Go p e below s _ _ (s₁.setTop (mkF m 1 #[.val (.int (9 : Int32))] [(.int (9 : Int32))]))
    refine own_by (fun tz kz => XS.tswIn X0.here hx rfl (pc0 := 1) (pc' := 184) rfl (hb hby d1_1) rfl (by decide) (o := 183) (by decide) (by decide) (by decide) kz) ?_
    show own_Go p e below s _ _ (s₁.setTop (mkF m 184 #[.val (.int (9 : Int32))] []))
    obtain ⟨T8, X8, e8, st8⟩ := getS2 X0 hx hZ hown (host := "") (Or.inl (hw _ (List.mem_of_getElem? (i := 32) rfl))) Via.refl e0 S_9 (g := (mkF m 184 #[.val (.int (9 : Int32))] [])) rfl (hb hby d1_184)
    refine own_by st8 ?_
    show own_Go p e below s _ _ (T8.setTop (mkF m 187 #[.val (.int (9 : Int32))] [(.ref (w 9))]))
    refine own_retA X8 hx hlk (t := (.object "com/example/ajenda/ajenda/port4730/PacketType")) hret rfl rfl (hb hby d1_187) ?_ (by decide) (by decide)
    exact ⟨congrArg (fun i => some (Value.ref (w i))) (by decide : 9 = (9 : Int32).toNatClampNeg), N0, e8⟩
  · show own_Go p e below s _ _ (s₁.setTop (mkF m 0 #[.val (.int (10 : Int32))] []))
    refine own_by (fun tz kz => XS.iloadN X0.here hx rfl (hb hby d1_0) rfl  kz) ?_
    show own_Go p e below s _ _ (s₁.setTop (mkF m 1 #[.val (.int (10 : Int32))] [(.int (10 : Int32))]))
    refine own_by (fun tz kz => XS.tswIn X0.here hx rfl (pc0 := 1) (pc' := 188) rfl (hb hby d1_1) rfl (by decide) (o := 187) (by decide) (by decide) (by decide) kz) ?_
    show own_Go p e below s _ _ (s₁.setTop (mkF m 188 #[.val (.int (10 : Int32))] []))
    obtain ⟨T9, X9, e9, st9⟩ := getS2 X0 hx hZ hown (host := "") (Or.inl (hw _ (List.mem_of_getElem? (i := 41) rfl))) Via.refl e0 S_10 (g := (mkF m 188 #[.val (.int (10 : Int32))] [])) rfl (hb hby d1_188)
    refine own_by st9 ?_
    show own_Go p e below s _ _ (T9.setTop (mkF m 191 #[.val (.int (10 : Int32))] [(.ref (w 10))]))
    refine own_retA X9 hx hlk (t := (.object "com/example/ajenda/ajenda/port4730/PacketType")) hret rfl rfl (hb hby d1_191) ?_ (by decide) (by decide)
    exact ⟨congrArg (fun i => some (Value.ref (w i))) (by decide : 10 = (10 : Int32).toNatClampNeg), N0, e9⟩
  · show own_Go p e below s _ _ (s₁.setTop (mkF m 0 #[.val (.int (11 : Int32))] []))
    refine own_by (fun tz kz => XS.iloadN X0.here hx rfl (hb hby d1_0) rfl  kz) ?_
    show own_Go p e below s _ _ (s₁.setTop (mkF m 1 #[.val (.int (11 : Int32))] [(.int (11 : Int32))]))
    refine own_by (fun tz kz => XS.tswIn X0.here hx rfl (pc0 := 1) (pc' := 192) rfl (hb hby d1_1) rfl (by decide) (o := 191) (by decide) (by decide) (by decide) kz) ?_
    show own_Go p e below s _ _ (s₁.setTop (mkF m 192 #[.val (.int (11 : Int32))] []))
    obtain ⟨T10, X10, e10, st10⟩ := getS2 X0 hx hZ hown (host := "") (Or.inl (hw _ (List.mem_of_getElem? (i := 65) rfl))) Via.refl e0 S_11 (g := (mkF m 192 #[.val (.int (11 : Int32))] [])) rfl (hb hby d1_192)
    refine own_by st10 ?_
    show own_Go p e below s _ _ (T10.setTop (mkF m 195 #[.val (.int (11 : Int32))] [(.ref (w 11))]))
    refine own_retA X10 hx hlk (t := (.object "com/example/ajenda/ajenda/port4730/PacketType")) hret rfl rfl (hb hby d1_195) ?_ (by decide) (by decide)
    exact ⟨congrArg (fun i => some (Value.ref (w i))) (by decide : 11 = (11 : Int32).toNatClampNeg), N0, e10⟩
  · show own_Go p e below s _ _ (s₁.setTop (mkF m 0 #[.val (.int (12 : Int32))] []))
    refine own_by (fun tz kz => XS.iloadN X0.here hx rfl (hb hby d1_0) rfl  kz) ?_
    show own_Go p e below s _ _ (s₁.setTop (mkF m 1 #[.val (.int (12 : Int32))] [(.int (12 : Int32))]))
    refine own_by (fun tz kz => XS.tswIn X0.here hx rfl (pc0 := 1) (pc' := 196) rfl (hb hby d1_1) rfl (by decide) (o := 195) (by decide) (by decide) (by decide) kz) ?_
    show own_Go p e below s _ _ (s₁.setTop (mkF m 196 #[.val (.int (12 : Int32))] []))
    obtain ⟨T11, X11, e11, st11⟩ := getS2 X0 hx hZ hown (host := "") (Or.inl (hw _ (List.mem_of_getElem? (i := 39) rfl))) Via.refl e0 S_12 (g := (mkF m 196 #[.val (.int (12 : Int32))] [])) rfl (hb hby d1_196)
    refine own_by st11 ?_
    show own_Go p e below s _ _ (T11.setTop (mkF m 199 #[.val (.int (12 : Int32))] [(.ref (w 12))]))
    refine own_retA X11 hx hlk (t := (.object "com/example/ajenda/ajenda/port4730/PacketType")) hret rfl rfl (hb hby d1_199) ?_ (by decide) (by decide)
    exact ⟨congrArg (fun i => some (Value.ref (w i))) (by decide : 12 = (12 : Int32).toNatClampNeg), N0, e11⟩
  · show own_Go p e below s _ _ (s₁.setTop (mkF m 0 #[.val (.int (13 : Int32))] []))
    refine own_by (fun tz kz => XS.iloadN X0.here hx rfl (hb hby d1_0) rfl  kz) ?_
    show own_Go p e below s _ _ (s₁.setTop (mkF m 1 #[.val (.int (13 : Int32))] [(.int (13 : Int32))]))
    refine own_by (fun tz kz => XS.tswIn X0.here hx rfl (pc0 := 1) (pc' := 200) rfl (hb hby d1_1) rfl (by decide) (o := 199) (by decide) (by decide) (by decide) kz) ?_
    show own_Go p e below s _ _ (s₁.setTop (mkF m 200 #[.val (.int (13 : Int32))] []))
    obtain ⟨T12, X12, e12, st12⟩ := getS2 X0 hx hZ hown (host := "") (Or.inl (hw _ (List.mem_of_getElem? (i := 36) rfl))) Via.refl e0 S_13 (g := (mkF m 200 #[.val (.int (13 : Int32))] [])) rfl (hb hby d1_200)
    refine own_by st12 ?_
    show own_Go p e below s _ _ (T12.setTop (mkF m 203 #[.val (.int (13 : Int32))] [(.ref (w 13))]))
    refine own_retA X12 hx hlk (t := (.object "com/example/ajenda/ajenda/port4730/PacketType")) hret rfl rfl (hb hby d1_203) ?_ (by decide) (by decide)
    exact ⟨congrArg (fun i => some (Value.ref (w i))) (by decide : 13 = (13 : Int32).toNatClampNeg), N0, e12⟩
  · show own_Go p e below s _ _ (s₁.setTop (mkF m 0 #[.val (.int (14 : Int32))] []))
    refine own_by (fun tz kz => XS.iloadN X0.here hx rfl (hb hby d1_0) rfl  kz) ?_
    show own_Go p e below s _ _ (s₁.setTop (mkF m 1 #[.val (.int (14 : Int32))] [(.int (14 : Int32))]))
    refine own_by (fun tz kz => XS.tswIn X0.here hx rfl (pc0 := 1) (pc' := 204) rfl (hb hby d1_1) rfl (by decide) (o := 203) (by decide) (by decide) (by decide) kz) ?_
    show own_Go p e below s _ _ (s₁.setTop (mkF m 204 #[.val (.int (14 : Int32))] []))
    obtain ⟨T13, X13, e13, st13⟩ := getS2 X0 hx hZ hown (host := "") (Or.inl (hw _ (List.mem_of_getElem? (i := 69) rfl))) Via.refl e0 S_14 (g := (mkF m 204 #[.val (.int (14 : Int32))] [])) rfl (hb hby d1_204)
    refine own_by st13 ?_
    show own_Go p e below s _ _ (T13.setTop (mkF m 207 #[.val (.int (14 : Int32))] [(.ref (w 14))]))
    refine own_retA X13 hx hlk (t := (.object "com/example/ajenda/ajenda/port4730/PacketType")) hret rfl rfl (hb hby d1_207) ?_ (by decide) (by decide)
    exact ⟨congrArg (fun i => some (Value.ref (w i))) (by decide : 14 = (14 : Int32).toNatClampNeg), N0, e13⟩
  · show own_Go p e below s _ _ (s₁.setTop (mkF m 0 #[.val (.int (15 : Int32))] []))
    refine own_by (fun tz kz => XS.iloadN X0.here hx rfl (hb hby d1_0) rfl  kz) ?_
    show own_Go p e below s _ _ (s₁.setTop (mkF m 1 #[.val (.int (15 : Int32))] [(.int (15 : Int32))]))
    refine own_by (fun tz kz => XS.tswIn X0.here hx rfl (pc0 := 1) (pc' := 208) rfl (hb hby d1_1) rfl (by decide) (o := 207) (by decide) (by decide) (by decide) kz) ?_
    show own_Go p e below s _ _ (s₁.setTop (mkF m 208 #[.val (.int (15 : Int32))] []))
    obtain ⟨T14, X14, e14, st14⟩ := getS2 X0 hx hZ hown (host := "") (Or.inl (hw _ (List.mem_of_getElem? (i := 25) rfl))) Via.refl e0 S_15 (g := (mkF m 208 #[.val (.int (15 : Int32))] [])) rfl (hb hby d1_208)
    refine own_by st14 ?_
    show own_Go p e below s _ _ (T14.setTop (mkF m 211 #[.val (.int (15 : Int32))] [(.ref (w 15))]))
    refine own_retA X14 hx hlk (t := (.object "com/example/ajenda/ajenda/port4730/PacketType")) hret rfl rfl (hb hby d1_211) ?_ (by decide) (by decide)
    exact ⟨congrArg (fun i => some (Value.ref (w i))) (by decide : 15 = (15 : Int32).toNatClampNeg), N0, e14⟩
  · show own_Go p e below s _ _ (s₁.setTop (mkF m 0 #[.val (.int (16 : Int32))] []))
    refine own_by (fun tz kz => XS.iloadN X0.here hx rfl (hb hby d1_0) rfl  kz) ?_
    show own_Go p e below s _ _ (s₁.setTop (mkF m 1 #[.val (.int (16 : Int32))] [(.int (16 : Int32))]))
    refine own_by (fun tz kz => XS.tswIn X0.here hx rfl (pc0 := 1) (pc' := 212) rfl (hb hby d1_1) rfl (by decide) (o := 211) (by decide) (by decide) (by decide) kz) ?_
    show own_Go p e below s _ _ (s₁.setTop (mkF m 212 #[.val (.int (16 : Int32))] []))
    obtain ⟨T15, X15, e15, st15⟩ := getS2 X0 hx hZ hown (host := "") (Or.inl (hw _ (List.mem_of_getElem? (i := 45) rfl))) Via.refl e0 S_16 (g := (mkF m 212 #[.val (.int (16 : Int32))] [])) rfl (hb hby d1_212)
    refine own_by st15 ?_
    show own_Go p e below s _ _ (T15.setTop (mkF m 215 #[.val (.int (16 : Int32))] [(.ref (w 16))]))
    refine own_retA X15 hx hlk (t := (.object "com/example/ajenda/ajenda/port4730/PacketType")) hret rfl rfl (hb hby d1_215) ?_ (by decide) (by decide)
    exact ⟨congrArg (fun i => some (Value.ref (w i))) (by decide : 16 = (16 : Int32).toNatClampNeg), N0, e15⟩
  · show own_Go p e below s _ _ (s₁.setTop (mkF m 0 #[.val (.int (17 : Int32))] []))
    refine own_by (fun tz kz => XS.iloadN X0.here hx rfl (hb hby d1_0) rfl  kz) ?_
    show own_Go p e below s _ _ (s₁.setTop (mkF m 1 #[.val (.int (17 : Int32))] [(.int (17 : Int32))]))
    refine own_by (fun tz kz => XS.tswIn X0.here hx rfl (pc0 := 1) (pc' := 216) rfl (hb hby d1_1) rfl (by decide) (o := 215) (by decide) (by decide) (by decide) kz) ?_
    show own_Go p e below s _ _ (s₁.setTop (mkF m 216 #[.val (.int (17 : Int32))] []))
    obtain ⟨T16, X16, e16, st16⟩ := getS2 X0 hx hZ hown (host := "") (Or.inl (hw _ (List.mem_of_getElem? (i := 47) rfl))) Via.refl e0 S_17 (g := (mkF m 216 #[.val (.int (17 : Int32))] [])) rfl (hb hby d1_216)
    refine own_by st16 ?_
    show own_Go p e below s _ _ (T16.setTop (mkF m 219 #[.val (.int (17 : Int32))] [(.ref (w 17))]))
    refine own_retA X16 hx hlk (t := (.object "com/example/ajenda/ajenda/port4730/PacketType")) hret rfl rfl (hb hby d1_219) ?_ (by decide) (by decide)
    exact ⟨congrArg (fun i => some (Value.ref (w i))) (by decide : 17 = (17 : Int32).toNatClampNeg), N0, e16⟩
  · show own_Go p e below s _ _ (s₁.setTop (mkF m 0 #[.val (.int (18 : Int32))] []))
    refine own_by (fun tz kz => XS.iloadN X0.here hx rfl (hb hby d1_0) rfl  kz) ?_
    show own_Go p e below s _ _ (s₁.setTop (mkF m 1 #[.val (.int (18 : Int32))] [(.int (18 : Int32))]))
    refine own_by (fun tz kz => XS.tswIn X0.here hx rfl (pc0 := 1) (pc' := 220) rfl (hb hby d1_1) rfl (by decide) (o := 219) (by decide) (by decide) (by decide) kz) ?_
    show own_Go p e below s _ _ (s₁.setTop (mkF m 220 #[.val (.int (18 : Int32))] []))
    obtain ⟨T17, X17, e17, st17⟩ := getS2 X0 hx hZ hown (host := "") (Or.inl (hw _ (List.mem_of_getElem? (i := 53) rfl))) Via.refl e0 S_18 (g := (mkF m 220 #[.val (.int (18 : Int32))] [])) rfl (hb hby d1_220)
    refine own_by st17 ?_
    show own_Go p e below s _ _ (T17.setTop (mkF m 223 #[.val (.int (18 : Int32))] [(.ref (w 18))]))
    refine own_retA X17 hx hlk (t := (.object "com/example/ajenda/ajenda/port4730/PacketType")) hret rfl rfl (hb hby d1_223) ?_ (by decide) (by decide)
    exact ⟨congrArg (fun i => some (Value.ref (w i))) (by decide : 18 = (18 : Int32).toNatClampNeg), N0, e17⟩
  · show own_Go p e below s _ _ (s₁.setTop (mkF m 0 #[.val (.int (19 : Int32))] []))
    refine own_by (fun tz kz => XS.iloadN X0.here hx rfl (hb hby d1_0) rfl  kz) ?_
    show own_Go p e below s _ _ (s₁.setTop (mkF m 1 #[.val (.int (19 : Int32))] [(.int (19 : Int32))]))
    refine own_by (fun tz kz => XS.tswIn X0.here hx rfl (pc0 := 1) (pc' := 224) rfl (hb hby d1_1) rfl (by decide) (o := 223) (by decide) (by decide) (by decide) kz) ?_
    show own_Go p e below s _ _ (s₁.setTop (mkF m 224 #[.val (.int (19 : Int32))] []))
    obtain ⟨T18, X18, e18, st18⟩ := getS2 X0 hx hZ hown (host := "") (Or.inl (hw _ (List.mem_of_getElem? (i := 59) rfl))) Via.refl e0 S_19 (g := (mkF m 224 #[.val (.int (19 : Int32))] [])) rfl (hb hby d1_224)
    refine own_by st18 ?_
    show own_Go p e below s _ _ (T18.setTop (mkF m 227 #[.val (.int (19 : Int32))] [(.ref (w 19))]))
    refine own_retA X18 hx hlk (t := (.object "com/example/ajenda/ajenda/port4730/PacketType")) hret rfl rfl (hb hby d1_227) ?_ (by decide) (by decide)
    exact ⟨congrArg (fun i => some (Value.ref (w i))) (by decide : 19 = (19 : Int32).toNatClampNeg), N0, e18⟩
  · show own_Go p e below s _ _ (s₁.setTop (mkF m 0 #[.val (.int (20 : Int32))] []))
    refine own_by (fun tz kz => XS.iloadN X0.here hx rfl (hb hby d1_0) rfl  kz) ?_
    show own_Go p e below s _ _ (s₁.setTop (mkF m 1 #[.val (.int (20 : Int32))] [(.int (20 : Int32))]))
    refine own_by (fun tz kz => XS.tswIn X0.here hx rfl (pc0 := 1) (pc' := 228) rfl (hb hby d1_1) rfl (by decide) (o := 227) (by decide) (by decide) (by decide) kz) ?_
    show own_Go p e below s _ _ (s₁.setTop (mkF m 228 #[.val (.int (20 : Int32))] []))
    obtain ⟨T19, X19, e19, st19⟩ := getS2 X0 hx hZ hown (host := "") (Or.inl (hw _ (List.mem_of_getElem? (i := 63) rfl))) Via.refl e0 S_20 (g := (mkF m 228 #[.val (.int (20 : Int32))] [])) rfl (hb hby d1_228)
    refine own_by st19 ?_
    show own_Go p e below s _ _ (T19.setTop (mkF m 231 #[.val (.int (20 : Int32))] [(.ref (w 20))]))
    refine own_retA X19 hx hlk (t := (.object "com/example/ajenda/ajenda/port4730/PacketType")) hret rfl rfl (hb hby d1_231) ?_ (by decide) (by decide)
    exact ⟨congrArg (fun i => some (Value.ref (w i))) (by decide : 20 = (20 : Int32).toNatClampNeg), N0, e19⟩
  · show own_Go p e below s _ _ (s₁.setTop (mkF m 0 #[.val (.int (21 : Int32))] []))
    refine own_by (fun tz kz => XS.iloadN X0.here hx rfl (hb hby d1_0) rfl  kz) ?_
    show own_Go p e below s _ _ (s₁.setTop (mkF m 1 #[.val (.int (21 : Int32))] [(.int (21 : Int32))]))
    refine own_by (fun tz kz => XS.tswIn X0.here hx rfl (pc0 := 1) (pc' := 232) rfl (hb hby d1_1) rfl (by decide) (o := 231) (by decide) (by decide) (by decide) kz) ?_
    show own_Go p e below s _ _ (s₁.setTop (mkF m 232 #[.val (.int (21 : Int32))] []))
    obtain ⟨T20, X20, e20, st20⟩ := getS2 X0 hx hZ hown (host := "") (Or.inl (hw _ (List.mem_of_getElem? (i := 51) rfl))) Via.refl e0 S_21 (g := (mkF m 232 #[.val (.int (21 : Int32))] [])) rfl (hb hby d1_232)
    refine own_by st20 ?_
    show own_Go p e below s _ _ (T20.setTop (mkF m 235 #[.val (.int (21 : Int32))] [(.ref (w 21))]))
    refine own_retA X20 hx hlk (t := (.object "com/example/ajenda/ajenda/port4730/PacketType")) hret rfl rfl (hb hby d1_235) ?_ (by decide) (by decide)
    exact ⟨congrArg (fun i => some (Value.ref (w i))) (by decide : 21 = (21 : Int32).toNatClampNeg), N0, e20⟩
  · show own_Go p e below s _ _ (s₁.setTop (mkF m 0 #[.val (.int (22 : Int32))] []))
    refine own_by (fun tz kz => XS.iloadN X0.here hx rfl (hb hby d1_0) rfl  kz) ?_
    show own_Go p e below s _ _ (s₁.setTop (mkF m 1 #[.val (.int (22 : Int32))] [(.int (22 : Int32))]))
    refine own_by (fun tz kz => XS.tswIn X0.here hx rfl (pc0 := 1) (pc' := 236) rfl (hb hby d1_1) rfl (by decide) (o := 235) (by decide) (by decide) (by decide) kz) ?_
    show own_Go p e below s _ _ (s₁.setTop (mkF m 236 #[.val (.int (22 : Int32))] []))
    obtain ⟨T21, X21, e21, st21⟩ := getS2 X0 hx hZ hown (host := "") (Or.inl (hw _ (List.mem_of_getElem? (i := 61) rfl))) Via.refl e0 S_22 (g := (mkF m 236 #[.val (.int (22 : Int32))] [])) rfl (hb hby d1_236)
    refine own_by st21 ?_
    show own_Go p e below s _ _ (T21.setTop (mkF m 239 #[.val (.int (22 : Int32))] [(.ref (w 22))]))
    refine own_retA X21 hx hlk (t := (.object "com/example/ajenda/ajenda/port4730/PacketType")) hret rfl rfl (hb hby d1_239) ?_ (by decide) (by decide)
    exact ⟨congrArg (fun i => some (Value.ref (w i))) (by decide : 22 = (22 : Int32).toNatClampNeg), N0, e21⟩
  · show own_Go p e below s _ _ (s₁.setTop (mkF m 0 #[.val (.int (23 : Int32))] []))
    refine own_by (fun tz kz => XS.iloadN X0.here hx rfl (hb hby d1_0) rfl  kz) ?_
    show own_Go p e below s _ _ (s₁.setTop (mkF m 1 #[.val (.int (23 : Int32))] [(.int (23 : Int32))]))
    refine own_by (fun tz kz => XS.tswIn X0.here hx rfl (pc0 := 1) (pc' := 240) rfl (hb hby d1_1) rfl (by decide) (o := 239) (by decide) (by decide) (by decide) kz) ?_
    show own_Go p e below s _ _ (s₁.setTop (mkF m 240 #[.val (.int (23 : Int32))] []))
    obtain ⟨T22, X22, e22, st22⟩ := getS2 X0 hx hZ hown (host := "") (Or.inl (hw _ (List.mem_of_getElem? (i := 77) rfl))) Via.refl e0 S_23 (g := (mkF m 240 #[.val (.int (23 : Int32))] [])) rfl (hb hby d1_240)
    refine own_by st22 ?_
    show own_Go p e below s _ _ (T22.setTop (mkF m 243 #[.val (.int (23 : Int32))] [(.ref (w 23))]))
    refine own_retA X22 hx hlk (t := (.object "com/example/ajenda/ajenda/port4730/PacketType")) hret rfl rfl (hb hby d1_243) ?_ (by decide) (by decide)
    exact ⟨congrArg (fun i => some (Value.ref (w i))) (by decide : 23 = (23 : Int32).toNatClampNeg), N0, e22⟩
  · show own_Go p e below s _ _ (s₁.setTop (mkF m 0 #[.val (.int (24 : Int32))] []))
    refine own_by (fun tz kz => XS.iloadN X0.here hx rfl (hb hby d1_0) rfl  kz) ?_
    show own_Go p e below s _ _ (s₁.setTop (mkF m 1 #[.val (.int (24 : Int32))] [(.int (24 : Int32))]))
    refine own_by (fun tz kz => XS.tswIn X0.here hx rfl (pc0 := 1) (pc' := 244) rfl (hb hby d1_1) rfl (by decide) (o := 243) (by decide) (by decide) (by decide) kz) ?_
    show own_Go p e below s _ _ (s₁.setTop (mkF m 244 #[.val (.int (24 : Int32))] []))
    obtain ⟨T23, X23, e23, st23⟩ := getS2 X0 hx hZ hown (host := "") (Or.inl (hw _ (List.mem_of_getElem? (i := 57) rfl))) Via.refl e0 S_24 (g := (mkF m 244 #[.val (.int (24 : Int32))] [])) rfl (hb hby d1_244)
    refine own_by st23 ?_
    show own_Go p e below s _ _ (T23.setTop (mkF m 247 #[.val (.int (24 : Int32))] [(.ref (w 24))]))
    refine own_retA X23 hx hlk (t := (.object "com/example/ajenda/ajenda/port4730/PacketType")) hret rfl rfl (hb hby d1_247) ?_ (by decide) (by decide)
    exact ⟨congrArg (fun i => some (Value.ref (w i))) (by decide : 24 = (24 : Int32).toNatClampNeg), N0, e23⟩
  · show own_Go p e below s _ _ (s₁.setTop (mkF m 0 #[.val (.int (25 : Int32))] []))
    refine own_by (fun tz kz => XS.iloadN X0.here hx rfl (hb hby d1_0) rfl  kz) ?_
    show own_Go p e below s _ _ (s₁.setTop (mkF m 1 #[.val (.int (25 : Int32))] [(.int (25 : Int32))]))
    refine own_by (fun tz kz => XS.tswIn X0.here hx rfl (pc0 := 1) (pc' := 248) rfl (hb hby d1_1) rfl (by decide) (o := 247) (by decide) (by decide) (by decide) kz) ?_
    show own_Go p e below s _ _ (s₁.setTop (mkF m 248 #[.val (.int (25 : Int32))] []))
    obtain ⟨T24, X24, e24, st24⟩ := getS2 X0 hx hZ hown (host := "") (Or.inl (hw _ (List.mem_of_getElem? (i := 73) rfl))) Via.refl e0 S_25 (g := (mkF m 248 #[.val (.int (25 : Int32))] [])) rfl (hb hby d1_248)
    refine own_by st24 ?_
    show own_Go p e below s _ _ (T24.setTop (mkF m 251 #[.val (.int (25 : Int32))] [(.ref (w 25))]))
    refine own_retA X24 hx hlk (t := (.object "com/example/ajenda/ajenda/port4730/PacketType")) hret rfl rfl (hb hby d1_251) ?_ (by decide) (by decide)
    exact ⟨congrArg (fun i => some (Value.ref (w i))) (by decide : 25 = (25 : Int32).toNatClampNeg), N0, e24⟩
  · show own_Go p e below s _ _ (s₁.setTop (mkF m 0 #[.val (.int (26 : Int32))] []))
    refine own_by (fun tz kz => XS.iloadN X0.here hx rfl (hb hby d1_0) rfl  kz) ?_
    show own_Go p e below s _ _ (s₁.setTop (mkF m 1 #[.val (.int (26 : Int32))] [(.int (26 : Int32))]))
    refine own_by (fun tz kz => XS.tswIn X0.here hx rfl (pc0 := 1) (pc' := 252) rfl (hb hby d1_1) rfl (by decide) (o := 251) (by decide) (by decide) (by decide) kz) ?_
    show own_Go p e below s _ _ (s₁.setTop (mkF m 252 #[.val (.int (26 : Int32))] []))
    obtain ⟨T25, X25, e25, st25⟩ := getS2 X0 hx hZ hown (host := "") (Or.inl (hw _ (List.mem_of_getElem? (i := 75) rfl))) Via.refl e0 S_26 (g := (mkF m 252 #[.val (.int (26 : Int32))] [])) rfl (hb hby d1_252)
    refine own_by st25 ?_
    show own_Go p e below s _ _ (T25.setTop (mkF m 255 #[.val (.int (26 : Int32))] [(.ref (w 26))]))
    refine own_retA X25 hx hlk (t := (.object "com/example/ajenda/ajenda/port4730/PacketType")) hret rfl rfl (hb hby d1_255) ?_ (by decide) (by decide)
    exact ⟨congrArg (fun i => some (Value.ref (w i))) (by decide : 26 = (26 : Int32).toNatClampNeg), N0, e25⟩
  · show own_Go p e below s _ _ (s₁.setTop (mkF m 0 #[.val (.int (27 : Int32))] []))
    refine own_by (fun tz kz => XS.iloadN X0.here hx rfl (hb hby d1_0) rfl  kz) ?_
    show own_Go p e below s _ _ (s₁.setTop (mkF m 1 #[.val (.int (27 : Int32))] [(.int (27 : Int32))]))
    refine own_by (fun tz kz => XS.tswIn X0.here hx rfl (pc0 := 1) (pc' := 256) rfl (hb hby d1_1) rfl (by decide) (o := 255) (by decide) (by decide) (by decide) kz) ?_
    show own_Go p e below s _ _ (s₁.setTop (mkF m 256 #[.val (.int (27 : Int32))] []))
    obtain ⟨T26, X26, e26, st26⟩ := getS2 X0 hx hZ hown (host := "") (Or.inl (hw _ (List.mem_of_getElem? (i := 79) rfl))) Via.refl e0 S_27 (g := (mkF m 256 #[.val (.int (27 : Int32))] [])) rfl (hb hby d1_256)
    refine own_by st26 ?_
    show own_Go p e below s _ _ (T26.setTop (mkF m 259 #[.val (.int (27 : Int32))] [(.ref (w 27))]))
    refine own_retA X26 hx hlk (t := (.object "com/example/ajenda/ajenda/port4730/PacketType")) hret rfl rfl (hb hby d1_259) ?_ (by decide) (by decide)
    exact ⟨congrArg (fun i => some (Value.ref (w i))) (by decide : 27 = (27 : Int32).toNatClampNeg), N0, e26⟩
  · show own_Go p e below s _ _ (s₁.setTop (mkF m 0 #[.val (.int (28 : Int32))] []))
    refine own_by (fun tz kz => XS.iloadN X0.here hx rfl (hb hby d1_0) rfl  kz) ?_
    show own_Go p e below s _ _ (s₁.setTop (mkF m 1 #[.val (.int (28 : Int32))] [(.int (28 : Int32))]))
    refine own_by (fun tz kz => XS.tswIn X0.here hx rfl (pc0 := 1) (pc' := 260) rfl (hb hby d1_1) rfl (by decide) (o := 259) (by decide) (by decide) (by decide) kz) ?_
    show own_Go p e below s _ _ (s₁.setTop (mkF m 260 #[.val (.int (28 : Int32))] []))
    obtain ⟨T27, X27, e27, st27⟩ := getS2 X0 hx hZ hown (host := "") (Or.inl (hw _ (List.mem_of_getElem? (i := 85) rfl))) Via.refl e0 S_28 (g := (mkF m 260 #[.val (.int (28 : Int32))] [])) rfl (hb hby d1_260)
    refine own_by st27 ?_
    show own_Go p e below s _ _ (T27.setTop (mkF m 263 #[.val (.int (28 : Int32))] [(.ref (w 28))]))
    refine own_retA X27 hx hlk (t := (.object "com/example/ajenda/ajenda/port4730/PacketType")) hret rfl rfl (hb hby d1_263) ?_ (by decide) (by decide)
    exact ⟨congrArg (fun i => some (Value.ref (w i))) (by decide : 28 = (28 : Int32).toNatClampNeg), N0, e27⟩
  · show own_Go p e below s _ _ (s₁.setTop (mkF m 0 #[.val (.int (29 : Int32))] []))
    refine own_by (fun tz kz => XS.iloadN X0.here hx rfl (hb hby d1_0) rfl  kz) ?_
    show own_Go p e below s _ _ (s₁.setTop (mkF m 1 #[.val (.int (29 : Int32))] [(.int (29 : Int32))]))
    refine own_by (fun tz kz => XS.tswIn X0.here hx rfl (pc0 := 1) (pc' := 264) rfl (hb hby d1_1) rfl (by decide) (o := 263) (by decide) (by decide) (by decide) kz) ?_
    show own_Go p e below s _ _ (s₁.setTop (mkF m 264 #[.val (.int (29 : Int32))] []))
    obtain ⟨T28, X28, e28, st28⟩ := getS2 X0 hx hZ hown (host := "") (Or.inl (hw _ (List.mem_of_getElem? (i := 55) rfl))) Via.refl e0 S_29 (g := (mkF m 264 #[.val (.int (29 : Int32))] [])) rfl (hb hby d1_264)
    refine own_by st28 ?_
    show own_Go p e below s _ _ (T28.setTop (mkF m 267 #[.val (.int (29 : Int32))] [(.ref (w 29))]))
    refine own_retA X28 hx hlk (t := (.object "com/example/ajenda/ajenda/port4730/PacketType")) hret rfl rfl (hb hby d1_267) ?_ (by decide) (by decide)
    exact ⟨congrArg (fun i => some (Value.ref (w i))) (by decide : 29 = (29 : Int32).toNatClampNeg), N0, e28⟩
  · show own_Go p e below s _ _ (s₁.setTop (mkF m 0 #[.val (.int (30 : Int32))] []))
    refine own_by (fun tz kz => XS.iloadN X0.here hx rfl (hb hby d1_0) rfl  kz) ?_
    show own_Go p e below s _ _ (s₁.setTop (mkF m 1 #[.val (.int (30 : Int32))] [(.int (30 : Int32))]))
    refine own_by (fun tz kz => XS.tswIn X0.here hx rfl (pc0 := 1) (pc' := 268) rfl (hb hby d1_1) rfl (by decide) (o := 267) (by decide) (by decide) (by decide) kz) ?_
    show own_Go p e below s _ _ (s₁.setTop (mkF m 268 #[.val (.int (30 : Int32))] []))
    obtain ⟨T29, X29, e29, st29⟩ := getS2 X0 hx hZ hown (host := "") (Or.inl (hw _ (List.mem_of_getElem? (i := 87) rfl))) Via.refl e0 S_30 (g := (mkF m 268 #[.val (.int (30 : Int32))] [])) rfl (hb hby d1_268)
    refine own_by st29 ?_
    show own_Go p e below s _ _ (T29.setTop (mkF m 271 #[.val (.int (30 : Int32))] [(.ref (w 30))]))
    refine own_retA X29 hx hlk (t := (.object "com/example/ajenda/ajenda/port4730/PacketType")) hret rfl rfl (hb hby d1_271) ?_ (by decide) (by decide)
    exact ⟨congrArg (fun i => some (Value.ref (w i))) (by decide : 30 = (30 : Int32).toNatClampNeg), N0, e29⟩
  · show own_Go p e below s _ _ (s₁.setTop (mkF m 0 #[.val (.int (31 : Int32))] []))
    refine own_by (fun tz kz => XS.iloadN X0.here hx rfl (hb hby d1_0) rfl  kz) ?_
    show own_Go p e below s _ _ (s₁.setTop (mkF m 1 #[.val (.int (31 : Int32))] [(.int (31 : Int32))]))
    refine own_by (fun tz kz => XS.tswIn X0.here hx rfl (pc0 := 1) (pc' := 272) rfl (hb hby d1_1) rfl (by decide) (o := 271) (by decide) (by decide) (by decide) kz) ?_
    show own_Go p e below s _ _ (s₁.setTop (mkF m 272 #[.val (.int (31 : Int32))] []))
    obtain ⟨T30, X30, e30, st30⟩ := getS2 X0 hx hZ hown (host := "") (Or.inl (hw _ (List.mem_of_getElem? (i := 67) rfl))) Via.refl e0 S_31 (g := (mkF m 272 #[.val (.int (31 : Int32))] [])) rfl (hb hby d1_272)
    refine own_by st30 ?_
    show own_Go p e below s _ _ (T30.setTop (mkF m 275 #[.val (.int (31 : Int32))] [(.ref (w 31))]))
    refine own_retA X30 hx hlk (t := (.object "com/example/ajenda/ajenda/port4730/PacketType")) hret rfl rfl (hb hby d1_275) ?_ (by decide) (by decide)
    exact ⟨congrArg (fun i => some (Value.ref (w i))) (by decide : 31 = (31 : Int32).toNatClampNeg), N0, e30⟩
  · show own_Go p e below s _ _ (s₁.setTop (mkF m 0 #[.val (.int (32 : Int32))] []))
    refine own_by (fun tz kz => XS.iloadN X0.here hx rfl (hb hby d1_0) rfl  kz) ?_
    show own_Go p e below s _ _ (s₁.setTop (mkF m 1 #[.val (.int (32 : Int32))] [(.int (32 : Int32))]))
    refine own_by (fun tz kz => XS.tswIn X0.here hx rfl (pc0 := 1) (pc' := 276) rfl (hb hby d1_1) rfl (by decide) (o := 275) (by decide) (by decide) (by decide) kz) ?_
    show own_Go p e below s _ _ (s₁.setTop (mkF m 276 #[.val (.int (32 : Int32))] []))
    obtain ⟨T31, X31, e31, st31⟩ := getS2 X0 hx hZ hown (host := "") (Or.inl (hw _ (List.mem_of_getElem? (i := 81) rfl))) Via.refl e0 S_32 (g := (mkF m 276 #[.val (.int (32 : Int32))] [])) rfl (hb hby d1_276)
    refine own_by st31 ?_
    show own_Go p e below s _ _ (T31.setTop (mkF m 279 #[.val (.int (32 : Int32))] [(.ref (w 32))]))
    refine own_retA X31 hx hlk (t := (.object "com/example/ajenda/ajenda/port4730/PacketType")) hret rfl rfl (hb hby d1_279) ?_ (by decide) (by decide)
    exact ⟨congrArg (fun i => some (Value.ref (w i))) (by decide : 32 = (32 : Int32).toNatClampNeg), N0, e31⟩
  · show own_Go p e below s _ _ (s₁.setTop (mkF m 0 #[.val (.int (33 : Int32))] []))
    refine own_by (fun tz kz => XS.iloadN X0.here hx rfl (hb hby d1_0) rfl  kz) ?_
    show own_Go p e below s _ _ (s₁.setTop (mkF m 1 #[.val (.int (33 : Int32))] [(.int (33 : Int32))]))
    refine own_by (fun tz kz => XS.tswIn X0.here hx rfl (pc0 := 1) (pc' := 280) rfl (hb hby d1_1) rfl (by decide) (o := 279) (by decide) (by decide) (by decide) kz) ?_
    show own_Go p e below s _ _ (s₁.setTop (mkF m 280 #[.val (.int (33 : Int32))] []))
    obtain ⟨T32, X32, e32, st32⟩ := getS2 X0 hx hZ hown (host := "") (Or.inl (hw _ (List.mem_of_getElem? (i := 49) rfl))) Via.refl e0 S_33 (g := (mkF m 280 #[.val (.int (33 : Int32))] [])) rfl (hb hby d1_280)
    refine own_by st32 ?_
    show own_Go p e below s _ _ (T32.setTop (mkF m 283 #[.val (.int (33 : Int32))] [(.ref (w 33))]))
    refine own_retA X32 hx hlk (t := (.object "com/example/ajenda/ajenda/port4730/PacketType")) hret rfl rfl (hb hby d1_283) ?_ (by decide) (by decide)
    exact ⟨congrArg (fun i => some (Value.ref (w i))) (by decide : 33 = (33 : Int32).toNatClampNeg), N0, e32⟩
  · show own_Go p e below s _ _ (s₁.setTop (mkF m 0 #[.val (.int (34 : Int32))] []))
    refine own_by (fun tz kz => XS.iloadN X0.here hx rfl (hb hby d1_0) rfl  kz) ?_
    show own_Go p e below s _ _ (s₁.setTop (mkF m 1 #[.val (.int (34 : Int32))] [(.int (34 : Int32))]))
    refine own_by (fun tz kz => XS.tswIn X0.here hx rfl (pc0 := 1) (pc' := 284) rfl (hb hby d1_1) rfl (by decide) (o := 283) (by decide) (by decide) (by decide) kz) ?_
    show own_Go p e below s _ _ (s₁.setTop (mkF m 284 #[.val (.int (34 : Int32))] []))
    obtain ⟨T33, X33, e33, st33⟩ := getS2 X0 hx hZ hown (host := "") (Or.inl (hw _ (List.mem_of_getElem? (i := 89) rfl))) Via.refl e0 S_34 (g := (mkF m 284 #[.val (.int (34 : Int32))] [])) rfl (hb hby d1_284)
    refine own_by st33 ?_
    show own_Go p e below s _ _ (T33.setTop (mkF m 287 #[.val (.int (34 : Int32))] [(.ref (w 34))]))
    refine own_retA X33 hx hlk (t := (.object "com/example/ajenda/ajenda/port4730/PacketType")) hret rfl rfl (hb hby d1_287) ?_ (by decide) (by decide)
    exact ⟨congrArg (fun i => some (Value.ref (w i))) (by decide : 34 = (34 : Int32).toNatClampNeg), N0, e33⟩
  · show own_Go p e below s _ _ (s₁.setTop (mkF m 0 #[.val (.int (35 : Int32))] []))
    refine own_by (fun tz kz => XS.iloadN X0.here hx rfl (hb hby d1_0) rfl  kz) ?_
    show own_Go p e below s _ _ (s₁.setTop (mkF m 1 #[.val (.int (35 : Int32))] [(.int (35 : Int32))]))
    refine own_by (fun tz kz => XS.tswIn X0.here hx rfl (pc0 := 1) (pc' := 288) rfl (hb hby d1_1) rfl (by decide) (o := 287) (by decide) (by decide) (by decide) kz) ?_
    show own_Go p e below s _ _ (s₁.setTop (mkF m 288 #[.val (.int (35 : Int32))] []))
    obtain ⟨T34, X34, e34, st34⟩ := getS2 X0 hx hZ hown (host := "") (Or.inl (hw _ (List.mem_of_getElem? (i := 71) rfl))) Via.refl e0 S_35 (g := (mkF m 288 #[.val (.int (35 : Int32))] [])) rfl (hb hby d1_288)
    refine own_by st34 ?_
    show own_Go p e below s _ _ (T34.setTop (mkF m 291 #[.val (.int (35 : Int32))] [(.ref (w 35))]))
    refine own_retA X34 hx hlk (t := (.object "com/example/ajenda/ajenda/port4730/PacketType")) hret rfl rfl (hb hby d1_291) ?_ (by decide) (by decide)
    exact ⟨congrArg (fun i => some (Value.ref (w i))) (by decide : 35 = (35 : Int32).toNatClampNeg), N0, e34⟩
  · show own_Go p e below s _ _ (s₁.setTop (mkF m 0 #[.val (.int (36 : Int32))] []))
    refine own_by (fun tz kz => XS.iloadN X0.here hx rfl (hb hby d1_0) rfl  kz) ?_
    show own_Go p e below s _ _ (s₁.setTop (mkF m 1 #[.val (.int (36 : Int32))] [(.int (36 : Int32))]))
    refine own_by (fun tz kz => XS.tswOut X0.here hx rfl (pc0 := 1) (pc' := 292) rfl (hb hby d1_1) rfl (by decide) (by decide) (by decide) kz) ?_
    show own_Go p e below s _ _ (s₁.setTop (mkF m 292 #[.val (.int (36 : Int32))] []))
    obtain ⟨T35, X35, e35, st35⟩ := getS2 X0 hx hZ hown (host := "") (Or.inl (hw _ (List.mem_of_getElem? (i := 83) rfl))) Via.refl e0 S_36 (g := (mkF m 292 #[.val (.int (36 : Int32))] [])) rfl (hb hby d1_292)
    refine own_by st35 ?_
    show own_Go p e below s _ _ (T35.setTop (mkF m 295 #[.val (.int (36 : Int32))] [(.ref (w 36))]))
    refine own_retA X35 hx hlk (t := (.object "com/example/ajenda/ajenda/port4730/PacketType")) hret rfl rfl (hb hby d1_295) ?_ (by decide) (by decide)
    exact ⟨congrArg (fun i => some (Value.ref (w i))) (by decide : 36 = (36 : Int32).toNatClampNeg), N0, e35⟩
def Q_rm_resp (Z : State) (a d wR : Addr) (r : Int32) (h0 : Heap) (n0 : Nat) (v : Option Value) (h : Heap) (L : List Loc) : Prop := v = some (.int r) ∧ Fr n0 L ∧ h = h0
set_option maxRecDepth 65536 in
set_option maxHeartbeats 40000000 in
theorem rm_resp (l : Launch) (Z : State) (a0 : Array Value) (hw : ∀ d ∈ tables_1, d.before a0 Z = true) (ws : List Jvm.Cond) (a d wR : Addr) (r : Int32) (h0 : Heap) (n0 : Nat) (S_R : Sta Z h0 "com/example/ajenda/ajenda/port4730/PacketType$Direction" "REQUEST" "Lcom/example/ajenda/ajenda/port4730/PacketType$Direction;" (.ref wR)) (F : Fld Z h0 a "com/example/ajenda/ajenda/port4730/PacketType" "direction" "Lcom/example/ajenda/ajenda/port4730/PacketType$Direction;" (.ref d)) (hr : r = if d = wR then (0 : Int32) else (1 : Int32)) :
    MetFree l (⟨"com/example/ajenda/ajenda/port4730/PacketType", "isResponse", "()Z"⟩ : MethodName) (head1 (Jvm.Cond.code (⟨"com/example/ajenda/ajenda/port4730/PacketType", "isResponse", "()Z"⟩ : MethodName) prog_19_method_9_code 1 (some .boolean) :: ws) ({ frames := 0, cells := 0, slots := 0, locals := 0 } : Room)) (fun ar U => ar = #[(.ref a)] ∧ Z.Warmed39 U.vm ∧ U.heap = h0) (fun _ _ _ _ _ => True) (fun _ U o U' => ∃ v L, o = .returned v ∧ Q_rm_resp Z a d wR r h0 n0 v U'.heap L ∧ FrameEnd U o U' L ({ frames := 0, cells := 0, slots := 0, locals := 0 } : Room).cells ({ frames := 0, cells := 0, slots := 0, locals := 0 } : Room).slots) := by
  refine own_enter (Q := (Q_rm_resp Z a d wR r h0 n0)) pl_2 ?_
  intro p e s m below meth c s₁ X0 hx hZ hby hml hown hnm hret hlk e0
  have N0 := Fr.nil n0
  refine own_by (fun tz kz => castTop (g' := (mkF m 0 #[.val (.ref a)] [])) (by first | rfl | (simp [entryFrame, mkF, argsToLocals, Value.category]; done)) kz) ?_
  show own_Go p e below s _ _ (s₁.setTop (mkF m 0 #[.val (.ref a)] []))
  refine own_by (fun tz kz => XS.aloadN X0.here hx rfl (hb hby d2_0) rfl rfl kz) ?_
  show own_Go p e below s _ _ (s₁.setTop (mkF m 1 #[.val (.ref a)] [(.ref a)]))
  obtain ⟨T1, X1, e1, st1⟩ := getF X0 hx hZ hown (host := "") (Or.inl (hw _ (List.mem_of_getElem? (i := 13) rfl))) Via.refl e0 F (g := (mkF m 1 #[.val (.ref a)] [(.ref a)])) rfl rfl (hb hby d2_1)
  refine own_by st1 ?_
  show own_Go p e below s _ _ (T1.setTop (mkF m 4 #[.val (.ref a)] [(.ref d)]))
  obtain ⟨T2, X2, e2, st2⟩ := getS2 X1 hx hZ hown (host := "") (Or.inl (hw _ (List.mem_of_getElem? (i := 17) rfl))) Via.refl e1 S_R (g := (mkF m 4 #[.val (.ref a)] [(.ref d)])) rfl (hb hby d2_4)
  refine own_by st2 ?_
  show own_Go p e below s _ _ (T2.setTop (mkF m 7 #[.val (.ref a)] [(.ref wR), (.ref d)]))
  by_cases hc7_3 : d = wR
  · refine own_by (fun tz kz => Jvm.RoadKit.acmp (g := (mkF m 7 #[.val (.ref a)] [(.ref wR), (.ref d)])) X2 hx rfl rfl rfl (pc0 := 7) (pc' := 14) (same := true) rfl (hb hby d2_7) rfl (decide_eq_true (congrArg Value.ref hc7_3)) (by decide) (by decide) kz) ?_
    show own_Go p e below s _ _ (T2.setTop (mkF m 14 #[.val (.ref a)] []))
    refine own_by (fun tz kz => XS.iconst X2.here hx rfl (hb hby d2_14) kz) ?_
    show own_Go p e below s _ _ (T2.setTop (mkF m 15 #[.val (.ref a)] [(.int (0 : Int32))]))
    refine own_retI X2 hx hlk (t := .boolean) hret (by simp) rfl (hb hby d2_15) ?_ (by decide) (by decide)
    exact ⟨by simp [hr, hc7_3], N0, e2⟩
  · refine own_by (fun tz kz => Jvm.RoadKit.acmp (g := (mkF m 7 #[.val (.ref a)] [(.ref wR), (.ref d)])) X2 hx rfl rfl rfl (pc0 := 7) (pc' := 10) (same := false) rfl (hb hby d2_7) rfl (decide_eq_false fun q => hc7_3 (Value.ref.inj q)) (by decide) (by decide) kz) ?_
    show own_Go p e below s _ _ (T2.setTop (mkF m 10 #[.val (.ref a)] []))
    refine own_by (fun tz kz => XS.iconst X2.here hx rfl (hb hby d2_10) kz) ?_
    show own_Go p e below s _ _ (T2.setTop (mkF m 11 #[.val (.ref a)] [(.int (1 : Int32))]))
    refine own_by (fun tz kz => XS.goto X2.here hx rfl (pc0 := 11) (pc' := 15) rfl (hb hby d2_11) (by decide) (by decide) kz) ?_
    show own_Go p e below s _ _ (T2.setTop (mkF m 15 #[.val (.ref a)] [(.int (1 : Int32))]))
    refine own_retI X2 hx hlk (t := .boolean) hret (by simp) rfl (hb hby d2_15) ?_ (by decide) (by decide)
    exact ⟨by simp [hr, hc7_3], N0, e2⟩
def Q_rm_sms (Z : State) (n : Int32) (h0 : Heap) (n0 : Nat) (v : Option Value) (h : Heap) (L : List Loc) : Prop := v = some (.int (own_sms n)) ∧ Fr n0 L ∧ h = h0
set_option maxRecDepth 65536 in
set_option maxHeartbeats 40000000 in
theorem rm_sms (l : Launch) (Z : State) (a0 : Array Value) (hw : ∀ d ∈ tables_1, d.before a0 Z = true) (ws : List Jvm.Cond) (n : Int32) (h0 : Heap) (n0 : Nat)  :
    MetFree l (⟨"com/example/ajenda/ajenda/port4730/PacketTypeIsResponsePinLaw", "serverMaySend", "(I)Z"⟩ : MethodName) (head1 (Jvm.Cond.code (⟨"com/example/ajenda/ajenda/port4730/PacketTypeIsResponsePinLaw", "serverMaySend", "(I)Z"⟩ : MethodName) method_3_code 1 (some .boolean) :: ws) ({ frames := 0, cells := 0, slots := 0, locals := 0 } : Room)) (fun ar U => ar = #[(.int n)] ∧ Z.Warmed39 U.vm ∧ U.heap = h0) (fun _ _ _ _ _ => True) (fun _ U o U' => ∃ v L, o = .returned v ∧ Q_rm_sms Z n h0 n0 v U'.heap L ∧ FrameEnd U o U' L ({ frames := 0, cells := 0, slots := 0, locals := 0 } : Room).cells ({ frames := 0, cells := 0, slots := 0, locals := 0 } : Room).slots) := by
  refine own_enter (Q := (Q_rm_sms Z n h0 n0)) pl_3 ?_
  intro p e s m below meth c s₁ X0 hx hZ hby hml hown hnm hret hlk e0
  have N0 := Fr.nil n0
  refine own_by (fun tz kz => castTop (g' := (mkF m 0 #[.val (.int n)] [])) (by first | rfl | (simp [entryFrame, mkF, argsToLocals, Value.category]; done)) kz) ?_
  show own_Go p e below s _ _ (s₁.setTop (mkF m 0 #[.val (.int n)] []))
  refine own_by (fun tz kz => XS.iloadN X0.here hx rfl (hb hby d3_0) rfl  kz) ?_
  show own_Go p e below s _ _ (s₁.setTop (mkF m 1 #[.val (.int n)] [(.int n)]))
  refine own_by (fun tz kz => XS.bipush X0.here hx rfl (hb hby d3_1) kz) ?_
  show own_Go p e below s _ _ (s₁.setTop (mkF m 3 #[.val (.int n)] [(.int (6 : Int32)), (.int n)]))
  by_cases hc3_1 : n = (6 : Int32)
  · refine own_by (fun tz kz => XS.icmpYes X0.here hx rfl (pc0 := 3) (pc' := 24) rfl (hb hby d3_3) rfl (teq hc3_1).1 (by decide) (by decide) kz) ?_
    show own_Go p e below s _ _ (s₁.setTop (mkF m 24 #[.val (.int n)] []))
    refine own_by (fun tz kz => XS.iconst X0.here hx rfl (hb hby d3_24) kz) ?_
    show own_Go p e below s _ _ (s₁.setTop (mkF m 25 #[.val (.int n)] [(.int (1 : Int32))]))
    refine own_retI X0 hx hlk (t := .boolean) hret (by simp) rfl (hb hby d3_25) ?_ (by decide) (by decide)
    exact ⟨by rw [own_sms, if_pos (Or.inl hc3_1)], N0, e0⟩
  · refine own_by (fun tz kz => XS.icmpNo X0.here hx rfl (hb hby d3_3) rfl (feq hc3_1).1 kz) ?_
    show own_Go p e below s _ _ (s₁.setTop (mkF m 6 #[.val (.int n)] []))
    refine own_by (fun tz kz => XS.iloadN X0.here hx rfl (hb hby d3_6) rfl  kz) ?_
    show own_Go p e below s _ _ (s₁.setTop (mkF m 7 #[.val (.int n)] [(.int n)]))
    refine own_by (fun tz kz => XS.bipush X0.here hx rfl (hb hby d3_7) kz) ?_
    show own_Go p e below s _ _ (s₁.setTop (mkF m 9 #[.val (.int n)] [(.int (8 : Int32)), (.int n)]))
    by_cases hc9_2 : n = (8 : Int32)
    · refine own_by (fun tz kz => XS.icmpYes X0.here hx rfl (pc0 := 9) (pc' := 24) rfl (hb hby d3_9) rfl (teq hc9_2).1 (by decide) (by decide) kz) ?_
      show own_Go p e below s _ _ (s₁.setTop (mkF m 24 #[.val (.int n)] []))
      refine own_by (fun tz kz => XS.iconst X0.here hx rfl (hb hby d3_24) kz) ?_
      show own_Go p e below s _ _ (s₁.setTop (mkF m 25 #[.val (.int n)] [(.int (1 : Int32))]))
      refine own_retI X0 hx hlk (t := .boolean) hret (by simp) rfl (hb hby d3_25) ?_ (by decide) (by decide)
      exact ⟨by rw [own_sms, if_pos (Or.inr (Or.inl hc9_2))], N0, e0⟩
    · refine own_by (fun tz kz => XS.icmpNo X0.here hx rfl (hb hby d3_9) rfl (feq hc9_2).1 kz) ?_
      show own_Go p e below s _ _ (s₁.setTop (mkF m 12 #[.val (.int n)] []))
      refine own_by (fun tz kz => XS.iloadN X0.here hx rfl (hb hby d3_12) rfl  kz) ?_
      show own_Go p e below s _ _ (s₁.setTop (mkF m 13 #[.val (.int n)] [(.int n)]))
      refine own_by (fun tz kz => XS.bipush X0.here hx rfl (hb hby d3_13) kz) ?_
      show own_Go p e below s _ _ (s₁.setTop (mkF m 15 #[.val (.int n)] [(.int (10 : Int32)), (.int n)]))
      by_cases hc15_3 : n = (10 : Int32)
      · refine own_by (fun tz kz => XS.icmpYes X0.here hx rfl (pc0 := 15) (pc' := 24) rfl (hb hby d3_15) rfl (teq hc15_3).1 (by decide) (by decide) kz) ?_
        show own_Go p e below s _ _ (s₁.setTop (mkF m 24 #[.val (.int n)] []))
        refine own_by (fun tz kz => XS.iconst X0.here hx rfl (hb hby d3_24) kz) ?_
        show own_Go p e below s _ _ (s₁.setTop (mkF m 25 #[.val (.int n)] [(.int (1 : Int32))]))
        refine own_retI X0 hx hlk (t := .boolean) hret (by simp) rfl (hb hby d3_25) ?_ (by decide) (by decide)
        exact ⟨by rw [own_sms, if_pos (Or.inr (Or.inr (Or.inl hc15_3)))], N0, e0⟩
      · refine own_by (fun tz kz => XS.icmpNo X0.here hx rfl (hb hby d3_15) rfl (feq hc15_3).1 kz) ?_
        show own_Go p e below s _ _ (s₁.setTop (mkF m 18 #[.val (.int n)] []))
        refine own_by (fun tz kz => XS.iloadN X0.here hx rfl (hb hby d3_18) rfl  kz) ?_
        show own_Go p e below s _ _ (s₁.setTop (mkF m 19 #[.val (.int n)] [(.int n)]))
        refine own_by (fun tz kz => XS.bipush X0.here hx rfl (hb hby d3_19) kz) ?_
        show own_Go p e below s _ _ (s₁.setTop (mkF m 21 #[.val (.int n)] [(.int (11 : Int32)), (.int n)]))
        by_cases hc21_4 : n = (11 : Int32)
        · refine own_by (fun tz kz => XS.icmpNo X0.here hx rfl (hb hby d3_21) rfl (teq hc21_4).2 kz) ?_
          show own_Go p e below s _ _ (s₁.setTop (mkF m 24 #[.val (.int n)] []))
          refine own_by (fun tz kz => XS.iconst X0.here hx rfl (hb hby d3_24) kz) ?_
          show own_Go p e below s _ _ (s₁.setTop (mkF m 25 #[.val (.int n)] [(.int (1 : Int32))]))
          refine own_retI X0 hx hlk (t := .boolean) hret (by simp) rfl (hb hby d3_25) ?_ (by decide) (by decide)
          exact ⟨by rw [own_sms, if_pos (Or.inr (Or.inr (Or.inr (Or.inl hc21_4))))], N0, e0⟩
        · refine own_by (fun tz kz => XS.icmpYes X0.here hx rfl (pc0 := 21) (pc' := 26) rfl (hb hby d3_21) rfl (feq hc21_4).2 (by decide) (by decide) kz) ?_
          show own_Go p e below s _ _ (s₁.setTop (mkF m 26 #[.val (.int n)] []))
          refine own_by (fun tz kz => XS.iloadN X0.here hx rfl (hb hby d3_26) rfl  kz) ?_
          show own_Go p e below s _ _ (s₁.setTop (mkF m 27 #[.val (.int n)] [(.int n)]))
          refine own_by (fun tz kz => XS.bipush X0.here hx rfl (hb hby d3_27) kz) ?_
          show own_Go p e below s _ _ (s₁.setTop (mkF m 29 #[.val (.int n)] [(.int (12 : Int32)), (.int n)]))
          by_cases hc29_5 : n < (12 : Int32)
          · refine own_by (fun tz kz => XS.icmpYes X0.here hx rfl (pc0 := 29) (pc' := 40) rfl (hb hby d3_29) rfl (tlt hc29_5).1 (by decide) (by decide) kz) ?_
            show own_Go p e below s _ _ (s₁.setTop (mkF m 40 #[.val (.int n)] []))
            refine own_by (fun tz kz => XS.iloadN X0.here hx rfl (hb hby d3_40) rfl  kz) ?_
            show own_Go p e below s _ _ (s₁.setTop (mkF m 41 #[.val (.int n)] [(.int n)]))
            refine own_by (fun tz kz => XS.bipush X0.here hx rfl (hb hby d3_41) kz) ?_
            show own_Go p e below s _ _ (s₁.setTop (mkF m 43 #[.val (.int n)] [(.int (17 : Int32)), (.int n)]))
            by_cases hc43_6 : n = (17 : Int32)
            · refine own_by (fun tz kz => XS.icmpYes X0.here hx rfl (pc0 := 43) (pc' := 64) rfl (hb hby d3_43) rfl (teq hc43_6).1 (by decide) (by decide) kz) ?_
              show own_Go p e below s _ _ (s₁.setTop (mkF m 64 #[.val (.int n)] []))
              refine own_by (fun tz kz => XS.iconst X0.here hx rfl (hb hby d3_64) kz) ?_
              show own_Go p e below s _ _ (s₁.setTop (mkF m 65 #[.val (.int n)] [(.int (1 : Int32))]))
              refine own_retI X0 hx hlk (t := .boolean) hret (by simp) rfl (hb hby d3_65) ?_ (by decide) (by decide)
              exact ⟨by rw [own_sms, if_pos (Or.inr (Or.inr (Or.inr (Or.inr (Or.inr (Or.inl hc43_6))))))], N0, e0⟩
            · refine own_by (fun tz kz => XS.icmpNo X0.here hx rfl (hb hby d3_43) rfl (feq hc43_6).1 kz) ?_
              show own_Go p e below s _ _ (s₁.setTop (mkF m 46 #[.val (.int n)] []))
              refine own_by (fun tz kz => XS.iloadN X0.here hx rfl (hb hby d3_46) rfl  kz) ?_
              show own_Go p e below s _ _ (s₁.setTop (mkF m 47 #[.val (.int n)] [(.int n)]))
              refine own_by (fun tz kz => XS.bipush X0.here hx rfl (hb hby d3_47) kz) ?_
              show own_Go p e below s _ _ (s₁.setTop (mkF m 49 #[.val (.int n)] [(.int (19 : Int32)), (.int n)]))
              by_cases hc49_7 : n = (19 : Int32)
              · refine own_by (fun tz kz => XS.icmpYes X0.here hx rfl (pc0 := 49) (pc' := 64) rfl (hb hby d3_49) rfl (teq hc49_7).1 (by decide) (by decide) kz) ?_
                show own_Go p e below s _ _ (s₁.setTop (mkF m 64 #[.val (.int n)] []))
                refine own_by (fun tz kz => XS.iconst X0.here hx rfl (hb hby d3_64) kz) ?_
                show own_Go p e below s _ _ (s₁.setTop (mkF m 65 #[.val (.int n)] [(.int (1 : Int32))]))
                refine own_retI X0 hx hlk (t := .boolean) hret (by simp) rfl (hb hby d3_65) ?_ (by decide) (by decide)
                exact ⟨by rw [own_sms, if_pos (Or.inr (Or.inr (Or.inr (Or.inr (Or.inr (Or.inr (Or.inl hc49_7)))))))], N0, e0⟩
              · refine own_by (fun tz kz => XS.icmpNo X0.here hx rfl (hb hby d3_49) rfl (feq hc49_7).1 kz) ?_
                show own_Go p e below s _ _ (s₁.setTop (mkF m 52 #[.val (.int n)] []))
                refine own_by (fun tz kz => XS.iloadN X0.here hx rfl (hb hby d3_52) rfl  kz) ?_
                show own_Go p e below s _ _ (s₁.setTop (mkF m 53 #[.val (.int n)] [(.int n)]))
                refine own_by (fun tz kz => XS.bipush X0.here hx rfl (hb hby d3_53) kz) ?_
                show own_Go p e below s _ _ (s₁.setTop (mkF m 55 #[.val (.int n)] [(.int (20 : Int32)), (.int n)]))
                by_cases hc55_8 : n = (20 : Int32)
                · refine own_by (fun tz kz => XS.icmpYes X0.here hx rfl (pc0 := 55) (pc' := 64) rfl (hb hby d3_55) rfl (teq hc55_8).1 (by decide) (by decide) kz) ?_
                  show own_Go p e below s _ _ (s₁.setTop (mkF m 64 #[.val (.int n)] []))
                  refine own_by (fun tz kz => XS.iconst X0.here hx rfl (hb hby d3_64) kz) ?_
                  show own_Go p e below s _ _ (s₁.setTop (mkF m 65 #[.val (.int n)] [(.int (1 : Int32))]))
                  refine own_retI X0 hx hlk (t := .boolean) hret (by simp) rfl (hb hby d3_65) ?_ (by decide) (by decide)
                  exact ⟨by rw [own_sms, if_pos (Or.inr (Or.inr (Or.inr (Or.inr (Or.inr (Or.inr (Or.inr (Or.inl hc55_8))))))))], N0, e0⟩
                · refine own_by (fun tz kz => XS.icmpNo X0.here hx rfl (hb hby d3_55) rfl (feq hc55_8).1 kz) ?_
                  show own_Go p e below s _ _ (s₁.setTop (mkF m 58 #[.val (.int n)] []))
                  refine own_by (fun tz kz => XS.iloadN X0.here hx rfl (hb hby d3_58) rfl  kz) ?_
                  show own_Go p e below s _ _ (s₁.setTop (mkF m 59 #[.val (.int n)] [(.int n)]))
                  refine own_by (fun tz kz => XS.bipush X0.here hx rfl (hb hby d3_59) kz) ?_
                  show own_Go p e below s _ _ (s₁.setTop (mkF m 61 #[.val (.int n)] [(.int (25 : Int32)), (.int n)]))
                  by_cases hc61_9 : n = (25 : Int32)
                  · refine own_by (fun tz kz => XS.icmpNo X0.here hx rfl (hb hby d3_61) rfl (teq hc61_9).2 kz) ?_
                    show own_Go p e below s _ _ (s₁.setTop (mkF m 64 #[.val (.int n)] []))
                    refine own_by (fun tz kz => XS.iconst X0.here hx rfl (hb hby d3_64) kz) ?_
                    show own_Go p e below s _ _ (s₁.setTop (mkF m 65 #[.val (.int n)] [(.int (1 : Int32))]))
                    refine own_retI X0 hx hlk (t := .boolean) hret (by simp) rfl (hb hby d3_65) ?_ (by decide) (by decide)
                    exact ⟨by rw [own_sms, if_pos (Or.inr (Or.inr (Or.inr (Or.inr (Or.inr (Or.inr (Or.inr (Or.inr (Or.inl hc61_9)))))))))], N0, e0⟩
                  · refine own_by (fun tz kz => XS.icmpYes X0.here hx rfl (pc0 := 61) (pc' := 66) rfl (hb hby d3_61) rfl (feq hc61_9).2 (by decide) (by decide) kz) ?_
                    show own_Go p e below s _ _ (s₁.setTop (mkF m 66 #[.val (.int n)] []))
                    refine own_by (fun tz kz => XS.iloadN X0.here hx rfl (hb hby d3_66) rfl  kz) ?_
                    show own_Go p e below s _ _ (s₁.setTop (mkF m 67 #[.val (.int n)] [(.int n)]))
                    refine own_by (fun tz kz => XS.bipush X0.here hx rfl (hb hby d3_67) kz) ?_
                    show own_Go p e below s _ _ (s₁.setTop (mkF m 69 #[.val (.int n)] [(.int (27 : Int32)), (.int n)]))
                    by_cases hc69_10 : n < (27 : Int32)
                    · refine own_by (fun tz kz => XS.icmpYes X0.here hx rfl (pc0 := 69) (pc' := 80) rfl (hb hby d3_69) rfl (tlt hc69_10).1 (by decide) (by decide) kz) ?_
                      show own_Go p e below s _ _ (s₁.setTop (mkF m 80 #[.val (.int n)] []))
                      refine own_by (fun tz kz => XS.iloadN X0.here hx rfl (hb hby d3_80) rfl  kz) ?_
                      show own_Go p e below s _ _ (s₁.setTop (mkF m 81 #[.val (.int n)] [(.int n)]))
                      refine own_by (fun tz kz => XS.bipush X0.here hx rfl (hb hby d3_81) kz) ?_
                      show own_Go p e below s _ _ (s₁.setTop (mkF m 83 #[.val (.int n)] [(.int (31 : Int32)), (.int n)]))
                      by_cases hc83_11 : n = (31 : Int32)
                      · refine own_by (fun tz kz => XS.icmpNo X0.here hx rfl (hb hby d3_83) rfl (teq hc83_11).2 kz) ?_
                        show own_Go p e below s _ _ (s₁.setTop (mkF m 86 #[.val (.int n)] []))
                        refine own_by (fun tz kz => XS.iconst X0.here hx rfl (hb hby d3_86) kz) ?_
                        show own_Go p e below s _ _ (s₁.setTop (mkF m 87 #[.val (.int n)] [(.int (1 : Int32))]))
                        refine own_by (fun tz kz => XS.goto X0.here hx rfl (pc0 := 87) (pc' := 91) rfl (hb hby d3_87) (by decide) (by decide) kz) ?_
                        show own_Go p e below s _ _ (s₁.setTop (mkF m 91 #[.val (.int n)] [(.int (1 : Int32))]))
                        refine own_retI X0 hx hlk (t := .boolean) hret (by simp) rfl (hb hby d3_91) ?_ (by decide) (by decide)
                        exact ⟨by rw [own_sms, if_pos (Or.inr (Or.inr (Or.inr (Or.inr (Or.inr (Or.inr (Or.inr (Or.inr (Or.inr (Or.inr hc83_11))))))))))], N0, e0⟩
                      · refine own_by (fun tz kz => XS.icmpYes X0.here hx rfl (pc0 := 83) (pc' := 90) rfl (hb hby d3_83) rfl (feq hc83_11).2 (by decide) (by decide) kz) ?_
                        show own_Go p e below s _ _ (s₁.setTop (mkF m 90 #[.val (.int n)] []))
                        refine own_by (fun tz kz => XS.iconst X0.here hx rfl (hb hby d3_90) kz) ?_
                        show own_Go p e below s _ _ (s₁.setTop (mkF m 91 #[.val (.int n)] [(.int (0 : Int32))]))
                        refine own_retI X0 hx hlk (t := .boolean) hret (by simp) rfl (hb hby d3_91) ?_ (by decide) (by decide)
                        exact ⟨by rw [own_sms, if_neg (fun q => q.elim (fun q => hc3_1 q) (fun q => q.elim (fun q => hc9_2 q) (fun q => q.elim (fun q => hc15_3 q) (fun q => q.elim (fun q => hc21_4 q) (fun q => q.elim (fun q => q.1 hc29_5) (fun q => q.elim (fun q => hc43_6 q) (fun q => q.elim (fun q => hc49_7 q) (fun q => q.elim (fun q => hc55_8 q) (fun q => q.elim (fun q => hc61_9 q) (fun q => q.elim (fun q => q.1 hc69_10) (fun q => hc83_11 q)))))))))))], N0, e0⟩
                    · refine own_by (fun tz kz => XS.icmpNo X0.here hx rfl (hb hby d3_69) rfl (flt hc69_10).1 kz) ?_
                      show own_Go p e below s _ _ (s₁.setTop (mkF m 72 #[.val (.int n)] []))
                      refine own_by (fun tz kz => XS.iloadN X0.here hx rfl (hb hby d3_72) rfl  kz) ?_
                      show own_Go p e below s _ _ (s₁.setTop (mkF m 73 #[.val (.int n)] [(.int n)]))
                      refine own_by (fun tz kz => XS.bipush X0.here hx rfl (hb hby d3_73) kz) ?_
                      show own_Go p e below s _ _ (s₁.setTop (mkF m 75 #[.val (.int n)] [(.int (29 : Int32)), (.int n)]))
                      by_cases hc75_12 : (29 : Int32) < n
                      · refine own_by (fun tz kz => XS.icmpYes X0.here hx rfl (pc0 := 75) (pc' := 80) rfl (hb hby d3_75) rfl (tlt hc75_12).2.2.1 (by decide) (by decide) kz) ?_
                        show own_Go p e below s _ _ (s₁.setTop (mkF m 80 #[.val (.int n)] []))
                        refine own_by (fun tz kz => XS.iloadN X0.here hx rfl (hb hby d3_80) rfl  kz) ?_
                        show own_Go p e below s _ _ (s₁.setTop (mkF m 81 #[.val (.int n)] [(.int n)]))
                        refine own_by (fun tz kz => XS.bipush X0.here hx rfl (hb hby d3_81) kz) ?_
                        show own_Go p e below s _ _ (s₁.setTop (mkF m 83 #[.val (.int n)] [(.int (31 : Int32)), (.int n)]))
                        by_cases hc83_13 : n = (31 : Int32)
                        · refine own_by (fun tz kz => XS.icmpNo X0.here hx rfl (hb hby d3_83) rfl (teq hc83_13).2 kz) ?_
                          show own_Go p e below s _ _ (s₁.setTop (mkF m 86 #[.val (.int n)] []))
                          refine own_by (fun tz kz => XS.iconst X0.here hx rfl (hb hby d3_86) kz) ?_
                          show own_Go p e below s _ _ (s₁.setTop (mkF m 87 #[.val (.int n)] [(.int (1 : Int32))]))
                          refine own_by (fun tz kz => XS.goto X0.here hx rfl (pc0 := 87) (pc' := 91) rfl (hb hby d3_87) (by decide) (by decide) kz) ?_
                          show own_Go p e below s _ _ (s₁.setTop (mkF m 91 #[.val (.int n)] [(.int (1 : Int32))]))
                          refine own_retI X0 hx hlk (t := .boolean) hret (by simp) rfl (hb hby d3_91) ?_ (by decide) (by decide)
                          exact ⟨by rw [own_sms, if_pos (Or.inr (Or.inr (Or.inr (Or.inr (Or.inr (Or.inr (Or.inr (Or.inr (Or.inr (Or.inr hc83_13))))))))))], N0, e0⟩
                        · refine own_by (fun tz kz => XS.icmpYes X0.here hx rfl (pc0 := 83) (pc' := 90) rfl (hb hby d3_83) rfl (feq hc83_13).2 (by decide) (by decide) kz) ?_
                          show own_Go p e below s _ _ (s₁.setTop (mkF m 90 #[.val (.int n)] []))
                          refine own_by (fun tz kz => XS.iconst X0.here hx rfl (hb hby d3_90) kz) ?_
                          show own_Go p e below s _ _ (s₁.setTop (mkF m 91 #[.val (.int n)] [(.int (0 : Int32))]))
                          refine own_retI X0 hx hlk (t := .boolean) hret (by simp) rfl (hb hby d3_91) ?_ (by decide) (by decide)
                          exact ⟨by rw [own_sms, if_neg (fun q => q.elim (fun q => hc3_1 q) (fun q => q.elim (fun q => hc9_2 q) (fun q => q.elim (fun q => hc15_3 q) (fun q => q.elim (fun q => hc21_4 q) (fun q => q.elim (fun q => q.1 hc29_5) (fun q => q.elim (fun q => hc43_6 q) (fun q => q.elim (fun q => hc49_7 q) (fun q => q.elim (fun q => hc55_8 q) (fun q => q.elim (fun q => hc61_9 q) (fun q => q.elim (fun q => q.2 hc75_12) (fun q => hc83_13 q)))))))))))], N0, e0⟩
                      · refine own_by (fun tz kz => XS.icmpNo X0.here hx rfl (hb hby d3_75) rfl (flt hc75_12).2.2.1 kz) ?_
                        show own_Go p e below s _ _ (s₁.setTop (mkF m 78 #[.val (.int n)] []))
                        refine own_by (fun tz kz => XS.iconst X0.here hx rfl (hb hby d3_78) kz) ?_
                        show own_Go p e below s _ _ (s₁.setTop (mkF m 79 #[.val (.int n)] [(.int (1 : Int32))]))
                        refine own_retI X0 hx hlk (t := .boolean) hret (by simp) rfl (hb hby d3_79) ?_ (by decide) (by decide)
                        exact ⟨by rw [own_sms, if_pos (Or.inr (Or.inr (Or.inr (Or.inr (Or.inr (Or.inr (Or.inr (Or.inr (Or.inr (Or.inl ⟨hc69_10, hc75_12⟩))))))))))], N0, e0⟩
          · refine own_by (fun tz kz => XS.icmpNo X0.here hx rfl (hb hby d3_29) rfl (flt hc29_5).1 kz) ?_
            show own_Go p e below s _ _ (s₁.setTop (mkF m 32 #[.val (.int n)] []))
            refine own_by (fun tz kz => XS.iloadN X0.here hx rfl (hb hby d3_32) rfl  kz) ?_
            show own_Go p e below s _ _ (s₁.setTop (mkF m 33 #[.val (.int n)] [(.int n)]))
            refine own_by (fun tz kz => XS.bipush X0.here hx rfl (hb hby d3_33) kz) ?_
            show own_Go p e below s _ _ (s₁.setTop (mkF m 35 #[.val (.int n)] [(.int (14 : Int32)), (.int n)]))
            by_cases hc35_14 : (14 : Int32) < n
            · refine own_by (fun tz kz => XS.icmpYes X0.here hx rfl (pc0 := 35) (pc' := 40) rfl (hb hby d3_35) rfl (tlt hc35_14).2.2.1 (by decide) (by decide) kz) ?_
              show own_Go p e below s _ _ (s₁.setTop (mkF m 40 #[.val (.int n)] []))
              refine own_by (fun tz kz => XS.iloadN X0.here hx rfl (hb hby d3_40) rfl  kz) ?_
              show own_Go p e below s _ _ (s₁.setTop (mkF m 41 #[.val (.int n)] [(.int n)]))
              refine own_by (fun tz kz => XS.bipush X0.here hx rfl (hb hby d3_41) kz) ?_
              show own_Go p e below s _ _ (s₁.setTop (mkF m 43 #[.val (.int n)] [(.int (17 : Int32)), (.int n)]))
              by_cases hc43_15 : n = (17 : Int32)
              · refine own_by (fun tz kz => XS.icmpYes X0.here hx rfl (pc0 := 43) (pc' := 64) rfl (hb hby d3_43) rfl (teq hc43_15).1 (by decide) (by decide) kz) ?_
                show own_Go p e below s _ _ (s₁.setTop (mkF m 64 #[.val (.int n)] []))
                refine own_by (fun tz kz => XS.iconst X0.here hx rfl (hb hby d3_64) kz) ?_
                show own_Go p e below s _ _ (s₁.setTop (mkF m 65 #[.val (.int n)] [(.int (1 : Int32))]))
                refine own_retI X0 hx hlk (t := .boolean) hret (by simp) rfl (hb hby d3_65) ?_ (by decide) (by decide)
                exact ⟨by rw [own_sms, if_pos (Or.inr (Or.inr (Or.inr (Or.inr (Or.inr (Or.inl hc43_15))))))], N0, e0⟩
              · refine own_by (fun tz kz => XS.icmpNo X0.here hx rfl (hb hby d3_43) rfl (feq hc43_15).1 kz) ?_
                show own_Go p e below s _ _ (s₁.setTop (mkF m 46 #[.val (.int n)] []))
                refine own_by (fun tz kz => XS.iloadN X0.here hx rfl (hb hby d3_46) rfl  kz) ?_
                show own_Go p e below s _ _ (s₁.setTop (mkF m 47 #[.val (.int n)] [(.int n)]))
                refine own_by (fun tz kz => XS.bipush X0.here hx rfl (hb hby d3_47) kz) ?_
                show own_Go p e below s _ _ (s₁.setTop (mkF m 49 #[.val (.int n)] [(.int (19 : Int32)), (.int n)]))
                by_cases hc49_16 : n = (19 : Int32)
                · refine own_by (fun tz kz => XS.icmpYes X0.here hx rfl (pc0 := 49) (pc' := 64) rfl (hb hby d3_49) rfl (teq hc49_16).1 (by decide) (by decide) kz) ?_
                  show own_Go p e below s _ _ (s₁.setTop (mkF m 64 #[.val (.int n)] []))
                  refine own_by (fun tz kz => XS.iconst X0.here hx rfl (hb hby d3_64) kz) ?_
                  show own_Go p e below s _ _ (s₁.setTop (mkF m 65 #[.val (.int n)] [(.int (1 : Int32))]))
                  refine own_retI X0 hx hlk (t := .boolean) hret (by simp) rfl (hb hby d3_65) ?_ (by decide) (by decide)
                  exact ⟨by rw [own_sms, if_pos (Or.inr (Or.inr (Or.inr (Or.inr (Or.inr (Or.inr (Or.inl hc49_16)))))))], N0, e0⟩
                · refine own_by (fun tz kz => XS.icmpNo X0.here hx rfl (hb hby d3_49) rfl (feq hc49_16).1 kz) ?_
                  show own_Go p e below s _ _ (s₁.setTop (mkF m 52 #[.val (.int n)] []))
                  refine own_by (fun tz kz => XS.iloadN X0.here hx rfl (hb hby d3_52) rfl  kz) ?_
                  show own_Go p e below s _ _ (s₁.setTop (mkF m 53 #[.val (.int n)] [(.int n)]))
                  refine own_by (fun tz kz => XS.bipush X0.here hx rfl (hb hby d3_53) kz) ?_
                  show own_Go p e below s _ _ (s₁.setTop (mkF m 55 #[.val (.int n)] [(.int (20 : Int32)), (.int n)]))
                  by_cases hc55_17 : n = (20 : Int32)
                  · refine own_by (fun tz kz => XS.icmpYes X0.here hx rfl (pc0 := 55) (pc' := 64) rfl (hb hby d3_55) rfl (teq hc55_17).1 (by decide) (by decide) kz) ?_
                    show own_Go p e below s _ _ (s₁.setTop (mkF m 64 #[.val (.int n)] []))
                    refine own_by (fun tz kz => XS.iconst X0.here hx rfl (hb hby d3_64) kz) ?_
                    show own_Go p e below s _ _ (s₁.setTop (mkF m 65 #[.val (.int n)] [(.int (1 : Int32))]))
                    refine own_retI X0 hx hlk (t := .boolean) hret (by simp) rfl (hb hby d3_65) ?_ (by decide) (by decide)
                    exact ⟨by rw [own_sms, if_pos (Or.inr (Or.inr (Or.inr (Or.inr (Or.inr (Or.inr (Or.inr (Or.inl hc55_17))))))))], N0, e0⟩
                  · refine own_by (fun tz kz => XS.icmpNo X0.here hx rfl (hb hby d3_55) rfl (feq hc55_17).1 kz) ?_
                    show own_Go p e below s _ _ (s₁.setTop (mkF m 58 #[.val (.int n)] []))
                    refine own_by (fun tz kz => XS.iloadN X0.here hx rfl (hb hby d3_58) rfl  kz) ?_
                    show own_Go p e below s _ _ (s₁.setTop (mkF m 59 #[.val (.int n)] [(.int n)]))
                    refine own_by (fun tz kz => XS.bipush X0.here hx rfl (hb hby d3_59) kz) ?_
                    show own_Go p e below s _ _ (s₁.setTop (mkF m 61 #[.val (.int n)] [(.int (25 : Int32)), (.int n)]))
                    by_cases hc61_18 : n = (25 : Int32)
                    · refine own_by (fun tz kz => XS.icmpNo X0.here hx rfl (hb hby d3_61) rfl (teq hc61_18).2 kz) ?_
                      show own_Go p e below s _ _ (s₁.setTop (mkF m 64 #[.val (.int n)] []))
                      refine own_by (fun tz kz => XS.iconst X0.here hx rfl (hb hby d3_64) kz) ?_
                      show own_Go p e below s _ _ (s₁.setTop (mkF m 65 #[.val (.int n)] [(.int (1 : Int32))]))
                      refine own_retI X0 hx hlk (t := .boolean) hret (by simp) rfl (hb hby d3_65) ?_ (by decide) (by decide)
                      exact ⟨by rw [own_sms, if_pos (Or.inr (Or.inr (Or.inr (Or.inr (Or.inr (Or.inr (Or.inr (Or.inr (Or.inl hc61_18)))))))))], N0, e0⟩
                    · refine own_by (fun tz kz => XS.icmpYes X0.here hx rfl (pc0 := 61) (pc' := 66) rfl (hb hby d3_61) rfl (feq hc61_18).2 (by decide) (by decide) kz) ?_
                      show own_Go p e below s _ _ (s₁.setTop (mkF m 66 #[.val (.int n)] []))
                      refine own_by (fun tz kz => XS.iloadN X0.here hx rfl (hb hby d3_66) rfl  kz) ?_
                      show own_Go p e below s _ _ (s₁.setTop (mkF m 67 #[.val (.int n)] [(.int n)]))
                      refine own_by (fun tz kz => XS.bipush X0.here hx rfl (hb hby d3_67) kz) ?_
                      show own_Go p e below s _ _ (s₁.setTop (mkF m 69 #[.val (.int n)] [(.int (27 : Int32)), (.int n)]))
                      by_cases hc69_19 : n < (27 : Int32)
                      · refine own_by (fun tz kz => XS.icmpYes X0.here hx rfl (pc0 := 69) (pc' := 80) rfl (hb hby d3_69) rfl (tlt hc69_19).1 (by decide) (by decide) kz) ?_
                        show own_Go p e below s _ _ (s₁.setTop (mkF m 80 #[.val (.int n)] []))
                        refine own_by (fun tz kz => XS.iloadN X0.here hx rfl (hb hby d3_80) rfl  kz) ?_
                        show own_Go p e below s _ _ (s₁.setTop (mkF m 81 #[.val (.int n)] [(.int n)]))
                        refine own_by (fun tz kz => XS.bipush X0.here hx rfl (hb hby d3_81) kz) ?_
                        show own_Go p e below s _ _ (s₁.setTop (mkF m 83 #[.val (.int n)] [(.int (31 : Int32)), (.int n)]))
                        by_cases hc83_20 : n = (31 : Int32)
                        · refine own_by (fun tz kz => XS.icmpNo X0.here hx rfl (hb hby d3_83) rfl (teq hc83_20).2 kz) ?_
                          show own_Go p e below s _ _ (s₁.setTop (mkF m 86 #[.val (.int n)] []))
                          refine own_by (fun tz kz => XS.iconst X0.here hx rfl (hb hby d3_86) kz) ?_
                          show own_Go p e below s _ _ (s₁.setTop (mkF m 87 #[.val (.int n)] [(.int (1 : Int32))]))
                          refine own_by (fun tz kz => XS.goto X0.here hx rfl (pc0 := 87) (pc' := 91) rfl (hb hby d3_87) (by decide) (by decide) kz) ?_
                          show own_Go p e below s _ _ (s₁.setTop (mkF m 91 #[.val (.int n)] [(.int (1 : Int32))]))
                          refine own_retI X0 hx hlk (t := .boolean) hret (by simp) rfl (hb hby d3_91) ?_ (by decide) (by decide)
                          exact ⟨by rw [own_sms, if_pos (Or.inr (Or.inr (Or.inr (Or.inr (Or.inr (Or.inr (Or.inr (Or.inr (Or.inr (Or.inr hc83_20))))))))))], N0, e0⟩
                        · refine own_by (fun tz kz => XS.icmpYes X0.here hx rfl (pc0 := 83) (pc' := 90) rfl (hb hby d3_83) rfl (feq hc83_20).2 (by decide) (by decide) kz) ?_
                          show own_Go p e below s _ _ (s₁.setTop (mkF m 90 #[.val (.int n)] []))
                          refine own_by (fun tz kz => XS.iconst X0.here hx rfl (hb hby d3_90) kz) ?_
                          show own_Go p e below s _ _ (s₁.setTop (mkF m 91 #[.val (.int n)] [(.int (0 : Int32))]))
                          refine own_retI X0 hx hlk (t := .boolean) hret (by simp) rfl (hb hby d3_91) ?_ (by decide) (by decide)
                          exact ⟨by rw [own_sms, if_neg (fun q => q.elim (fun q => hc3_1 q) (fun q => q.elim (fun q => hc9_2 q) (fun q => q.elim (fun q => hc15_3 q) (fun q => q.elim (fun q => hc21_4 q) (fun q => q.elim (fun q => q.2 hc35_14) (fun q => q.elim (fun q => hc43_15 q) (fun q => q.elim (fun q => hc49_16 q) (fun q => q.elim (fun q => hc55_17 q) (fun q => q.elim (fun q => hc61_18 q) (fun q => q.elim (fun q => q.1 hc69_19) (fun q => hc83_20 q)))))))))))], N0, e0⟩
                      · refine own_by (fun tz kz => XS.icmpNo X0.here hx rfl (hb hby d3_69) rfl (flt hc69_19).1 kz) ?_
                        show own_Go p e below s _ _ (s₁.setTop (mkF m 72 #[.val (.int n)] []))
                        refine own_by (fun tz kz => XS.iloadN X0.here hx rfl (hb hby d3_72) rfl  kz) ?_
                        show own_Go p e below s _ _ (s₁.setTop (mkF m 73 #[.val (.int n)] [(.int n)]))
                        refine own_by (fun tz kz => XS.bipush X0.here hx rfl (hb hby d3_73) kz) ?_
                        show own_Go p e below s _ _ (s₁.setTop (mkF m 75 #[.val (.int n)] [(.int (29 : Int32)), (.int n)]))
                        by_cases hc75_21 : (29 : Int32) < n
                        · refine own_by (fun tz kz => XS.icmpYes X0.here hx rfl (pc0 := 75) (pc' := 80) rfl (hb hby d3_75) rfl (tlt hc75_21).2.2.1 (by decide) (by decide) kz) ?_
                          show own_Go p e below s _ _ (s₁.setTop (mkF m 80 #[.val (.int n)] []))
                          refine own_by (fun tz kz => XS.iloadN X0.here hx rfl (hb hby d3_80) rfl  kz) ?_
                          show own_Go p e below s _ _ (s₁.setTop (mkF m 81 #[.val (.int n)] [(.int n)]))
                          refine own_by (fun tz kz => XS.bipush X0.here hx rfl (hb hby d3_81) kz) ?_
                          show own_Go p e below s _ _ (s₁.setTop (mkF m 83 #[.val (.int n)] [(.int (31 : Int32)), (.int n)]))
                          by_cases hc83_22 : n = (31 : Int32)
                          · refine own_by (fun tz kz => XS.icmpNo X0.here hx rfl (hb hby d3_83) rfl (teq hc83_22).2 kz) ?_
                            show own_Go p e below s _ _ (s₁.setTop (mkF m 86 #[.val (.int n)] []))
                            refine own_by (fun tz kz => XS.iconst X0.here hx rfl (hb hby d3_86) kz) ?_
                            show own_Go p e below s _ _ (s₁.setTop (mkF m 87 #[.val (.int n)] [(.int (1 : Int32))]))
                            refine own_by (fun tz kz => XS.goto X0.here hx rfl (pc0 := 87) (pc' := 91) rfl (hb hby d3_87) (by decide) (by decide) kz) ?_
                            show own_Go p e below s _ _ (s₁.setTop (mkF m 91 #[.val (.int n)] [(.int (1 : Int32))]))
                            refine own_retI X0 hx hlk (t := .boolean) hret (by simp) rfl (hb hby d3_91) ?_ (by decide) (by decide)
                            exact ⟨by rw [own_sms, if_pos (Or.inr (Or.inr (Or.inr (Or.inr (Or.inr (Or.inr (Or.inr (Or.inr (Or.inr (Or.inr hc83_22))))))))))], N0, e0⟩
                          · refine own_by (fun tz kz => XS.icmpYes X0.here hx rfl (pc0 := 83) (pc' := 90) rfl (hb hby d3_83) rfl (feq hc83_22).2 (by decide) (by decide) kz) ?_
                            show own_Go p e below s _ _ (s₁.setTop (mkF m 90 #[.val (.int n)] []))
                            refine own_by (fun tz kz => XS.iconst X0.here hx rfl (hb hby d3_90) kz) ?_
                            show own_Go p e below s _ _ (s₁.setTop (mkF m 91 #[.val (.int n)] [(.int (0 : Int32))]))
                            refine own_retI X0 hx hlk (t := .boolean) hret (by simp) rfl (hb hby d3_91) ?_ (by decide) (by decide)
                            exact ⟨by rw [own_sms, if_neg (fun q => q.elim (fun q => hc3_1 q) (fun q => q.elim (fun q => hc9_2 q) (fun q => q.elim (fun q => hc15_3 q) (fun q => q.elim (fun q => hc21_4 q) (fun q => q.elim (fun q => q.2 hc35_14) (fun q => q.elim (fun q => hc43_15 q) (fun q => q.elim (fun q => hc49_16 q) (fun q => q.elim (fun q => hc55_17 q) (fun q => q.elim (fun q => hc61_18 q) (fun q => q.elim (fun q => q.2 hc75_21) (fun q => hc83_22 q)))))))))))], N0, e0⟩
                        · refine own_by (fun tz kz => XS.icmpNo X0.here hx rfl (hb hby d3_75) rfl (flt hc75_21).2.2.1 kz) ?_
                          show own_Go p e below s _ _ (s₁.setTop (mkF m 78 #[.val (.int n)] []))
                          refine own_by (fun tz kz => XS.iconst X0.here hx rfl (hb hby d3_78) kz) ?_
                          show own_Go p e below s _ _ (s₁.setTop (mkF m 79 #[.val (.int n)] [(.int (1 : Int32))]))
                          refine own_retI X0 hx hlk (t := .boolean) hret (by simp) rfl (hb hby d3_79) ?_ (by decide) (by decide)
                          exact ⟨by rw [own_sms, if_pos (Or.inr (Or.inr (Or.inr (Or.inr (Or.inr (Or.inr (Or.inr (Or.inr (Or.inr (Or.inl ⟨hc69_19, hc75_21⟩))))))))))], N0, e0⟩
            · refine own_by (fun tz kz => XS.icmpNo X0.here hx rfl (hb hby d3_35) rfl (flt hc35_14).2.2.1 kz) ?_
              show own_Go p e below s _ _ (s₁.setTop (mkF m 38 #[.val (.int n)] []))
              refine own_by (fun tz kz => XS.iconst X0.here hx rfl (hb hby d3_38) kz) ?_
              show own_Go p e below s _ _ (s₁.setTop (mkF m 39 #[.val (.int n)] [(.int (1 : Int32))]))
              refine own_retI X0 hx hlk (t := .boolean) hret (by simp) rfl (hb hby d3_39) ?_ (by decide) (by decide)
              exact ⟨by rw [own_sms, if_pos (Or.inr (Or.inr (Or.inr (Or.inr (Or.inl ⟨hc29_5, hc35_14⟩)))))], N0, e0⟩
def Q_rm0 (Z : State) (p0 : Int32) (w dir : Nat → Addr) (wR : Addr) (h0 : Heap) (n0 : Nat) (v : Option Value) (h : Heap) (L : List Loc) : Prop := v = some (.int 1) ∧ Fr n0 L
set_option maxRecDepth 65536 in
set_option maxHeartbeats 40000000 in
theorem rm0 (l : Launch) (Z : State) (a0 : Array Value) (hw : ∀ d ∈ tables_1, d.before a0 Z = true) (ws : List Jvm.Cond) (p0 : Int32) (w dir : Nat → Addr) (wR : Addr) (h0 : Heap) (n0 : Nat) (S_1 : Sta Z h0 "com/example/ajenda/ajenda/port4730/PacketType" "CAN_DO" "Lcom/example/ajenda/ajenda/port4730/PacketType;" (.ref (w 1))) (S_2 : Sta Z h0 "com/example/ajenda/ajenda/port4730/PacketType" "CANT_DO" "Lcom/example/ajenda/ajenda/port4730/PacketType;" (.ref (w 2))) (S_3 : Sta Z h0 "com/example/ajenda/ajenda/port4730/PacketType" "RESET_ABILITIES" "Lcom/example/ajenda/ajenda/port4730/PacketType;" (.ref (w 3))) (S_4 : Sta Z h0 "com/example/ajenda/ajenda/port4730/PacketType" "PRE_SLEEP" "Lcom/example/ajenda/ajenda/port4730/PacketType;" (.ref (w 4))) (S_6 : Sta Z h0 "com/example/ajenda/ajenda/port4730/PacketType" "NOOP" "Lcom/example/ajenda/ajenda/port4730/PacketType;" (.ref (w 6))) (S_7 : Sta Z h0 "com/example/ajenda/ajenda/port4730/PacketType" "SUBMIT_JOB" "Lcom/example/ajenda/ajenda/port4730/PacketType;" (.ref (w 7))) (S_8 : Sta Z h0 "com/example/ajenda/ajenda/port4730/PacketType" "JOB_CREATED" "Lcom/example/ajenda/ajenda/port4730/PacketType;" (.ref (w 8))) (S_9 : Sta Z h0 "com/example/ajenda/ajenda/port4730/PacketType" "GRAB_JOB" "Lcom/example/ajenda/ajenda/port4730/PacketType;" (.ref (w 9))) (S_10 : Sta Z h0 "com/example/ajenda/ajenda/port4730/PacketType" "NO_JOB" "Lcom/example/ajenda/ajenda/port4730/PacketType;" (.ref (w 10))) (S_11 : Sta Z h0 "com/example/ajenda/ajenda/port4730/PacketType" "JOB_ASSIGN" "Lcom/example/ajenda/ajenda/port4730/PacketType;" (.ref (w 11))) (S_12 : Sta Z h0 "com/example/ajenda/ajenda/port4730/PacketType" "WORK_STATUS" "Lcom/example/ajenda/ajenda/port4730/PacketType;" (.ref (w 12))) (S_13 : Sta Z h0 "com/example/ajenda/ajenda/port4730/PacketType" "WORK_COMPLETE" "Lcom/example/ajenda/ajenda/port4730/PacketType;" (.ref (w 13))) (S_14 : Sta Z h0 "com/example/ajenda/ajenda/port4730/PacketType" "WORK_FAIL" "Lcom/example/ajenda/ajenda/port4730/PacketType;" (.ref (w 14))) (S_15 : Sta Z h0 "com/example/ajenda/ajenda/port4730/PacketType" "GET_STATUS" "Lcom/example/ajenda/ajenda/port4730/PacketType;" (.ref (w 15))) (S_16 : Sta Z h0 "com/example/ajenda/ajenda/port4730/PacketType" "ECHO_REQ" "Lcom/example/ajenda/ajenda/port4730/PacketType;" (.ref (w 16))) (S_17 : Sta Z h0 "com/example/ajenda/ajenda/port4730/PacketType" "ECHO_RES" "Lcom/example/ajenda/ajenda/port4730/PacketType;" (.ref (w 17))) (S_18 : Sta Z h0 "com/example/ajenda/ajenda/port4730/PacketType" "SUBMIT_JOB_BG" "Lcom/example/ajenda/ajenda/port4730/PacketType;" (.ref (w 18))) (S_19 : Sta Z h0 "com/example/ajenda/ajenda/port4730/PacketType" "ERROR" "Lcom/example/ajenda/ajenda/port4730/PacketType;" (.ref (w 19))) (S_20 : Sta Z h0 "com/example/ajenda/ajenda/port4730/PacketType" "STATUS_RES" "Lcom/example/ajenda/ajenda/port4730/PacketType;" (.ref (w 20))) (S_21 : Sta Z h0 "com/example/ajenda/ajenda/port4730/PacketType" "SUBMIT_JOB_HIGH" "Lcom/example/ajenda/ajenda/port4730/PacketType;" (.ref (w 21))) (S_22 : Sta Z h0 "com/example/ajenda/ajenda/port4730/PacketType" "SET_CLIENT_ID" "Lcom/example/ajenda/ajenda/port4730/PacketType;" (.ref (w 22))) (S_23 : Sta Z h0 "com/example/ajenda/ajenda/port4730/PacketType" "CAN_DO_TIMEOUT" "Lcom/example/ajenda/ajenda/port4730/PacketType;" (.ref (w 23))) (S_24 : Sta Z h0 "com/example/ajenda/ajenda/port4730/PacketType" "ALL_YOURS" "Lcom/example/ajenda/ajenda/port4730/PacketType;" (.ref (w 24))) (S_25 : Sta Z h0 "com/example/ajenda/ajenda/port4730/PacketType" "WORK_EXCEPTION" "Lcom/example/ajenda/ajenda/port4730/PacketType;" (.ref (w 25))) (S_26 : Sta Z h0 "com/example/ajenda/ajenda/port4730/PacketType" "OPTION_REQ" "Lcom/example/ajenda/ajenda/port4730/PacketType;" (.ref (w 26))) (S_27 : Sta Z h0 "com/example/ajenda/ajenda/port4730/PacketType" "OPTION_RES" "Lcom/example/ajenda/ajenda/port4730/PacketType;" (.ref (w 27))) (S_28 : Sta Z h0 "com/example/ajenda/ajenda/port4730/PacketType" "WORK_DATA" "Lcom/example/ajenda/ajenda/port4730/PacketType;" (.ref (w 28))) (S_29 : Sta Z h0 "com/example/ajenda/ajenda/port4730/PacketType" "WORK_WARNING" "Lcom/example/ajenda/ajenda/port4730/PacketType;" (.ref (w 29))) (S_30 : Sta Z h0 "com/example/ajenda/ajenda/port4730/PacketType" "GRAB_JOB_UNIQ" "Lcom/example/ajenda/ajenda/port4730/PacketType;" (.ref (w 30))) (S_31 : Sta Z h0 "com/example/ajenda/ajenda/port4730/PacketType" "JOB_ASSIGN_UNIQ" "Lcom/example/ajenda/ajenda/port4730/PacketType;" (.ref (w 31))) (S_32 : Sta Z h0 "com/example/ajenda/ajenda/port4730/PacketType" "SUBMIT_JOB_HIGH_BG" "Lcom/example/ajenda/ajenda/port4730/PacketType;" (.ref (w 32))) (S_33 : Sta Z h0 "com/example/ajenda/ajenda/port4730/PacketType" "SUBMIT_JOB_LOW" "Lcom/example/ajenda/ajenda/port4730/PacketType;" (.ref (w 33))) (S_34 : Sta Z h0 "com/example/ajenda/ajenda/port4730/PacketType" "SUBMIT_JOB_LOW_BG" "Lcom/example/ajenda/ajenda/port4730/PacketType;" (.ref (w 34))) (S_35 : Sta Z h0 "com/example/ajenda/ajenda/port4730/PacketType" "SUBMIT_JOB_SCHED" "Lcom/example/ajenda/ajenda/port4730/PacketType;" (.ref (w 35))) (S_36 : Sta Z h0 "com/example/ajenda/ajenda/port4730/PacketType" "SUBMIT_JOB_EPOCH" "Lcom/example/ajenda/ajenda/port4730/PacketType;" (.ref (w 36))) (S_R : Sta Z h0 "com/example/ajenda/ajenda/port4730/PacketType$Direction" "REQUEST" "Lcom/example/ajenda/ajenda/port4730/PacketType$Direction;" (.ref wR)) (hE : ∀ n, own_ok n → Exa Z h0 (w n.toNatClampNeg) "com/example/ajenda/ajenda/port4730/PacketType") (hF : ∀ n, own_ok n → Fld Z h0 (w n.toNatClampNeg) "com/example/ajenda/ajenda/port4730/PacketType" "direction" "Lcom/example/ajenda/ajenda/port4730/PacketType$Direction;" (.ref (dir n.toNatClampNeg))) (hD : ∀ n, own_ok n → (if dir n.toNatClampNeg = wR then (0 : Int32) else (1 : Int32)) = own_sms n) (hk : ((p0 &&& (2147483647 : Int32)) % (35 : Int32)) = (0 : Int32) ∨ ((p0 &&& (2147483647 : Int32)) % (35 : Int32)) = (1 : Int32) ∨ ((p0 &&& (2147483647 : Int32)) % (35 : Int32)) = (2 : Int32) ∨ ((p0 &&& (2147483647 : Int32)) % (35 : Int32)) = (3 : Int32) ∨ ((p0 &&& (2147483647 : Int32)) % (35 : Int32)) = (4 : Int32) ∨ ((p0 &&& (2147483647 : Int32)) % (35 : Int32)) = (5 : Int32) ∨ ((p0 &&& (2147483647 : Int32)) % (35 : Int32)) = (6 : Int32) ∨ ((p0 &&& (2147483647 : Int32)) % (35 : Int32)) = (7 : Int32) ∨ ((p0 &&& (2147483647 : Int32)) % (35 : Int32)) = (8 : Int32) ∨ ((p0 &&& (2147483647 : Int32)) % (35 : Int32)) = (9 : Int32) ∨ ((p0 &&& (2147483647 : Int32)) % (35 : Int32)) = (10 : Int32) ∨ ((p0 &&& (2147483647 : Int32)) % (35 : Int32)) = (11 : Int32) ∨ ((p0 &&& (2147483647 : Int32)) % (35 : Int32)) = (12 : Int32) ∨ ((p0 &&& (2147483647 : Int32)) % (35 : Int32)) = (13 : Int32) ∨ ((p0 &&& (2147483647 : Int32)) % (35 : Int32)) = (14 : Int32) ∨ ((p0 &&& (2147483647 : Int32)) % (35 : Int32)) = (15 : Int32) ∨ ((p0 &&& (2147483647 : Int32)) % (35 : Int32)) = (16 : Int32) ∨ ((p0 &&& (2147483647 : Int32)) % (35 : Int32)) = (17 : Int32) ∨ ((p0 &&& (2147483647 : Int32)) % (35 : Int32)) = (18 : Int32) ∨ ((p0 &&& (2147483647 : Int32)) % (35 : Int32)) = (19 : Int32) ∨ ((p0 &&& (2147483647 : Int32)) % (35 : Int32)) = (20 : Int32) ∨ ((p0 &&& (2147483647 : Int32)) % (35 : Int32)) = (21 : Int32) ∨ ((p0 &&& (2147483647 : Int32)) % (35 : Int32)) = (22 : Int32) ∨ ((p0 &&& (2147483647 : Int32)) % (35 : Int32)) = (23 : Int32) ∨ ((p0 &&& (2147483647 : Int32)) % (35 : Int32)) = (24 : Int32) ∨ ((p0 &&& (2147483647 : Int32)) % (35 : Int32)) = (25 : Int32) ∨ ((p0 &&& (2147483647 : Int32)) % (35 : Int32)) = (26 : Int32) ∨ ((p0 &&& (2147483647 : Int32)) % (35 : Int32)) = (27 : Int32) ∨ ((p0 &&& (2147483647 : Int32)) % (35 : Int32)) = (28 : Int32) ∨ ((p0 &&& (2147483647 : Int32)) % (35 : Int32)) = (29 : Int32) ∨ ((p0 &&& (2147483647 : Int32)) % (35 : Int32)) = (30 : Int32) ∨ ((p0 &&& (2147483647 : Int32)) % (35 : Int32)) = (31 : Int32) ∨ ((p0 &&& (2147483647 : Int32)) % (35 : Int32)) = (32 : Int32) ∨ ((p0 &&& (2147483647 : Int32)) % (35 : Int32)) = (33 : Int32) ∨ ((p0 &&& (2147483647 : Int32)) % (35 : Int32)) = (34 : Int32)) :
    MetFree l x (head1 (Jvm.Cond.code x code maxLocals ret :: ws) room_1) (fun ar U => ar = #[(.int p0)] ∧ Z.Warmed39 U.vm ∧ U.heap = h0) (fun _ _ _ _ _ => True) (fun _ U o U' => ∃ v L, o = .returned v ∧ Q_rm0 Z p0 w dir wR h0 n0 v U'.heap L ∧ FrameEnd U o U' L room_1.cells room_1.slots) := by
  refine own_enter (Q := (Q_rm0 Z p0 w dir wR h0 n0)) pl_0 ?_
  intro p e s m below meth c s₁ X0 hx hZ hby hml hown hnm hret hlk e0
  have N0 := Fr.nil n0
  refine own_by (fun tz kz => castTop (g' := (mkF m 0 #[.val (.int p0), .unset, .unset, .unset] [])) (by first | rfl | (simp [entryFrame, mkF, argsToLocals, Value.category, maxLocals]; done)) kz) ?_
  show own_Go p e below s _ _ (s₁.setTop (mkF m 0 #[.val (.int p0), .unset, .unset, .unset] []))
  refine own_by (fun tz kz => XS.iloadN X0.here hx rfl (hb hby at_0) rfl  kz) ?_
  show own_Go p e below s _ _ (s₁.setTop (mkF m 1 #[.val (.int p0), .unset, .unset, .unset] [(.int p0)]))
  refine own_by (fun tz kz => X0.ldcInt hx hown (mvT hZ (hw _ (List.mem_of_getElem? (i := 0) rfl))) (g := (mkF m 1 #[.val (.int p0), .unset, .unset, .unset] [(.int p0)])) rfl (hb hby at_1) _ kz) ?_
  show own_Go p e below s _ _ (s₁.setTop (mkF m 3 #[.val (.int p0), .unset, .unset, .unset] [(.int (2147483647 : Int32)), (.int p0)]))
  refine own_by (fun tz kz => XS.iand X0.here hx rfl (hb hby at_3) rfl kz) ?_
  show own_Go p e below s _ _ (s₁.setTop (mkF m 4 #[.val (.int p0), .unset, .unset, .unset] [(.int (p0 &&& (2147483647 : Int32)))]))
  refine own_by (fun tz kz => XS.bipush X0.here hx rfl (hb hby at_4) kz) ?_
  show own_Go p e below s _ _ (s₁.setTop (mkF m 6 #[.val (.int p0), .unset, .unset, .unset] [(.int (35 : Int32)), (.int (p0 &&& (2147483647 : Int32)))]))
  refine own_by (fun tz kz => iremM X0 hx rfl (hb hby at_6) rfl (by decide) kz) ?_
  show own_Go p e below s _ _ (s₁.setTop (mkF m 7 #[.val (.int p0), .unset, .unset, .unset] [(.int ((p0 &&& (2147483647 : Int32)) % (35 : Int32)))]))
  refine own_by (fun tz kz => XS.istoreN X0.here hx rfl (hb hby at_7) rfl (l' := #[.val (.int p0), .val (.int ((p0 &&& (2147483647 : Int32)) % (35 : Int32))), .unset, .unset]) rfl kz) ?_
  show own_Go p e below s _ _ (s₁.setTop (mkF m 8 #[.val (.int p0), .val (.int ((p0 &&& (2147483647 : Int32)) % (35 : Int32))), .unset, .unset] []))
  refine own_by (fun tz kz => XS.iloadN X0.here hx rfl (hb hby at_8) rfl  kz) ?_
  show own_Go p e below s _ _ (s₁.setTop (mkF m 9 #[.val (.int p0), .val (.int ((p0 &&& (2147483647 : Int32)) % (35 : Int32))), .unset, .unset] [(.int ((p0 &&& (2147483647 : Int32)) % (35 : Int32)))]))
  refine own_by (fun tz kz => XS.iconst X0.here hx rfl (hb hby at_9) kz) ?_
  show own_Go p e below s _ _ (s₁.setTop (mkF m 10 #[.val (.int p0), .val (.int ((p0 &&& (2147483647 : Int32)) % (35 : Int32))), .unset, .unset] [(.int (4 : Int32)), (.int ((p0 &&& (2147483647 : Int32)) % (35 : Int32)))]))
  by_cases hc10_1 : ((p0 &&& (2147483647 : Int32)) % (35 : Int32)) < (4 : Int32)
  · refine own_by (fun tz kz => XS.icmpNo X0.here hx rfl (hb hby at_10) rfl (tlt hc10_1).2.1 kz) ?_
    show own_Go p e below s _ _ (s₁.setTop (mkF m 13 #[.val (.int p0), .val (.int ((p0 &&& (2147483647 : Int32)) % (35 : Int32))), .unset, .unset] []))
    refine own_by (fun tz kz => XS.iloadN X0.here hx rfl (hb hby at_13) rfl  kz) ?_
    show own_Go p e below s _ _ (s₁.setTop (mkF m 14 #[.val (.int p0), .val (.int ((p0 &&& (2147483647 : Int32)) % (35 : Int32))), .unset, .unset] [(.int ((p0 &&& (2147483647 : Int32)) % (35 : Int32)))]))
    refine own_by (fun tz kz => XS.iconst X0.here hx rfl (hb hby at_14) kz) ?_
    show own_Go p e below s _ _ (s₁.setTop (mkF m 15 #[.val (.int p0), .val (.int ((p0 &&& (2147483647 : Int32)) % (35 : Int32))), .unset, .unset] [(.int (1 : Int32)), (.int ((p0 &&& (2147483647 : Int32)) % (35 : Int32)))]))
    refine own_by (fun tz kz => XS.iadd X0.here hx rfl (hb hby at_15) rfl kz) ?_
    show own_Go p e below s _ _ (s₁.setTop (mkF m 16 #[.val (.int p0), .val (.int ((p0 &&& (2147483647 : Int32)) % (35 : Int32))), .unset, .unset] [(.int (((p0 &&& (2147483647 : Int32)) % (35 : Int32)) + (1 : Int32)))]))
    refine own_by (fun tz kz => XS.goto X0.here hx rfl (pc0 := 16) (pc' := 22) rfl (hb hby at_16) (by decide) (by decide) kz) ?_
    show own_Go p e below s _ _ (s₁.setTop (mkF m 22 #[.val (.int p0), .val (.int ((p0 &&& (2147483647 : Int32)) % (35 : Int32))), .unset, .unset] [(.int (((p0 &&& (2147483647 : Int32)) % (35 : Int32)) + (1 : Int32)))]))
    refine own_by (fun tz kz => XS.istoreN X0.here hx rfl (hb hby at_22) rfl (l' := #[.val (.int p0), .val (.int ((p0 &&& (2147483647 : Int32)) % (35 : Int32))), .val (.int (((p0 &&& (2147483647 : Int32)) % (35 : Int32)) + (1 : Int32))), .unset]) rfl kz) ?_
    show own_Go p e below s _ _ (s₁.setTop (mkF m 23 #[.val (.int p0), .val (.int ((p0 &&& (2147483647 : Int32)) % (35 : Int32))), .val (.int (((p0 &&& (2147483647 : Int32)) % (35 : Int32)) + (1 : Int32))), .unset] []))
    refine own_by (fun tz kz => XS.iloadN X0.here hx rfl (hb hby at_23) rfl  kz) ?_
    show own_Go p e below s _ _ (s₁.setTop (mkF m 24 #[.val (.int p0), .val (.int ((p0 &&& (2147483647 : Int32)) % (35 : Int32))), .val (.int (((p0 &&& (2147483647 : Int32)) % (35 : Int32)) + (1 : Int32))), .unset] [(.int (((p0 &&& (2147483647 : Int32)) % (35 : Int32)) + (1 : Int32)))]))
    obtain ⟨_, _, ⟨T2, L2, k2, n2⟩, -, X2, ⟨Lc2, hQ2, l2, y2, z2⟩, st2⟩ := Jvm.LawKit.callS X0 hx (y := (⟨"com/example/ajenda/ajenda/port4730/PacketTypeIsResponsePinLaw", "pick", "(I)Lcom/example/ajenda/ajenda/port4730/PacketType;"⟩ : MethodName)) hown (mvT hZ (hw _ (List.mem_of_getElem? (i := 1) rfl))) (mvT hZ (hw _ (List.mem_of_getElem? (i := 2) rfl))) (mvT hZ (hw _ (List.mem_of_getElem? (i := 3) rfl))) (mvT hZ (hw _ (List.mem_of_getElem? (i := 4) rfl))) (by decide) (backOf (W := 0) (rm_pick l Z a0 hw [] (((p0 &&& (2147483647 : Int32)) % (35 : Int32)) + (1 : Int32)) w h0 n0 S_1 S_2 S_3 S_4 S_6 S_7 S_8 S_9 S_10 S_11 S_12 S_13 S_14 S_15 S_16 S_17 S_18 S_19 S_20 S_21 S_22 S_23 S_24 S_25 S_26 S_27 S_28 S_29 S_30 S_31 S_32 S_33 S_34 S_35 S_36 ((own_n _ hk).1 hc10_1)) hZ (hw _ (List.mem_of_getElem? (i := 4) rfl)) (hw _ (List.mem_of_getElem? (i := 3) rfl)) (by decide) (by decide)) (g := (mkF m 24 #[.val (.int p0), .val (.int ((p0 &&& (2147483647 : Int32)) % (35 : Int32))), .val (.int (((p0 &&& (2147483647 : Int32)) % (35 : Int32)) + (1 : Int32))), .unset] [(.int (((p0 &&& (2147483647 : Int32)) % (35 : Int32)) + (1 : Int32)))])) rfl (by rw [hml]; rfl) (argsL := [(.int (((p0 &&& (2147483647 : Int32)) % (35 : Int32)) + (1 : Int32)))]) (rest := []) (lenOf pd_0 rfl) rfl (by show 2 * 0 + _ ≤ _; exact Nat.le_of_eq rfl) (hb hby at_24) (fun _ _ => ⟨rfl, e0, (by decide : 0 + 0 ≤ _), (by decide : 0 + 0 ≤ _)⟩)
    dsimp only [Pt.U, Pt.locs, Pt.cells, Pt.slots] at X2 l2 y2 z2 st2 hQ2
    subst l2 y2 z2
    obtain ⟨rfl, Nq2, e2⟩ := hQ2
    have N2 := Fr.app N0 Nq2
    refine own_by st2 ?_
    show own_Go p e below s _ _ (T2.setTop (mkF m 27 #[.val (.int p0), .val (.int ((p0 &&& (2147483647 : Int32)) % (35 : Int32))), .val (.int (((p0 &&& (2147483647 : Int32)) % (35 : Int32)) + (1 : Int32))), .unset] [(.ref (w (((p0 &&& (2147483647 : Int32)) % (35 : Int32)) + (1 : Int32)).toNatClampNeg))]))
    refine own_by (fun tz kz => XS.astoreN X2.here hx rfl (hb hby at_27) rfl rfl (l' := #[.val (.int p0), .val (.int ((p0 &&& (2147483647 : Int32)) % (35 : Int32))), .val (.int (((p0 &&& (2147483647 : Int32)) % (35 : Int32)) + (1 : Int32))), .val (.ref (w (((p0 &&& (2147483647 : Int32)) % (35 : Int32)) + (1 : Int32)).toNatClampNeg))]) rfl kz) ?_
    show own_Go p e below s _ _ (T2.setTop (mkF m 28 #[.val (.int p0), .val (.int ((p0 &&& (2147483647 : Int32)) % (35 : Int32))), .val (.int (((p0 &&& (2147483647 : Int32)) % (35 : Int32)) + (1 : Int32))), .val (.ref (w (((p0 &&& (2147483647 : Int32)) % (35 : Int32)) + (1 : Int32)).toNatClampNeg))] []))
    refine own_by (fun tz kz => XS.aloadN X2.here hx rfl (hb hby at_28) rfl rfl kz) ?_
    show own_Go p e below s _ _ (T2.setTop (mkF m 29 #[.val (.int p0), .val (.int ((p0 &&& (2147483647 : Int32)) % (35 : Int32))), .val (.int (((p0 &&& (2147483647 : Int32)) % (35 : Int32)) + (1 : Int32))), .val (.ref (w (((p0 &&& (2147483647 : Int32)) % (35 : Int32)) + (1 : Int32)).toNatClampNeg))] [(.ref (w (((p0 &&& (2147483647 : Int32)) % (35 : Int32)) + (1 : Int32)).toNatClampNeg))]))
    obtain ⟨cq3, kq3, q3a, q3b, q3c⟩ := isOf hZ e2 (hE _ ((own_n _ hk).1 hc10_1))
    obtain ⟨_, _, ⟨T3, L3, k3, n3⟩, -, X3, ⟨Lc3, hQ3, l3, y3, z3⟩, st3⟩ := X2.virtualBack hx (y := (⟨"com/example/ajenda/ajenda/port4730/PacketType", "isResponse", "()Z"⟩ : MethodName)) (z := (⟨"com/example/ajenda/ajenda/port4730/PacketType", "isResponse", "()Z"⟩ : MethodName)) hown (mvT hZ (hw _ (List.mem_of_getElem? (i := 8) rfl))) (mvT hZ (hw _ (List.mem_of_getElem? (i := 9) rfl))) (notFace_of_selects (args := #[]) (mvT hZ (hw _ (List.mem_of_getElem? (i := 11) rfl)))) (mvT hZ (hw _ (List.mem_of_getElem? (i := 11) rfl))) (mvT hZ (hw _ (List.mem_of_getElem? (i := 10) rfl))) (by decide) (backOf (W := 0) (rm_resp l Z a0 hw [] (w (((p0 &&& (2147483647 : Int32)) % (35 : Int32)) + (1 : Int32)).toNatClampNeg) (dir (((p0 &&& (2147483647 : Int32)) % (35 : Int32)) + (1 : Int32)).toNatClampNeg) wR _ h0 n0 S_R (hF _ ((own_n _ hk).1 hc10_1)) rfl) hZ (hw _ (List.mem_of_getElem? (i := 12) rfl)) (hw _ (List.mem_of_getElem? (i := 6) rfl)) (by decide) (by decide)) q3a q3c (g := (mkF m 29 #[.val (.int p0), .val (.int ((p0 &&& (2147483647 : Int32)) % (35 : Int32))), .val (.int (((p0 &&& (2147483647 : Int32)) % (35 : Int32)) + (1 : Int32))), .val (.ref (w (((p0 &&& (2147483647 : Int32)) % (35 : Int32)) + (1 : Int32)).toNatClampNeg))] [(.ref (w (((p0 &&& (2147483647 : Int32)) % (35 : Int32)) + (1 : Int32)).toNatClampNeg))])) rfl (by rw [hml]; rfl) (Steps.refl _) (argsL := []) (rest := []) (lenOf pd_1 rfl) rfl (by show 2 * 0 + _ ≤ _; exact Nat.le_of_eq rfl) (hb hby at_29) (fun _ _ => ⟨rfl, e2, (by decide : 0 + 0 ≤ _), (by decide : 0 + 0 ≤ _)⟩)
    dsimp only [Pt.U, Pt.locs, Pt.cells, Pt.slots] at X3 l3 y3 z3 st3 hQ3
    subst l3 y3 z3
    obtain ⟨rfl, Nq3, e3⟩ := hQ3
    have N3 := Fr.app N2 Nq3
    refine own_via st3 ?_
    show own_Go p e below s _ _ (T3.setTop (mkF m 32 #[.val (.int p0), .val (.int ((p0 &&& (2147483647 : Int32)) % (35 : Int32))), .val (.int (((p0 &&& (2147483647 : Int32)) % (35 : Int32)) + (1 : Int32))), .val (.ref (w (((p0 &&& (2147483647 : Int32)) % (35 : Int32)) + (1 : Int32)).toNatClampNeg))] [(.int (if dir (((p0 &&& (2147483647 : Int32)) % (35 : Int32)) + (1 : Int32)).toNatClampNeg = wR then (0 : Int32) else (1 : Int32)))]))
    refine own_by (fun tz kz => XS.iloadN X3.here hx rfl (hb hby at_32) rfl  kz) ?_
    show own_Go p e below s _ _ (T3.setTop (mkF m 33 #[.val (.int p0), .val (.int ((p0 &&& (2147483647 : Int32)) % (35 : Int32))), .val (.int (((p0 &&& (2147483647 : Int32)) % (35 : Int32)) + (1 : Int32))), .val (.ref (w (((p0 &&& (2147483647 : Int32)) % (35 : Int32)) + (1 : Int32)).toNatClampNeg))] [(.int (((p0 &&& (2147483647 : Int32)) % (35 : Int32)) + (1 : Int32))), (.int (if dir (((p0 &&& (2147483647 : Int32)) % (35 : Int32)) + (1 : Int32)).toNatClampNeg = wR then (0 : Int32) else (1 : Int32)))]))
    obtain ⟨_, _, ⟨T4, L4, k4, n4⟩, -, X4, ⟨Lc4, hQ4, l4, y4, z4⟩, st4⟩ := Jvm.LawKit.callS X3 hx (y := (⟨"com/example/ajenda/ajenda/port4730/PacketTypeIsResponsePinLaw", "serverMaySend", "(I)Z"⟩ : MethodName)) hown (mvT hZ (hw _ (List.mem_of_getElem? (i := 18) rfl))) (mvT hZ (hw _ (List.mem_of_getElem? (i := 19) rfl))) (mvT hZ (hw _ (List.mem_of_getElem? (i := 3) rfl))) (mvT hZ (hw _ (List.mem_of_getElem? (i := 20) rfl))) (by decide) (backOf (W := 1) (rm_sms l Z a0 hw [] (((p0 &&& (2147483647 : Int32)) % (35 : Int32)) + (1 : Int32)) h0 n0) hZ (hw _ (List.mem_of_getElem? (i := 20) rfl)) (hw _ (List.mem_of_getElem? (i := 3) rfl)) (by decide) (by decide)) (g := (mkF m 33 #[.val (.int p0), .val (.int ((p0 &&& (2147483647 : Int32)) % (35 : Int32))), .val (.int (((p0 &&& (2147483647 : Int32)) % (35 : Int32)) + (1 : Int32))), .val (.ref (w (((p0 &&& (2147483647 : Int32)) % (35 : Int32)) + (1 : Int32)).toNatClampNeg))] [(.int (((p0 &&& (2147483647 : Int32)) % (35 : Int32)) + (1 : Int32))), (.int (if dir (((p0 &&& (2147483647 : Int32)) % (35 : Int32)) + (1 : Int32)).toNatClampNeg = wR then (0 : Int32) else (1 : Int32)))])) rfl (by rw [hml]; rfl) (argsL := [(.int (((p0 &&& (2147483647 : Int32)) % (35 : Int32)) + (1 : Int32)))]) (rest := [(.int (if dir (((p0 &&& (2147483647 : Int32)) % (35 : Int32)) + (1 : Int32)).toNatClampNeg = wR then (0 : Int32) else (1 : Int32)))]) (lenOf pd_2 rfl) rfl (by show 2 * 0 + _ ≤ _; exact Nat.le_of_eq rfl) (hb hby at_33) (fun _ _ => ⟨rfl, e3, (by decide : 0 + 0 ≤ _), (by decide : 0 + 0 ≤ _)⟩)
    dsimp only [Pt.U, Pt.locs, Pt.cells, Pt.slots] at X4 l4 y4 z4 st4 hQ4
    subst l4 y4 z4
    obtain ⟨rfl, Nq4, e4⟩ := hQ4
    have N4 := Fr.app N3 Nq4
    refine own_by st4 ?_
    show own_Go p e below s _ _ (T4.setTop (mkF m 36 #[.val (.int p0), .val (.int ((p0 &&& (2147483647 : Int32)) % (35 : Int32))), .val (.int (((p0 &&& (2147483647 : Int32)) % (35 : Int32)) + (1 : Int32))), .val (.ref (w (((p0 &&& (2147483647 : Int32)) % (35 : Int32)) + (1 : Int32)).toNatClampNeg))] [(.int (own_sms (((p0 &&& (2147483647 : Int32)) % (35 : Int32)) + (1 : Int32)))), (.int (if dir (((p0 &&& (2147483647 : Int32)) % (35 : Int32)) + (1 : Int32)).toNatClampNeg = wR then (0 : Int32) else (1 : Int32)))]))
    refine own_by (fun tz kz => XS.icmpNo X4.here hx rfl (hb hby at_36) rfl (teq (hD _ ((own_n _ hk).1 hc10_1))).2 kz) ?_
    show own_Go p e below s _ _ (T4.setTop (mkF m 39 #[.val (.int p0), .val (.int ((p0 &&& (2147483647 : Int32)) % (35 : Int32))), .val (.int (((p0 &&& (2147483647 : Int32)) % (35 : Int32)) + (1 : Int32))), .val (.ref (w (((p0 &&& (2147483647 : Int32)) % (35 : Int32)) + (1 : Int32)).toNatClampNeg))] []))
    refine own_by (fun tz kz => XS.iconst X4.here hx rfl (hb hby at_39) kz) ?_
    show own_Go p e below s _ _ (T4.setTop (mkF m 40 #[.val (.int p0), .val (.int ((p0 &&& (2147483647 : Int32)) % (35 : Int32))), .val (.int (((p0 &&& (2147483647 : Int32)) % (35 : Int32)) + (1 : Int32))), .val (.ref (w (((p0 &&& (2147483647 : Int32)) % (35 : Int32)) + (1 : Int32)).toNatClampNeg))] [(.int (1 : Int32))]))
    refine own_by (fun tz kz => XS.goto X4.here hx rfl (pc0 := 40) (pc' := 44) rfl (hb hby at_40) (by decide) (by decide) kz) ?_
    show own_Go p e below s _ _ (T4.setTop (mkF m 44 #[.val (.int p0), .val (.int ((p0 &&& (2147483647 : Int32)) % (35 : Int32))), .val (.int (((p0 &&& (2147483647 : Int32)) % (35 : Int32)) + (1 : Int32))), .val (.ref (w (((p0 &&& (2147483647 : Int32)) % (35 : Int32)) + (1 : Int32)).toNatClampNeg))] [(.int (1 : Int32))]))
    refine own_retI X4 hx hlk (t := .boolean) hret (by simp) rfl (hb hby at_44) ?_ (by decide) (by decide)
    exact ⟨rfl, N4⟩
  · refine own_by (fun tz kz => XS.icmpYes X0.here hx rfl (pc0 := 10) (pc' := 19) rfl (hb hby at_10) rfl (flt hc10_1).2.1 (by decide) (by decide) kz) ?_
    show own_Go p e below s _ _ (s₁.setTop (mkF m 19 #[.val (.int p0), .val (.int ((p0 &&& (2147483647 : Int32)) % (35 : Int32))), .unset, .unset] []))
    refine own_by (fun tz kz => XS.iloadN X0.here hx rfl (hb hby at_19) rfl  kz) ?_
    show own_Go p e below s _ _ (s₁.setTop (mkF m 20 #[.val (.int p0), .val (.int ((p0 &&& (2147483647 : Int32)) % (35 : Int32))), .unset, .unset] [(.int ((p0 &&& (2147483647 : Int32)) % (35 : Int32)))]))
    refine own_by (fun tz kz => XS.iconst X0.here hx rfl (hb hby at_20) kz) ?_
    show own_Go p e below s _ _ (s₁.setTop (mkF m 21 #[.val (.int p0), .val (.int ((p0 &&& (2147483647 : Int32)) % (35 : Int32))), .unset, .unset] [(.int (2 : Int32)), (.int ((p0 &&& (2147483647 : Int32)) % (35 : Int32)))]))
    refine own_by (fun tz kz => XS.iadd X0.here hx rfl (hb hby at_21) rfl kz) ?_
    show own_Go p e below s _ _ (s₁.setTop (mkF m 22 #[.val (.int p0), .val (.int ((p0 &&& (2147483647 : Int32)) % (35 : Int32))), .unset, .unset] [(.int (((p0 &&& (2147483647 : Int32)) % (35 : Int32)) + (2 : Int32)))]))
    refine own_by (fun tz kz => XS.istoreN X0.here hx rfl (hb hby at_22) rfl (l' := #[.val (.int p0), .val (.int ((p0 &&& (2147483647 : Int32)) % (35 : Int32))), .val (.int (((p0 &&& (2147483647 : Int32)) % (35 : Int32)) + (2 : Int32))), .unset]) rfl kz) ?_
    show own_Go p e below s _ _ (s₁.setTop (mkF m 23 #[.val (.int p0), .val (.int ((p0 &&& (2147483647 : Int32)) % (35 : Int32))), .val (.int (((p0 &&& (2147483647 : Int32)) % (35 : Int32)) + (2 : Int32))), .unset] []))
    refine own_by (fun tz kz => XS.iloadN X0.here hx rfl (hb hby at_23) rfl  kz) ?_
    show own_Go p e below s _ _ (s₁.setTop (mkF m 24 #[.val (.int p0), .val (.int ((p0 &&& (2147483647 : Int32)) % (35 : Int32))), .val (.int (((p0 &&& (2147483647 : Int32)) % (35 : Int32)) + (2 : Int32))), .unset] [(.int (((p0 &&& (2147483647 : Int32)) % (35 : Int32)) + (2 : Int32)))]))
    obtain ⟨_, _, ⟨T5, L5, k5, n5⟩, -, X5, ⟨Lc5, hQ5, l5, y5, z5⟩, st5⟩ := Jvm.LawKit.callS X0 hx (y := (⟨"com/example/ajenda/ajenda/port4730/PacketTypeIsResponsePinLaw", "pick", "(I)Lcom/example/ajenda/ajenda/port4730/PacketType;"⟩ : MethodName)) hown (mvT hZ (hw _ (List.mem_of_getElem? (i := 1) rfl))) (mvT hZ (hw _ (List.mem_of_getElem? (i := 2) rfl))) (mvT hZ (hw _ (List.mem_of_getElem? (i := 3) rfl))) (mvT hZ (hw _ (List.mem_of_getElem? (i := 4) rfl))) (by decide) (backOf (W := 0) (rm_pick l Z a0 hw [] (((p0 &&& (2147483647 : Int32)) % (35 : Int32)) + (2 : Int32)) w h0 n0 S_1 S_2 S_3 S_4 S_6 S_7 S_8 S_9 S_10 S_11 S_12 S_13 S_14 S_15 S_16 S_17 S_18 S_19 S_20 S_21 S_22 S_23 S_24 S_25 S_26 S_27 S_28 S_29 S_30 S_31 S_32 S_33 S_34 S_35 S_36 ((own_n _ hk).2 hc10_1)) hZ (hw _ (List.mem_of_getElem? (i := 4) rfl)) (hw _ (List.mem_of_getElem? (i := 3) rfl)) (by decide) (by decide)) (g := (mkF m 24 #[.val (.int p0), .val (.int ((p0 &&& (2147483647 : Int32)) % (35 : Int32))), .val (.int (((p0 &&& (2147483647 : Int32)) % (35 : Int32)) + (2 : Int32))), .unset] [(.int (((p0 &&& (2147483647 : Int32)) % (35 : Int32)) + (2 : Int32)))])) rfl (by rw [hml]; rfl) (argsL := [(.int (((p0 &&& (2147483647 : Int32)) % (35 : Int32)) + (2 : Int32)))]) (rest := []) (lenOf pd_0 rfl) rfl (by show 2 * 0 + _ ≤ _; exact Nat.le_of_eq rfl) (hb hby at_24) (fun _ _ => ⟨rfl, e0, (by decide : 0 + 0 ≤ _), (by decide : 0 + 0 ≤ _)⟩)
    dsimp only [Pt.U, Pt.locs, Pt.cells, Pt.slots] at X5 l5 y5 z5 st5 hQ5
    subst l5 y5 z5
    obtain ⟨rfl, Nq5, e5⟩ := hQ5
    have N5 := Fr.app N0 Nq5
    refine own_by st5 ?_
    show own_Go p e below s _ _ (T5.setTop (mkF m 27 #[.val (.int p0), .val (.int ((p0 &&& (2147483647 : Int32)) % (35 : Int32))), .val (.int (((p0 &&& (2147483647 : Int32)) % (35 : Int32)) + (2 : Int32))), .unset] [(.ref (w (((p0 &&& (2147483647 : Int32)) % (35 : Int32)) + (2 : Int32)).toNatClampNeg))]))
    refine own_by (fun tz kz => XS.astoreN X5.here hx rfl (hb hby at_27) rfl rfl (l' := #[.val (.int p0), .val (.int ((p0 &&& (2147483647 : Int32)) % (35 : Int32))), .val (.int (((p0 &&& (2147483647 : Int32)) % (35 : Int32)) + (2 : Int32))), .val (.ref (w (((p0 &&& (2147483647 : Int32)) % (35 : Int32)) + (2 : Int32)).toNatClampNeg))]) rfl kz) ?_
    show own_Go p e below s _ _ (T5.setTop (mkF m 28 #[.val (.int p0), .val (.int ((p0 &&& (2147483647 : Int32)) % (35 : Int32))), .val (.int (((p0 &&& (2147483647 : Int32)) % (35 : Int32)) + (2 : Int32))), .val (.ref (w (((p0 &&& (2147483647 : Int32)) % (35 : Int32)) + (2 : Int32)).toNatClampNeg))] []))
    refine own_by (fun tz kz => XS.aloadN X5.here hx rfl (hb hby at_28) rfl rfl kz) ?_
    show own_Go p e below s _ _ (T5.setTop (mkF m 29 #[.val (.int p0), .val (.int ((p0 &&& (2147483647 : Int32)) % (35 : Int32))), .val (.int (((p0 &&& (2147483647 : Int32)) % (35 : Int32)) + (2 : Int32))), .val (.ref (w (((p0 &&& (2147483647 : Int32)) % (35 : Int32)) + (2 : Int32)).toNatClampNeg))] [(.ref (w (((p0 &&& (2147483647 : Int32)) % (35 : Int32)) + (2 : Int32)).toNatClampNeg))]))
    obtain ⟨cq6, kq6, q6a, q6b, q6c⟩ := isOf hZ e5 (hE _ ((own_n _ hk).2 hc10_1))
    obtain ⟨_, _, ⟨T6, L6, k6, n6⟩, -, X6, ⟨Lc6, hQ6, l6, y6, z6⟩, st6⟩ := X5.virtualBack hx (y := (⟨"com/example/ajenda/ajenda/port4730/PacketType", "isResponse", "()Z"⟩ : MethodName)) (z := (⟨"com/example/ajenda/ajenda/port4730/PacketType", "isResponse", "()Z"⟩ : MethodName)) hown (mvT hZ (hw _ (List.mem_of_getElem? (i := 8) rfl))) (mvT hZ (hw _ (List.mem_of_getElem? (i := 9) rfl))) (notFace_of_selects (args := #[]) (mvT hZ (hw _ (List.mem_of_getElem? (i := 11) rfl)))) (mvT hZ (hw _ (List.mem_of_getElem? (i := 11) rfl))) (mvT hZ (hw _ (List.mem_of_getElem? (i := 10) rfl))) (by decide) (backOf (W := 0) (rm_resp l Z a0 hw [] (w (((p0 &&& (2147483647 : Int32)) % (35 : Int32)) + (2 : Int32)).toNatClampNeg) (dir (((p0 &&& (2147483647 : Int32)) % (35 : Int32)) + (2 : Int32)).toNatClampNeg) wR _ h0 n0 S_R (hF _ ((own_n _ hk).2 hc10_1)) rfl) hZ (hw _ (List.mem_of_getElem? (i := 12) rfl)) (hw _ (List.mem_of_getElem? (i := 6) rfl)) (by decide) (by decide)) q6a q6c (g := (mkF m 29 #[.val (.int p0), .val (.int ((p0 &&& (2147483647 : Int32)) % (35 : Int32))), .val (.int (((p0 &&& (2147483647 : Int32)) % (35 : Int32)) + (2 : Int32))), .val (.ref (w (((p0 &&& (2147483647 : Int32)) % (35 : Int32)) + (2 : Int32)).toNatClampNeg))] [(.ref (w (((p0 &&& (2147483647 : Int32)) % (35 : Int32)) + (2 : Int32)).toNatClampNeg))])) rfl (by rw [hml]; rfl) (Steps.refl _) (argsL := []) (rest := []) (lenOf pd_1 rfl) rfl (by show 2 * 0 + _ ≤ _; exact Nat.le_of_eq rfl) (hb hby at_29) (fun _ _ => ⟨rfl, e5, (by decide : 0 + 0 ≤ _), (by decide : 0 + 0 ≤ _)⟩)
    dsimp only [Pt.U, Pt.locs, Pt.cells, Pt.slots] at X6 l6 y6 z6 st6 hQ6
    subst l6 y6 z6
    obtain ⟨rfl, Nq6, e6⟩ := hQ6
    have N6 := Fr.app N5 Nq6
    refine own_via st6 ?_
    show own_Go p e below s _ _ (T6.setTop (mkF m 32 #[.val (.int p0), .val (.int ((p0 &&& (2147483647 : Int32)) % (35 : Int32))), .val (.int (((p0 &&& (2147483647 : Int32)) % (35 : Int32)) + (2 : Int32))), .val (.ref (w (((p0 &&& (2147483647 : Int32)) % (35 : Int32)) + (2 : Int32)).toNatClampNeg))] [(.int (if dir (((p0 &&& (2147483647 : Int32)) % (35 : Int32)) + (2 : Int32)).toNatClampNeg = wR then (0 : Int32) else (1 : Int32)))]))
    refine own_by (fun tz kz => XS.iloadN X6.here hx rfl (hb hby at_32) rfl  kz) ?_
    show own_Go p e below s _ _ (T6.setTop (mkF m 33 #[.val (.int p0), .val (.int ((p0 &&& (2147483647 : Int32)) % (35 : Int32))), .val (.int (((p0 &&& (2147483647 : Int32)) % (35 : Int32)) + (2 : Int32))), .val (.ref (w (((p0 &&& (2147483647 : Int32)) % (35 : Int32)) + (2 : Int32)).toNatClampNeg))] [(.int (((p0 &&& (2147483647 : Int32)) % (35 : Int32)) + (2 : Int32))), (.int (if dir (((p0 &&& (2147483647 : Int32)) % (35 : Int32)) + (2 : Int32)).toNatClampNeg = wR then (0 : Int32) else (1 : Int32)))]))
    obtain ⟨_, _, ⟨T7, L7, k7, n7⟩, -, X7, ⟨Lc7, hQ7, l7, y7, z7⟩, st7⟩ := Jvm.LawKit.callS X6 hx (y := (⟨"com/example/ajenda/ajenda/port4730/PacketTypeIsResponsePinLaw", "serverMaySend", "(I)Z"⟩ : MethodName)) hown (mvT hZ (hw _ (List.mem_of_getElem? (i := 18) rfl))) (mvT hZ (hw _ (List.mem_of_getElem? (i := 19) rfl))) (mvT hZ (hw _ (List.mem_of_getElem? (i := 3) rfl))) (mvT hZ (hw _ (List.mem_of_getElem? (i := 20) rfl))) (by decide) (backOf (W := 1) (rm_sms l Z a0 hw [] (((p0 &&& (2147483647 : Int32)) % (35 : Int32)) + (2 : Int32)) h0 n0) hZ (hw _ (List.mem_of_getElem? (i := 20) rfl)) (hw _ (List.mem_of_getElem? (i := 3) rfl)) (by decide) (by decide)) (g := (mkF m 33 #[.val (.int p0), .val (.int ((p0 &&& (2147483647 : Int32)) % (35 : Int32))), .val (.int (((p0 &&& (2147483647 : Int32)) % (35 : Int32)) + (2 : Int32))), .val (.ref (w (((p0 &&& (2147483647 : Int32)) % (35 : Int32)) + (2 : Int32)).toNatClampNeg))] [(.int (((p0 &&& (2147483647 : Int32)) % (35 : Int32)) + (2 : Int32))), (.int (if dir (((p0 &&& (2147483647 : Int32)) % (35 : Int32)) + (2 : Int32)).toNatClampNeg = wR then (0 : Int32) else (1 : Int32)))])) rfl (by rw [hml]; rfl) (argsL := [(.int (((p0 &&& (2147483647 : Int32)) % (35 : Int32)) + (2 : Int32)))]) (rest := [(.int (if dir (((p0 &&& (2147483647 : Int32)) % (35 : Int32)) + (2 : Int32)).toNatClampNeg = wR then (0 : Int32) else (1 : Int32)))]) (lenOf pd_2 rfl) rfl (by show 2 * 0 + _ ≤ _; exact Nat.le_of_eq rfl) (hb hby at_33) (fun _ _ => ⟨rfl, e6, (by decide : 0 + 0 ≤ _), (by decide : 0 + 0 ≤ _)⟩)
    dsimp only [Pt.U, Pt.locs, Pt.cells, Pt.slots] at X7 l7 y7 z7 st7 hQ7
    subst l7 y7 z7
    obtain ⟨rfl, Nq7, e7⟩ := hQ7
    have N7 := Fr.app N6 Nq7
    refine own_by st7 ?_
    show own_Go p e below s _ _ (T7.setTop (mkF m 36 #[.val (.int p0), .val (.int ((p0 &&& (2147483647 : Int32)) % (35 : Int32))), .val (.int (((p0 &&& (2147483647 : Int32)) % (35 : Int32)) + (2 : Int32))), .val (.ref (w (((p0 &&& (2147483647 : Int32)) % (35 : Int32)) + (2 : Int32)).toNatClampNeg))] [(.int (own_sms (((p0 &&& (2147483647 : Int32)) % (35 : Int32)) + (2 : Int32)))), (.int (if dir (((p0 &&& (2147483647 : Int32)) % (35 : Int32)) + (2 : Int32)).toNatClampNeg = wR then (0 : Int32) else (1 : Int32)))]))
    refine own_by (fun tz kz => XS.icmpNo X7.here hx rfl (hb hby at_36) rfl (teq (hD _ ((own_n _ hk).2 hc10_1))).2 kz) ?_
    show own_Go p e below s _ _ (T7.setTop (mkF m 39 #[.val (.int p0), .val (.int ((p0 &&& (2147483647 : Int32)) % (35 : Int32))), .val (.int (((p0 &&& (2147483647 : Int32)) % (35 : Int32)) + (2 : Int32))), .val (.ref (w (((p0 &&& (2147483647 : Int32)) % (35 : Int32)) + (2 : Int32)).toNatClampNeg))] []))
    refine own_by (fun tz kz => XS.iconst X7.here hx rfl (hb hby at_39) kz) ?_
    show own_Go p e below s _ _ (T7.setTop (mkF m 40 #[.val (.int p0), .val (.int ((p0 &&& (2147483647 : Int32)) % (35 : Int32))), .val (.int (((p0 &&& (2147483647 : Int32)) % (35 : Int32)) + (2 : Int32))), .val (.ref (w (((p0 &&& (2147483647 : Int32)) % (35 : Int32)) + (2 : Int32)).toNatClampNeg))] [(.int (1 : Int32))]))
    refine own_by (fun tz kz => XS.goto X7.here hx rfl (pc0 := 40) (pc' := 44) rfl (hb hby at_40) (by decide) (by decide) kz) ?_
    show own_Go p e below s _ _ (T7.setTop (mkF m 44 #[.val (.int p0), .val (.int ((p0 &&& (2147483647 : Int32)) % (35 : Int32))), .val (.int (((p0 &&& (2147483647 : Int32)) % (35 : Int32)) + (2 : Int32))), .val (.ref (w (((p0 &&& (2147483647 : Int32)) % (35 : Int32)) + (2 : Int32)).toNatClampNeg))] [(.int (1 : Int32))]))
    refine own_retI X7 hx hlk (t := .boolean) hret (by simp) rfl (hb hby at_44) ?_ (by decide) (by decide)
    exact ⟨rfl, N7⟩
set_option maxRecDepth 65536 in
set_option maxHeartbeats 40000000 in
theorem comes_1 {Post : Tables → Env → Array Value → State → Outcome → State → Prop} (hpost : ∀ tb e args s v u, (limb_1_1.after args s (.returned v) u = true ∧ limb_1_2.after args s (.returned v) u = true ∧ True) → FrameEnd s (.returned v) u (Jvm.fieldLocs frame_1_writes args s ++ Jvm.arrayLocs frame_1_arrays args s ++ Jvm.staticLocs frame_1_statics s) 0 0 → Post tb e args s (.returned v) u) :
    ArmFor flags0 classFile x code maxLocals ret World_1 tables_1 room_1 Calls_1 rest_1 Pre_1 Post := by
  intro l hfl _ _ p e ha hc hk s m args below hf hA hF happ hP
  obtain ⟨hcalls, hrest, hpre⟩ := hP
  obtain ⟨-, -, -, hnamed, -, -, -, hat⟩ := (Spec.applies_iff hf).mp happ
  obtain ⟨hg, hn⟩ := and_e (Cond.before_iff.mp (show (Jvm.Cond.and given_1 narrow_1).before args s = true from hpre))
  obtain ⟨g1a, g1b⟩ := and_e hg
  obtain ⟨w0, rfl⟩ : ∃ w0 : Value, args = #[w0] := by
    have hs : args.size = 1 := by simpa [Cond.value, given_1] using g1a
    obtain ⟨L⟩ := args
    match L, hs with
    | [w0], _ => exact ⟨w0, rfl⟩
  have hw := fun d (hd : d ∈ tables_1) => atoms_spec (ws := Jvm.Cond.code x code maxLocals ret :: tables_1) hat d (List.mem_cons_of_mem _ hd)
  have hfit : Fit s := fun {y c} hc i hi => by
    obtain ⟨ha, rfl⟩ := Array.getElem?_eq_some_iff.mp hc
    have q := List.all_eq_true.mp ((Array.all_eq_true_iff_forall_mem.mp hF) _ (Array.getElem_mem ha)) i (List.mem_range.mpr hi)
    simpa [Array.getElem?_eq_getElem hi] using q
  obtain ⟨i0, ei0⟩ := is_v g1b
  obtain rfl : w0 = (.int i0) := Option.some.inj ei0
  obtain ⟨m2a, m2b⟩ := and_e hn
  obtain ⟨m3a, m3b⟩ := and_e m2b
  obtain ⟨m4a, m4b⟩ := and_e m3b
  obtain ⟨m5a, m5b⟩ := and_e m4b
  obtain ⟨m6a, m6b⟩ := and_e m5b
  obtain ⟨m7a, m7b⟩ := and_e m6b
  obtain ⟨m8a, m8b⟩ := and_e m7b
  obtain ⟨m9a, m9b⟩ := and_e m8b
  obtain ⟨m10a, m10b⟩ := and_e m9b
  obtain ⟨m11a, m11b⟩ := and_e m10b
  obtain ⟨m12a, m12b⟩ := and_e m11b
  obtain ⟨m13a, m13b⟩ := and_e m12b
  obtain ⟨m14a, m14b⟩ := and_e m13b
  obtain ⟨m15a, m15b⟩ := and_e m14b
  obtain ⟨m16a, m16b⟩ := and_e m15b
  obtain ⟨m17a, m17b⟩ := and_e m16b
  obtain ⟨m18a, m18b⟩ := and_e m17b
  obtain ⟨m19a, m19b⟩ := and_e m18b
  obtain ⟨m20a, m20b⟩ := and_e m19b
  obtain ⟨m21a, m21b⟩ := and_e m20b
  obtain ⟨m22a, m22b⟩ := and_e m21b
  obtain ⟨m23a, m23b⟩ := and_e m22b
  obtain ⟨m24a, m24b⟩ := and_e m23b
  obtain ⟨m25a, m25b⟩ := and_e m24b
  obtain ⟨m26a, m26b⟩ := and_e m25b
  obtain ⟨m27a, m27b⟩ := and_e m26b
  obtain ⟨m28a, m28b⟩ := and_e m27b
  obtain ⟨m29a, m29b⟩ := and_e m28b
  obtain ⟨m30a, m30b⟩ := and_e m29b
  obtain ⟨m31a, m31b⟩ := and_e m30b
  obtain ⟨m32a, m32b⟩ := and_e m31b
  obtain ⟨m33a, m33b⟩ := and_e m32b
  obtain ⟨m34a, m34b⟩ := and_e m33b
  obtain ⟨m35a, m35b⟩ := and_e m34b
  obtain ⟨m36a, m36b⟩ := and_e m35b
  obtain ⟨m37a, m37b⟩ := and_e m36b
  obtain ⟨m38a, m38b⟩ := and_e m37b
  obtain ⟨m39a, m39b⟩ := and_e m38b
  obtain ⟨m40a, m40b⟩ := and_e m39b
  obtain ⟨m41a, m41b⟩ := and_e m40b
  obtain ⟨m42a, m42b⟩ := and_e m41b
  obtain ⟨m43a, m43b⟩ := and_e m42b
  obtain ⟨m44a, m44b⟩ := and_e m43b
  obtain ⟨m45a, m45b⟩ := and_e m44b
  obtain ⟨m46a, m46b⟩ := and_e m45b
  obtain ⟨m47a, m47b⟩ := and_e m46b
  obtain ⟨m48a, m48b⟩ := and_e m47b
  obtain ⟨m49a, m49b⟩ := and_e m48b
  obtain ⟨m50a, m50b⟩ := and_e m49b
  obtain ⟨m51a, m51b⟩ := and_e m50b
  obtain ⟨m52a, m52b⟩ := and_e m51b
  obtain ⟨m53a, m53b⟩ := and_e m52b
  obtain ⟨m54a, m54b⟩ := and_e m53b
  obtain ⟨m55a, m55b⟩ := and_e m54b
  obtain ⟨m56a, m56b⟩ := and_e m55b
  obtain ⟨m57a, m57b⟩ := and_e m56b
  obtain ⟨m58a, m58b⟩ := and_e m57b
  obtain ⟨m59a, m59b⟩ := and_e m58b
  obtain ⟨m60a, m60b⟩ := and_e m59b
  obtain ⟨m61a, m61b⟩ := and_e m60b
  obtain ⟨m62a, m62b⟩ := and_e m61b
  obtain ⟨m63a, m63b⟩ := and_e m62b
  obtain ⟨m64a, m64b⟩ := and_e m63b
  obtain ⟨m65a, m65b⟩ := and_e m64b
  obtain ⟨m66a, m66b⟩ := and_e m65b
  obtain ⟨m67a, m67b⟩ := and_e m66b
  obtain ⟨m68a, m68b⟩ := and_e m67b
  obtain ⟨m69a, m69b⟩ := and_e m68b
  obtain ⟨m70a, m70b⟩ := and_e m69b
  obtain ⟨m71a, m71b⟩ := and_e m70b
  obtain ⟨m72a, m72b⟩ := and_e m71b
  obtain ⟨m73a, m73b⟩ := and_e m72b
  obtain ⟨m74a, m74b⟩ := and_e m73b
  obtain ⟨m75a, m75b⟩ := and_e m74b
  obtain ⟨m76a, m76b⟩ := and_e m75b
  obtain ⟨PacketType_CAN_DO, ev_PacketType_CAN_DO⟩ := exa_v m2a
  have E_PacketType_CAN_DO : Exa s s.heap PacketType_CAN_DO "com/example/ajenda/ajenda/port4730/PacketType" := Exa.start ev_PacketType_CAN_DO m2a
  have S_PacketType_CAN_DO : Sta s s.heap "com/example/ajenda/ajenda/port4730/PacketType" "CAN_DO" "Lcom/example/ajenda/ajenda/port4730/PacketType;" (.ref PacketType_CAN_DO) := Sta.start ev_PacketType_CAN_DO (Or.inr ⟨(hw _ (List.mem_of_getElem? (i := 6) rfl)), (hw _ (List.mem_of_getElem? (i := 7) rfl))⟩)
  obtain ⟨PacketType_Direction_REQUEST, ev_PacketType_Direction_REQUEST⟩ := exa_v m3a
  have E_PacketType_Direction_REQUEST : Exa s s.heap PacketType_Direction_REQUEST "com/example/ajenda/ajenda/port4730/PacketType$Direction" := Exa.start ev_PacketType_Direction_REQUEST m3a
  have S_PacketType_Direction_REQUEST : Sta s s.heap "com/example/ajenda/ajenda/port4730/PacketType$Direction" "REQUEST" "Lcom/example/ajenda/ajenda/port4730/PacketType$Direction;" (.ref PacketType_Direction_REQUEST) := Sta.start ev_PacketType_Direction_REQUEST (Or.inr ⟨(hw _ (List.mem_of_getElem? (i := 15) rfl)), (hw _ (List.mem_of_getElem? (i := 16) rfl))⟩)
  obtain ⟨PacketType_PRE_SLEEP, ev_PacketType_PRE_SLEEP⟩ := exa_v m5a
  have E_PacketType_PRE_SLEEP : Exa s s.heap PacketType_PRE_SLEEP "com/example/ajenda/ajenda/port4730/PacketType" := Exa.start ev_PacketType_PRE_SLEEP m5a
  have S_PacketType_PRE_SLEEP : Sta s s.heap "com/example/ajenda/ajenda/port4730/PacketType" "PRE_SLEEP" "Lcom/example/ajenda/ajenda/port4730/PacketType;" (.ref PacketType_PRE_SLEEP) := Sta.start ev_PacketType_PRE_SLEEP (Or.inr ⟨(hw _ (List.mem_of_getElem? (i := 6) rfl)), (hw _ (List.mem_of_getElem? (i := 22) rfl))⟩)
  obtain ⟨PacketType_SUBMIT_JOB, ev_PacketType_SUBMIT_JOB⟩ := exa_v m7a
  have E_PacketType_SUBMIT_JOB : Exa s s.heap PacketType_SUBMIT_JOB "com/example/ajenda/ajenda/port4730/PacketType" := Exa.start ev_PacketType_SUBMIT_JOB m7a
  have S_PacketType_SUBMIT_JOB : Sta s s.heap "com/example/ajenda/ajenda/port4730/PacketType" "SUBMIT_JOB" "Lcom/example/ajenda/ajenda/port4730/PacketType;" (.ref PacketType_SUBMIT_JOB) := Sta.start ev_PacketType_SUBMIT_JOB (Or.inr ⟨(hw _ (List.mem_of_getElem? (i := 6) rfl)), (hw _ (List.mem_of_getElem? (i := 24) rfl))⟩)
  obtain ⟨PacketType_GET_STATUS, ev_PacketType_GET_STATUS⟩ := exa_v m9a
  have E_PacketType_GET_STATUS : Exa s s.heap PacketType_GET_STATUS "com/example/ajenda/ajenda/port4730/PacketType" := Exa.start ev_PacketType_GET_STATUS m9a
  have S_PacketType_GET_STATUS : Sta s s.heap "com/example/ajenda/ajenda/port4730/PacketType" "GET_STATUS" "Lcom/example/ajenda/ajenda/port4730/PacketType;" (.ref PacketType_GET_STATUS) := Sta.start ev_PacketType_GET_STATUS (Or.inr ⟨(hw _ (List.mem_of_getElem? (i := 6) rfl)), (hw _ (List.mem_of_getElem? (i := 26) rfl))⟩)
  obtain ⟨PacketType_JOB_CREATED, ev_PacketType_JOB_CREATED⟩ := exa_v m11a
  have E_PacketType_JOB_CREATED : Exa s s.heap PacketType_JOB_CREATED "com/example/ajenda/ajenda/port4730/PacketType" := Exa.start ev_PacketType_JOB_CREATED m11a
  have S_PacketType_JOB_CREATED : Sta s s.heap "com/example/ajenda/ajenda/port4730/PacketType" "JOB_CREATED" "Lcom/example/ajenda/ajenda/port4730/PacketType;" (.ref PacketType_JOB_CREATED) := Sta.start ev_PacketType_JOB_CREATED (Or.inr ⟨(hw _ (List.mem_of_getElem? (i := 6) rfl)), (hw _ (List.mem_of_getElem? (i := 28) rfl))⟩)
  obtain ⟨PacketType_Direction_RESPONSE, ev_PacketType_Direction_RESPONSE⟩ := exa_v m12a
  have E_PacketType_Direction_RESPONSE : Exa s s.heap PacketType_Direction_RESPONSE "com/example/ajenda/ajenda/port4730/PacketType$Direction" := Exa.start ev_PacketType_Direction_RESPONSE m12a
  have S_PacketType_Direction_RESPONSE : Sta s s.heap "com/example/ajenda/ajenda/port4730/PacketType$Direction" "RESPONSE" "Lcom/example/ajenda/ajenda/port4730/PacketType$Direction;" (.ref PacketType_Direction_RESPONSE) := Sta.start ev_PacketType_Direction_RESPONSE (Or.inr ⟨(hw _ (List.mem_of_getElem? (i := 15) rfl)), (hw _ (List.mem_of_getElem? (i := 29) rfl))⟩)
  obtain ⟨PacketType_NOOP, ev_PacketType_NOOP⟩ := exa_v m16a
  have E_PacketType_NOOP : Exa s s.heap PacketType_NOOP "com/example/ajenda/ajenda/port4730/PacketType" := Exa.start ev_PacketType_NOOP m16a
  have S_PacketType_NOOP : Sta s s.heap "com/example/ajenda/ajenda/port4730/PacketType" "NOOP" "Lcom/example/ajenda/ajenda/port4730/PacketType;" (.ref PacketType_NOOP) := Sta.start ev_PacketType_NOOP (Or.inr ⟨(hw _ (List.mem_of_getElem? (i := 6) rfl)), (hw _ (List.mem_of_getElem? (i := 31) rfl))⟩)
  obtain ⟨PacketType_GRAB_JOB, ev_PacketType_GRAB_JOB⟩ := exa_v m18a
  have E_PacketType_GRAB_JOB : Exa s s.heap PacketType_GRAB_JOB "com/example/ajenda/ajenda/port4730/PacketType" := Exa.start ev_PacketType_GRAB_JOB m18a
  have S_PacketType_GRAB_JOB : Sta s s.heap "com/example/ajenda/ajenda/port4730/PacketType" "GRAB_JOB" "Lcom/example/ajenda/ajenda/port4730/PacketType;" (.ref PacketType_GRAB_JOB) := Sta.start ev_PacketType_GRAB_JOB (Or.inr ⟨(hw _ (List.mem_of_getElem? (i := 6) rfl)), (hw _ (List.mem_of_getElem? (i := 33) rfl))⟩)
  obtain ⟨PacketType_RESET_ABILITIES, ev_PacketType_RESET_ABILITIES⟩ := exa_v m20a
  have E_PacketType_RESET_ABILITIES : Exa s s.heap PacketType_RESET_ABILITIES "com/example/ajenda/ajenda/port4730/PacketType" := Exa.start ev_PacketType_RESET_ABILITIES m20a
  have S_PacketType_RESET_ABILITIES : Sta s s.heap "com/example/ajenda/ajenda/port4730/PacketType" "RESET_ABILITIES" "Lcom/example/ajenda/ajenda/port4730/PacketType;" (.ref PacketType_RESET_ABILITIES) := Sta.start ev_PacketType_RESET_ABILITIES (Or.inr ⟨(hw _ (List.mem_of_getElem? (i := 6) rfl)), (hw _ (List.mem_of_getElem? (i := 35) rfl))⟩)
  obtain ⟨PacketType_WORK_COMPLETE, ev_PacketType_WORK_COMPLETE⟩ := exa_v m22a
  have E_PacketType_WORK_COMPLETE : Exa s s.heap PacketType_WORK_COMPLETE "com/example/ajenda/ajenda/port4730/PacketType" := Exa.start ev_PacketType_WORK_COMPLETE m22a
  have S_PacketType_WORK_COMPLETE : Sta s s.heap "com/example/ajenda/ajenda/port4730/PacketType" "WORK_COMPLETE" "Lcom/example/ajenda/ajenda/port4730/PacketType;" (.ref PacketType_WORK_COMPLETE) := Sta.start ev_PacketType_WORK_COMPLETE (Or.inr ⟨(hw _ (List.mem_of_getElem? (i := 6) rfl)), (hw _ (List.mem_of_getElem? (i := 37) rfl))⟩)
  obtain ⟨PacketType_Direction_BOTH, ev_PacketType_Direction_BOTH⟩ := exa_v m23a
  have E_PacketType_Direction_BOTH : Exa s s.heap PacketType_Direction_BOTH "com/example/ajenda/ajenda/port4730/PacketType$Direction" := Exa.start ev_PacketType_Direction_BOTH m23a
  have S_PacketType_Direction_BOTH : Sta s s.heap "com/example/ajenda/ajenda/port4730/PacketType$Direction" "BOTH" "Lcom/example/ajenda/ajenda/port4730/PacketType$Direction;" (.ref PacketType_Direction_BOTH) := Sta.start ev_PacketType_Direction_BOTH (Or.inr ⟨(hw _ (List.mem_of_getElem? (i := 15) rfl)), (hw _ (List.mem_of_getElem? (i := 38) rfl))⟩)
  obtain ⟨PacketType_WORK_STATUS, ev_PacketType_WORK_STATUS⟩ := exa_v m26a
  have E_PacketType_WORK_STATUS : Exa s s.heap PacketType_WORK_STATUS "com/example/ajenda/ajenda/port4730/PacketType" := Exa.start ev_PacketType_WORK_STATUS m26a
  have S_PacketType_WORK_STATUS : Sta s s.heap "com/example/ajenda/ajenda/port4730/PacketType" "WORK_STATUS" "Lcom/example/ajenda/ajenda/port4730/PacketType;" (.ref PacketType_WORK_STATUS) := Sta.start ev_PacketType_WORK_STATUS (Or.inr ⟨(hw _ (List.mem_of_getElem? (i := 6) rfl)), (hw _ (List.mem_of_getElem? (i := 40) rfl))⟩)
  obtain ⟨PacketType_NO_JOB, ev_PacketType_NO_JOB⟩ := exa_v m28a
  have E_PacketType_NO_JOB : Exa s s.heap PacketType_NO_JOB "com/example/ajenda/ajenda/port4730/PacketType" := Exa.start ev_PacketType_NO_JOB m28a
  have S_PacketType_NO_JOB : Sta s s.heap "com/example/ajenda/ajenda/port4730/PacketType" "NO_JOB" "Lcom/example/ajenda/ajenda/port4730/PacketType;" (.ref PacketType_NO_JOB) := Sta.start ev_PacketType_NO_JOB (Or.inr ⟨(hw _ (List.mem_of_getElem? (i := 6) rfl)), (hw _ (List.mem_of_getElem? (i := 42) rfl))⟩)
  obtain ⟨PacketType_CANT_DO, ev_PacketType_CANT_DO⟩ := exa_v m30a
  have E_PacketType_CANT_DO : Exa s s.heap PacketType_CANT_DO "com/example/ajenda/ajenda/port4730/PacketType" := Exa.start ev_PacketType_CANT_DO m30a
  have S_PacketType_CANT_DO : Sta s s.heap "com/example/ajenda/ajenda/port4730/PacketType" "CANT_DO" "Lcom/example/ajenda/ajenda/port4730/PacketType;" (.ref PacketType_CANT_DO) := Sta.start ev_PacketType_CANT_DO (Or.inr ⟨(hw _ (List.mem_of_getElem? (i := 6) rfl)), (hw _ (List.mem_of_getElem? (i := 44) rfl))⟩)
  obtain ⟨PacketType_ECHO_REQ, ev_PacketType_ECHO_REQ⟩ := exa_v m32a
  have E_PacketType_ECHO_REQ : Exa s s.heap PacketType_ECHO_REQ "com/example/ajenda/ajenda/port4730/PacketType" := Exa.start ev_PacketType_ECHO_REQ m32a
  have S_PacketType_ECHO_REQ : Sta s s.heap "com/example/ajenda/ajenda/port4730/PacketType" "ECHO_REQ" "Lcom/example/ajenda/ajenda/port4730/PacketType;" (.ref PacketType_ECHO_REQ) := Sta.start ev_PacketType_ECHO_REQ (Or.inr ⟨(hw _ (List.mem_of_getElem? (i := 6) rfl)), (hw _ (List.mem_of_getElem? (i := 46) rfl))⟩)
  obtain ⟨PacketType_ECHO_RES, ev_PacketType_ECHO_RES⟩ := exa_v m34a
  have E_PacketType_ECHO_RES : Exa s s.heap PacketType_ECHO_RES "com/example/ajenda/ajenda/port4730/PacketType" := Exa.start ev_PacketType_ECHO_RES m34a
  have S_PacketType_ECHO_RES : Sta s s.heap "com/example/ajenda/ajenda/port4730/PacketType" "ECHO_RES" "Lcom/example/ajenda/ajenda/port4730/PacketType;" (.ref PacketType_ECHO_RES) := Sta.start ev_PacketType_ECHO_RES (Or.inr ⟨(hw _ (List.mem_of_getElem? (i := 6) rfl)), (hw _ (List.mem_of_getElem? (i := 48) rfl))⟩)
  obtain ⟨PacketType_SUBMIT_JOB_LOW, ev_PacketType_SUBMIT_JOB_LOW⟩ := exa_v m36a
  have E_PacketType_SUBMIT_JOB_LOW : Exa s s.heap PacketType_SUBMIT_JOB_LOW "com/example/ajenda/ajenda/port4730/PacketType" := Exa.start ev_PacketType_SUBMIT_JOB_LOW m36a
  have S_PacketType_SUBMIT_JOB_LOW : Sta s s.heap "com/example/ajenda/ajenda/port4730/PacketType" "SUBMIT_JOB_LOW" "Lcom/example/ajenda/ajenda/port4730/PacketType;" (.ref PacketType_SUBMIT_JOB_LOW) := Sta.start ev_PacketType_SUBMIT_JOB_LOW (Or.inr ⟨(hw _ (List.mem_of_getElem? (i := 6) rfl)), (hw _ (List.mem_of_getElem? (i := 50) rfl))⟩)
  obtain ⟨PacketType_SUBMIT_JOB_HIGH, ev_PacketType_SUBMIT_JOB_HIGH⟩ := exa_v m38a
  have E_PacketType_SUBMIT_JOB_HIGH : Exa s s.heap PacketType_SUBMIT_JOB_HIGH "com/example/ajenda/ajenda/port4730/PacketType" := Exa.start ev_PacketType_SUBMIT_JOB_HIGH m38a
  have S_PacketType_SUBMIT_JOB_HIGH : Sta s s.heap "com/example/ajenda/ajenda/port4730/PacketType" "SUBMIT_JOB_HIGH" "Lcom/example/ajenda/ajenda/port4730/PacketType;" (.ref PacketType_SUBMIT_JOB_HIGH) := Sta.start ev_PacketType_SUBMIT_JOB_HIGH (Or.inr ⟨(hw _ (List.mem_of_getElem? (i := 6) rfl)), (hw _ (List.mem_of_getElem? (i := 52) rfl))⟩)
  obtain ⟨PacketType_SUBMIT_JOB_BG, ev_PacketType_SUBMIT_JOB_BG⟩ := exa_v m40a
  have E_PacketType_SUBMIT_JOB_BG : Exa s s.heap PacketType_SUBMIT_JOB_BG "com/example/ajenda/ajenda/port4730/PacketType" := Exa.start ev_PacketType_SUBMIT_JOB_BG m40a
  have S_PacketType_SUBMIT_JOB_BG : Sta s s.heap "com/example/ajenda/ajenda/port4730/PacketType" "SUBMIT_JOB_BG" "Lcom/example/ajenda/ajenda/port4730/PacketType;" (.ref PacketType_SUBMIT_JOB_BG) := Sta.start ev_PacketType_SUBMIT_JOB_BG (Or.inr ⟨(hw _ (List.mem_of_getElem? (i := 6) rfl)), (hw _ (List.mem_of_getElem? (i := 54) rfl))⟩)
  obtain ⟨PacketType_WORK_WARNING, ev_PacketType_WORK_WARNING⟩ := exa_v m42a
  have E_PacketType_WORK_WARNING : Exa s s.heap PacketType_WORK_WARNING "com/example/ajenda/ajenda/port4730/PacketType" := Exa.start ev_PacketType_WORK_WARNING m42a
  have S_PacketType_WORK_WARNING : Sta s s.heap "com/example/ajenda/ajenda/port4730/PacketType" "WORK_WARNING" "Lcom/example/ajenda/ajenda/port4730/PacketType;" (.ref PacketType_WORK_WARNING) := Sta.start ev_PacketType_WORK_WARNING (Or.inr ⟨(hw _ (List.mem_of_getElem? (i := 6) rfl)), (hw _ (List.mem_of_getElem? (i := 56) rfl))⟩)
  obtain ⟨PacketType_ALL_YOURS, ev_PacketType_ALL_YOURS⟩ := exa_v m44a
  have E_PacketType_ALL_YOURS : Exa s s.heap PacketType_ALL_YOURS "com/example/ajenda/ajenda/port4730/PacketType" := Exa.start ev_PacketType_ALL_YOURS m44a
  have S_PacketType_ALL_YOURS : Sta s s.heap "com/example/ajenda/ajenda/port4730/PacketType" "ALL_YOURS" "Lcom/example/ajenda/ajenda/port4730/PacketType;" (.ref PacketType_ALL_YOURS) := Sta.start ev_PacketType_ALL_YOURS (Or.inr ⟨(hw _ (List.mem_of_getElem? (i := 6) rfl)), (hw _ (List.mem_of_getElem? (i := 58) rfl))⟩)
  obtain ⟨PacketType_ERROR, ev_PacketType_ERROR⟩ := exa_v m46a
  have E_PacketType_ERROR : Exa s s.heap PacketType_ERROR "com/example/ajenda/ajenda/port4730/PacketType" := Exa.start ev_PacketType_ERROR m46a
  have S_PacketType_ERROR : Sta s s.heap "com/example/ajenda/ajenda/port4730/PacketType" "ERROR" "Lcom/example/ajenda/ajenda/port4730/PacketType;" (.ref PacketType_ERROR) := Sta.start ev_PacketType_ERROR (Or.inr ⟨(hw _ (List.mem_of_getElem? (i := 6) rfl)), (hw _ (List.mem_of_getElem? (i := 60) rfl))⟩)
  obtain ⟨PacketType_SET_CLIENT_ID, ev_PacketType_SET_CLIENT_ID⟩ := exa_v m48a
  have E_PacketType_SET_CLIENT_ID : Exa s s.heap PacketType_SET_CLIENT_ID "com/example/ajenda/ajenda/port4730/PacketType" := Exa.start ev_PacketType_SET_CLIENT_ID m48a
  have S_PacketType_SET_CLIENT_ID : Sta s s.heap "com/example/ajenda/ajenda/port4730/PacketType" "SET_CLIENT_ID" "Lcom/example/ajenda/ajenda/port4730/PacketType;" (.ref PacketType_SET_CLIENT_ID) := Sta.start ev_PacketType_SET_CLIENT_ID (Or.inr ⟨(hw _ (List.mem_of_getElem? (i := 6) rfl)), (hw _ (List.mem_of_getElem? (i := 62) rfl))⟩)
  obtain ⟨PacketType_STATUS_RES, ev_PacketType_STATUS_RES⟩ := exa_v m50a
  have E_PacketType_STATUS_RES : Exa s s.heap PacketType_STATUS_RES "com/example/ajenda/ajenda/port4730/PacketType" := Exa.start ev_PacketType_STATUS_RES m50a
  have S_PacketType_STATUS_RES : Sta s s.heap "com/example/ajenda/ajenda/port4730/PacketType" "STATUS_RES" "Lcom/example/ajenda/ajenda/port4730/PacketType;" (.ref PacketType_STATUS_RES) := Sta.start ev_PacketType_STATUS_RES (Or.inr ⟨(hw _ (List.mem_of_getElem? (i := 6) rfl)), (hw _ (List.mem_of_getElem? (i := 64) rfl))⟩)
  obtain ⟨PacketType_JOB_ASSIGN, ev_PacketType_JOB_ASSIGN⟩ := exa_v m52a
  have E_PacketType_JOB_ASSIGN : Exa s s.heap PacketType_JOB_ASSIGN "com/example/ajenda/ajenda/port4730/PacketType" := Exa.start ev_PacketType_JOB_ASSIGN m52a
  have S_PacketType_JOB_ASSIGN : Sta s s.heap "com/example/ajenda/ajenda/port4730/PacketType" "JOB_ASSIGN" "Lcom/example/ajenda/ajenda/port4730/PacketType;" (.ref PacketType_JOB_ASSIGN) := Sta.start ev_PacketType_JOB_ASSIGN (Or.inr ⟨(hw _ (List.mem_of_getElem? (i := 6) rfl)), (hw _ (List.mem_of_getElem? (i := 66) rfl))⟩)
  obtain ⟨PacketType_JOB_ASSIGN_UNIQ, ev_PacketType_JOB_ASSIGN_UNIQ⟩ := exa_v m54a
  have E_PacketType_JOB_ASSIGN_UNIQ : Exa s s.heap PacketType_JOB_ASSIGN_UNIQ "com/example/ajenda/ajenda/port4730/PacketType" := Exa.start ev_PacketType_JOB_ASSIGN_UNIQ m54a
  have S_PacketType_JOB_ASSIGN_UNIQ : Sta s s.heap "com/example/ajenda/ajenda/port4730/PacketType" "JOB_ASSIGN_UNIQ" "Lcom/example/ajenda/ajenda/port4730/PacketType;" (.ref PacketType_JOB_ASSIGN_UNIQ) := Sta.start ev_PacketType_JOB_ASSIGN_UNIQ (Or.inr ⟨(hw _ (List.mem_of_getElem? (i := 6) rfl)), (hw _ (List.mem_of_getElem? (i := 68) rfl))⟩)
  obtain ⟨PacketType_WORK_FAIL, ev_PacketType_WORK_FAIL⟩ := exa_v m56a
  have E_PacketType_WORK_FAIL : Exa s s.heap PacketType_WORK_FAIL "com/example/ajenda/ajenda/port4730/PacketType" := Exa.start ev_PacketType_WORK_FAIL m56a
  have S_PacketType_WORK_FAIL : Sta s s.heap "com/example/ajenda/ajenda/port4730/PacketType" "WORK_FAIL" "Lcom/example/ajenda/ajenda/port4730/PacketType;" (.ref PacketType_WORK_FAIL) := Sta.start ev_PacketType_WORK_FAIL (Or.inr ⟨(hw _ (List.mem_of_getElem? (i := 6) rfl)), (hw _ (List.mem_of_getElem? (i := 70) rfl))⟩)
  obtain ⟨PacketType_SUBMIT_JOB_SCHED, ev_PacketType_SUBMIT_JOB_SCHED⟩ := exa_v m58a
  have E_PacketType_SUBMIT_JOB_SCHED : Exa s s.heap PacketType_SUBMIT_JOB_SCHED "com/example/ajenda/ajenda/port4730/PacketType" := Exa.start ev_PacketType_SUBMIT_JOB_SCHED m58a
  have S_PacketType_SUBMIT_JOB_SCHED : Sta s s.heap "com/example/ajenda/ajenda/port4730/PacketType" "SUBMIT_JOB_SCHED" "Lcom/example/ajenda/ajenda/port4730/PacketType;" (.ref PacketType_SUBMIT_JOB_SCHED) := Sta.start ev_PacketType_SUBMIT_JOB_SCHED (Or.inr ⟨(hw _ (List.mem_of_getElem? (i := 6) rfl)), (hw _ (List.mem_of_getElem? (i := 72) rfl))⟩)
  obtain ⟨PacketType_WORK_EXCEPTION, ev_PacketType_WORK_EXCEPTION⟩ := exa_v m60a
  have E_PacketType_WORK_EXCEPTION : Exa s s.heap PacketType_WORK_EXCEPTION "com/example/ajenda/ajenda/port4730/PacketType" := Exa.start ev_PacketType_WORK_EXCEPTION m60a
  have S_PacketType_WORK_EXCEPTION : Sta s s.heap "com/example/ajenda/ajenda/port4730/PacketType" "WORK_EXCEPTION" "Lcom/example/ajenda/ajenda/port4730/PacketType;" (.ref PacketType_WORK_EXCEPTION) := Sta.start ev_PacketType_WORK_EXCEPTION (Or.inr ⟨(hw _ (List.mem_of_getElem? (i := 6) rfl)), (hw _ (List.mem_of_getElem? (i := 74) rfl))⟩)
  obtain ⟨PacketType_OPTION_REQ, ev_PacketType_OPTION_REQ⟩ := exa_v m62a
  have E_PacketType_OPTION_REQ : Exa s s.heap PacketType_OPTION_REQ "com/example/ajenda/ajenda/port4730/PacketType" := Exa.start ev_PacketType_OPTION_REQ m62a
  have S_PacketType_OPTION_REQ : Sta s s.heap "com/example/ajenda/ajenda/port4730/PacketType" "OPTION_REQ" "Lcom/example/ajenda/ajenda/port4730/PacketType;" (.ref PacketType_OPTION_REQ) := Sta.start ev_PacketType_OPTION_REQ (Or.inr ⟨(hw _ (List.mem_of_getElem? (i := 6) rfl)), (hw _ (List.mem_of_getElem? (i := 76) rfl))⟩)
  obtain ⟨PacketType_CAN_DO_TIMEOUT, ev_PacketType_CAN_DO_TIMEOUT⟩ := exa_v m64a
  have E_PacketType_CAN_DO_TIMEOUT : Exa s s.heap PacketType_CAN_DO_TIMEOUT "com/example/ajenda/ajenda/port4730/PacketType" := Exa.start ev_PacketType_CAN_DO_TIMEOUT m64a
  have S_PacketType_CAN_DO_TIMEOUT : Sta s s.heap "com/example/ajenda/ajenda/port4730/PacketType" "CAN_DO_TIMEOUT" "Lcom/example/ajenda/ajenda/port4730/PacketType;" (.ref PacketType_CAN_DO_TIMEOUT) := Sta.start ev_PacketType_CAN_DO_TIMEOUT (Or.inr ⟨(hw _ (List.mem_of_getElem? (i := 6) rfl)), (hw _ (List.mem_of_getElem? (i := 78) rfl))⟩)
  obtain ⟨PacketType_OPTION_RES, ev_PacketType_OPTION_RES⟩ := exa_v m66a
  have E_PacketType_OPTION_RES : Exa s s.heap PacketType_OPTION_RES "com/example/ajenda/ajenda/port4730/PacketType" := Exa.start ev_PacketType_OPTION_RES m66a
  have S_PacketType_OPTION_RES : Sta s s.heap "com/example/ajenda/ajenda/port4730/PacketType" "OPTION_RES" "Lcom/example/ajenda/ajenda/port4730/PacketType;" (.ref PacketType_OPTION_RES) := Sta.start ev_PacketType_OPTION_RES (Or.inr ⟨(hw _ (List.mem_of_getElem? (i := 6) rfl)), (hw _ (List.mem_of_getElem? (i := 80) rfl))⟩)
  obtain ⟨PacketType_SUBMIT_JOB_HIGH_BG, ev_PacketType_SUBMIT_JOB_HIGH_BG⟩ := exa_v m68a
  have E_PacketType_SUBMIT_JOB_HIGH_BG : Exa s s.heap PacketType_SUBMIT_JOB_HIGH_BG "com/example/ajenda/ajenda/port4730/PacketType" := Exa.start ev_PacketType_SUBMIT_JOB_HIGH_BG m68a
  have S_PacketType_SUBMIT_JOB_HIGH_BG : Sta s s.heap "com/example/ajenda/ajenda/port4730/PacketType" "SUBMIT_JOB_HIGH_BG" "Lcom/example/ajenda/ajenda/port4730/PacketType;" (.ref PacketType_SUBMIT_JOB_HIGH_BG) := Sta.start ev_PacketType_SUBMIT_JOB_HIGH_BG (Or.inr ⟨(hw _ (List.mem_of_getElem? (i := 6) rfl)), (hw _ (List.mem_of_getElem? (i := 82) rfl))⟩)
  obtain ⟨PacketType_SUBMIT_JOB_EPOCH, ev_PacketType_SUBMIT_JOB_EPOCH⟩ := exa_v m70a
  have E_PacketType_SUBMIT_JOB_EPOCH : Exa s s.heap PacketType_SUBMIT_JOB_EPOCH "com/example/ajenda/ajenda/port4730/PacketType" := Exa.start ev_PacketType_SUBMIT_JOB_EPOCH m70a
  have S_PacketType_SUBMIT_JOB_EPOCH : Sta s s.heap "com/example/ajenda/ajenda/port4730/PacketType" "SUBMIT_JOB_EPOCH" "Lcom/example/ajenda/ajenda/port4730/PacketType;" (.ref PacketType_SUBMIT_JOB_EPOCH) := Sta.start ev_PacketType_SUBMIT_JOB_EPOCH (Or.inr ⟨(hw _ (List.mem_of_getElem? (i := 6) rfl)), (hw _ (List.mem_of_getElem? (i := 84) rfl))⟩)
  obtain ⟨PacketType_WORK_DATA, ev_PacketType_WORK_DATA⟩ := exa_v m72a
  have E_PacketType_WORK_DATA : Exa s s.heap PacketType_WORK_DATA "com/example/ajenda/ajenda/port4730/PacketType" := Exa.start ev_PacketType_WORK_DATA m72a
  have S_PacketType_WORK_DATA : Sta s s.heap "com/example/ajenda/ajenda/port4730/PacketType" "WORK_DATA" "Lcom/example/ajenda/ajenda/port4730/PacketType;" (.ref PacketType_WORK_DATA) := Sta.start ev_PacketType_WORK_DATA (Or.inr ⟨(hw _ (List.mem_of_getElem? (i := 6) rfl)), (hw _ (List.mem_of_getElem? (i := 86) rfl))⟩)
  obtain ⟨PacketType_GRAB_JOB_UNIQ, ev_PacketType_GRAB_JOB_UNIQ⟩ := exa_v m74a
  have E_PacketType_GRAB_JOB_UNIQ : Exa s s.heap PacketType_GRAB_JOB_UNIQ "com/example/ajenda/ajenda/port4730/PacketType" := Exa.start ev_PacketType_GRAB_JOB_UNIQ m74a
  have S_PacketType_GRAB_JOB_UNIQ : Sta s s.heap "com/example/ajenda/ajenda/port4730/PacketType" "GRAB_JOB_UNIQ" "Lcom/example/ajenda/ajenda/port4730/PacketType;" (.ref PacketType_GRAB_JOB_UNIQ) := Sta.start ev_PacketType_GRAB_JOB_UNIQ (Or.inr ⟨(hw _ (List.mem_of_getElem? (i := 6) rfl)), (hw _ (List.mem_of_getElem? (i := 88) rfl))⟩)
  obtain ⟨PacketType_SUBMIT_JOB_LOW_BG, ev_PacketType_SUBMIT_JOB_LOW_BG⟩ := exa_v m76a
  have E_PacketType_SUBMIT_JOB_LOW_BG : Exa s s.heap PacketType_SUBMIT_JOB_LOW_BG "com/example/ajenda/ajenda/port4730/PacketType" := Exa.start ev_PacketType_SUBMIT_JOB_LOW_BG m76a
  have S_PacketType_SUBMIT_JOB_LOW_BG : Sta s s.heap "com/example/ajenda/ajenda/port4730/PacketType" "SUBMIT_JOB_LOW_BG" "Lcom/example/ajenda/ajenda/port4730/PacketType;" (.ref PacketType_SUBMIT_JOB_LOW_BG) := Sta.start ev_PacketType_SUBMIT_JOB_LOW_BG (Or.inr ⟨(hw _ (List.mem_of_getElem? (i := 6) rfl)), (hw _ (List.mem_of_getElem? (i := 90) rfl))⟩)
  have F_PacketType_CAN_DO_direction : Fld s s.heap PacketType_CAN_DO "com/example/ajenda/ajenda/port4730/PacketType" "direction" "Lcom/example/ajenda/ajenda/port4730/PacketType$Direction;" (.ref PacketType_Direction_REQUEST) := Fld.start ((fld_at ev_PacketType_CAN_DO).symm.trans (own_eqr rfl ev_PacketType_Direction_REQUEST m4a))
  have F_PacketType_PRE_SLEEP_direction : Fld s s.heap PacketType_PRE_SLEEP "com/example/ajenda/ajenda/port4730/PacketType" "direction" "Lcom/example/ajenda/ajenda/port4730/PacketType$Direction;" (.ref PacketType_Direction_REQUEST) := Fld.start ((fld_at ev_PacketType_PRE_SLEEP).symm.trans (own_eqr rfl ev_PacketType_Direction_REQUEST m6a))
  have F_PacketType_SUBMIT_JOB_direction : Fld s s.heap PacketType_SUBMIT_JOB "com/example/ajenda/ajenda/port4730/PacketType" "direction" "Lcom/example/ajenda/ajenda/port4730/PacketType$Direction;" (.ref PacketType_Direction_REQUEST) := Fld.start ((fld_at ev_PacketType_SUBMIT_JOB).symm.trans (own_eqr rfl ev_PacketType_Direction_REQUEST m8a))
  have F_PacketType_GET_STATUS_direction : Fld s s.heap PacketType_GET_STATUS "com/example/ajenda/ajenda/port4730/PacketType" "direction" "Lcom/example/ajenda/ajenda/port4730/PacketType$Direction;" (.ref PacketType_Direction_REQUEST) := Fld.start ((fld_at ev_PacketType_GET_STATUS).symm.trans (own_eqr rfl ev_PacketType_Direction_REQUEST m10a))
  have F_PacketType_JOB_CREATED_direction : Fld s s.heap PacketType_JOB_CREATED "com/example/ajenda/ajenda/port4730/PacketType" "direction" "Lcom/example/ajenda/ajenda/port4730/PacketType$Direction;" (.ref PacketType_Direction_RESPONSE) := Fld.start ((fld_at ev_PacketType_JOB_CREATED).symm.trans (own_eqr rfl ev_PacketType_Direction_RESPONSE m13a))
  have F_PacketType_Direction_RESPONSE_ordinal : Fld s s.heap PacketType_Direction_RESPONSE "java/lang/Enum" "ordinal" "I" (.int (1 : Int32)) := Fld.start ((fld_at ev_PacketType_Direction_RESPONSE).symm.trans (eqv_i (Term.int_eval (1)) m14a))
  have F_PacketType_Direction_REQUEST_ordinal : Fld s s.heap PacketType_Direction_REQUEST "java/lang/Enum" "ordinal" "I" (.int (0 : Int32)) := Fld.start ((fld_at ev_PacketType_Direction_REQUEST).symm.trans (eqv_i (Term.int_eval (0)) m15a))
  have F_PacketType_NOOP_direction : Fld s s.heap PacketType_NOOP "com/example/ajenda/ajenda/port4730/PacketType" "direction" "Lcom/example/ajenda/ajenda/port4730/PacketType$Direction;" (.ref PacketType_Direction_RESPONSE) := Fld.start ((fld_at ev_PacketType_NOOP).symm.trans (own_eqr rfl ev_PacketType_Direction_RESPONSE m17a))
  have F_PacketType_GRAB_JOB_direction : Fld s s.heap PacketType_GRAB_JOB "com/example/ajenda/ajenda/port4730/PacketType" "direction" "Lcom/example/ajenda/ajenda/port4730/PacketType$Direction;" (.ref PacketType_Direction_REQUEST) := Fld.start ((fld_at ev_PacketType_GRAB_JOB).symm.trans (own_eqr rfl ev_PacketType_Direction_REQUEST m19a))
  have F_PacketType_RESET_ABILITIES_direction : Fld s s.heap PacketType_RESET_ABILITIES "com/example/ajenda/ajenda/port4730/PacketType" "direction" "Lcom/example/ajenda/ajenda/port4730/PacketType$Direction;" (.ref PacketType_Direction_REQUEST) := Fld.start ((fld_at ev_PacketType_RESET_ABILITIES).symm.trans (own_eqr rfl ev_PacketType_Direction_REQUEST m21a))
  have F_PacketType_WORK_COMPLETE_direction : Fld s s.heap PacketType_WORK_COMPLETE "com/example/ajenda/ajenda/port4730/PacketType" "direction" "Lcom/example/ajenda/ajenda/port4730/PacketType$Direction;" (.ref PacketType_Direction_BOTH) := Fld.start ((fld_at ev_PacketType_WORK_COMPLETE).symm.trans (own_eqr rfl ev_PacketType_Direction_BOTH m24a))
  have F_PacketType_Direction_BOTH_ordinal : Fld s s.heap PacketType_Direction_BOTH "java/lang/Enum" "ordinal" "I" (.int (2 : Int32)) := Fld.start ((fld_at ev_PacketType_Direction_BOTH).symm.trans (eqv_i (Term.int_eval (2)) m25a))
  have F_PacketType_WORK_STATUS_direction : Fld s s.heap PacketType_WORK_STATUS "com/example/ajenda/ajenda/port4730/PacketType" "direction" "Lcom/example/ajenda/ajenda/port4730/PacketType$Direction;" (.ref PacketType_Direction_BOTH) := Fld.start ((fld_at ev_PacketType_WORK_STATUS).symm.trans (own_eqr rfl ev_PacketType_Direction_BOTH m27a))
  have F_PacketType_NO_JOB_direction : Fld s s.heap PacketType_NO_JOB "com/example/ajenda/ajenda/port4730/PacketType" "direction" "Lcom/example/ajenda/ajenda/port4730/PacketType$Direction;" (.ref PacketType_Direction_RESPONSE) := Fld.start ((fld_at ev_PacketType_NO_JOB).symm.trans (own_eqr rfl ev_PacketType_Direction_RESPONSE m29a))
  have F_PacketType_CANT_DO_direction : Fld s s.heap PacketType_CANT_DO "com/example/ajenda/ajenda/port4730/PacketType" "direction" "Lcom/example/ajenda/ajenda/port4730/PacketType$Direction;" (.ref PacketType_Direction_REQUEST) := Fld.start ((fld_at ev_PacketType_CANT_DO).symm.trans (own_eqr rfl ev_PacketType_Direction_REQUEST m31a))
  have F_PacketType_ECHO_REQ_direction : Fld s s.heap PacketType_ECHO_REQ "com/example/ajenda/ajenda/port4730/PacketType" "direction" "Lcom/example/ajenda/ajenda/port4730/PacketType$Direction;" (.ref PacketType_Direction_REQUEST) := Fld.start ((fld_at ev_PacketType_ECHO_REQ).symm.trans (own_eqr rfl ev_PacketType_Direction_REQUEST m33a))
  have F_PacketType_ECHO_RES_direction : Fld s s.heap PacketType_ECHO_RES "com/example/ajenda/ajenda/port4730/PacketType" "direction" "Lcom/example/ajenda/ajenda/port4730/PacketType$Direction;" (.ref PacketType_Direction_RESPONSE) := Fld.start ((fld_at ev_PacketType_ECHO_RES).symm.trans (own_eqr rfl ev_PacketType_Direction_RESPONSE m35a))
  have F_PacketType_SUBMIT_JOB_LOW_direction : Fld s s.heap PacketType_SUBMIT_JOB_LOW "com/example/ajenda/ajenda/port4730/PacketType" "direction" "Lcom/example/ajenda/ajenda/port4730/PacketType$Direction;" (.ref PacketType_Direction_REQUEST) := Fld.start ((fld_at ev_PacketType_SUBMIT_JOB_LOW).symm.trans (own_eqr rfl ev_PacketType_Direction_REQUEST m37a))
  have F_PacketType_SUBMIT_JOB_HIGH_direction : Fld s s.heap PacketType_SUBMIT_JOB_HIGH "com/example/ajenda/ajenda/port4730/PacketType" "direction" "Lcom/example/ajenda/ajenda/port4730/PacketType$Direction;" (.ref PacketType_Direction_REQUEST) := Fld.start ((fld_at ev_PacketType_SUBMIT_JOB_HIGH).symm.trans (own_eqr rfl ev_PacketType_Direction_REQUEST m39a))
  have F_PacketType_SUBMIT_JOB_BG_direction : Fld s s.heap PacketType_SUBMIT_JOB_BG "com/example/ajenda/ajenda/port4730/PacketType" "direction" "Lcom/example/ajenda/ajenda/port4730/PacketType$Direction;" (.ref PacketType_Direction_REQUEST) := Fld.start ((fld_at ev_PacketType_SUBMIT_JOB_BG).symm.trans (own_eqr rfl ev_PacketType_Direction_REQUEST m41a))
  have F_PacketType_WORK_WARNING_direction : Fld s s.heap PacketType_WORK_WARNING "com/example/ajenda/ajenda/port4730/PacketType" "direction" "Lcom/example/ajenda/ajenda/port4730/PacketType$Direction;" (.ref PacketType_Direction_BOTH) := Fld.start ((fld_at ev_PacketType_WORK_WARNING).symm.trans (own_eqr rfl ev_PacketType_Direction_BOTH m43a))
  have F_PacketType_ALL_YOURS_direction : Fld s s.heap PacketType_ALL_YOURS "com/example/ajenda/ajenda/port4730/PacketType" "direction" "Lcom/example/ajenda/ajenda/port4730/PacketType$Direction;" (.ref PacketType_Direction_REQUEST) := Fld.start ((fld_at ev_PacketType_ALL_YOURS).symm.trans (own_eqr rfl ev_PacketType_Direction_REQUEST m45a))
  have F_PacketType_ERROR_direction : Fld s s.heap PacketType_ERROR "com/example/ajenda/ajenda/port4730/PacketType" "direction" "Lcom/example/ajenda/ajenda/port4730/PacketType$Direction;" (.ref PacketType_Direction_RESPONSE) := Fld.start ((fld_at ev_PacketType_ERROR).symm.trans (own_eqr rfl ev_PacketType_Direction_RESPONSE m47a))
  have F_PacketType_SET_CLIENT_ID_direction : Fld s s.heap PacketType_SET_CLIENT_ID "com/example/ajenda/ajenda/port4730/PacketType" "direction" "Lcom/example/ajenda/ajenda/port4730/PacketType$Direction;" (.ref PacketType_Direction_REQUEST) := Fld.start ((fld_at ev_PacketType_SET_CLIENT_ID).symm.trans (own_eqr rfl ev_PacketType_Direction_REQUEST m49a))
  have F_PacketType_STATUS_RES_direction : Fld s s.heap PacketType_STATUS_RES "com/example/ajenda/ajenda/port4730/PacketType" "direction" "Lcom/example/ajenda/ajenda/port4730/PacketType$Direction;" (.ref PacketType_Direction_RESPONSE) := Fld.start ((fld_at ev_PacketType_STATUS_RES).symm.trans (own_eqr rfl ev_PacketType_Direction_RESPONSE m51a))
  have F_PacketType_JOB_ASSIGN_direction : Fld s s.heap PacketType_JOB_ASSIGN "com/example/ajenda/ajenda/port4730/PacketType" "direction" "Lcom/example/ajenda/ajenda/port4730/PacketType$Direction;" (.ref PacketType_Direction_RESPONSE) := Fld.start ((fld_at ev_PacketType_JOB_ASSIGN).symm.trans (own_eqr rfl ev_PacketType_Direction_RESPONSE m53a))
  have F_PacketType_JOB_ASSIGN_UNIQ_direction : Fld s s.heap PacketType_JOB_ASSIGN_UNIQ "com/example/ajenda/ajenda/port4730/PacketType" "direction" "Lcom/example/ajenda/ajenda/port4730/PacketType$Direction;" (.ref PacketType_Direction_RESPONSE) := Fld.start ((fld_at ev_PacketType_JOB_ASSIGN_UNIQ).symm.trans (own_eqr rfl ev_PacketType_Direction_RESPONSE m55a))
  have F_PacketType_WORK_FAIL_direction : Fld s s.heap PacketType_WORK_FAIL "com/example/ajenda/ajenda/port4730/PacketType" "direction" "Lcom/example/ajenda/ajenda/port4730/PacketType$Direction;" (.ref PacketType_Direction_BOTH) := Fld.start ((fld_at ev_PacketType_WORK_FAIL).symm.trans (own_eqr rfl ev_PacketType_Direction_BOTH m57a))
  have F_PacketType_SUBMIT_JOB_SCHED_direction : Fld s s.heap PacketType_SUBMIT_JOB_SCHED "com/example/ajenda/ajenda/port4730/PacketType" "direction" "Lcom/example/ajenda/ajenda/port4730/PacketType$Direction;" (.ref PacketType_Direction_REQUEST) := Fld.start ((fld_at ev_PacketType_SUBMIT_JOB_SCHED).symm.trans (own_eqr rfl ev_PacketType_Direction_REQUEST m59a))
  have F_PacketType_WORK_EXCEPTION_direction : Fld s s.heap PacketType_WORK_EXCEPTION "com/example/ajenda/ajenda/port4730/PacketType" "direction" "Lcom/example/ajenda/ajenda/port4730/PacketType$Direction;" (.ref PacketType_Direction_BOTH) := Fld.start ((fld_at ev_PacketType_WORK_EXCEPTION).symm.trans (own_eqr rfl ev_PacketType_Direction_BOTH m61a))
  have F_PacketType_OPTION_REQ_direction : Fld s s.heap PacketType_OPTION_REQ "com/example/ajenda/ajenda/port4730/PacketType" "direction" "Lcom/example/ajenda/ajenda/port4730/PacketType$Direction;" (.ref PacketType_Direction_REQUEST) := Fld.start ((fld_at ev_PacketType_OPTION_REQ).symm.trans (own_eqr rfl ev_PacketType_Direction_REQUEST m63a))
  have F_PacketType_CAN_DO_TIMEOUT_direction : Fld s s.heap PacketType_CAN_DO_TIMEOUT "com/example/ajenda/ajenda/port4730/PacketType" "direction" "Lcom/example/ajenda/ajenda/port4730/PacketType$Direction;" (.ref PacketType_Direction_REQUEST) := Fld.start ((fld_at ev_PacketType_CAN_DO_TIMEOUT).symm.trans (own_eqr rfl ev_PacketType_Direction_REQUEST m65a))
  have F_PacketType_OPTION_RES_direction : Fld s s.heap PacketType_OPTION_RES "com/example/ajenda/ajenda/port4730/PacketType" "direction" "Lcom/example/ajenda/ajenda/port4730/PacketType$Direction;" (.ref PacketType_Direction_RESPONSE) := Fld.start ((fld_at ev_PacketType_OPTION_RES).symm.trans (own_eqr rfl ev_PacketType_Direction_RESPONSE m67a))
  have F_PacketType_SUBMIT_JOB_HIGH_BG_direction : Fld s s.heap PacketType_SUBMIT_JOB_HIGH_BG "com/example/ajenda/ajenda/port4730/PacketType" "direction" "Lcom/example/ajenda/ajenda/port4730/PacketType$Direction;" (.ref PacketType_Direction_REQUEST) := Fld.start ((fld_at ev_PacketType_SUBMIT_JOB_HIGH_BG).symm.trans (own_eqr rfl ev_PacketType_Direction_REQUEST m69a))
  have F_PacketType_SUBMIT_JOB_EPOCH_direction : Fld s s.heap PacketType_SUBMIT_JOB_EPOCH "com/example/ajenda/ajenda/port4730/PacketType" "direction" "Lcom/example/ajenda/ajenda/port4730/PacketType$Direction;" (.ref PacketType_Direction_REQUEST) := Fld.start ((fld_at ev_PacketType_SUBMIT_JOB_EPOCH).symm.trans (own_eqr rfl ev_PacketType_Direction_REQUEST m71a))
  have F_PacketType_WORK_DATA_direction : Fld s s.heap PacketType_WORK_DATA "com/example/ajenda/ajenda/port4730/PacketType" "direction" "Lcom/example/ajenda/ajenda/port4730/PacketType$Direction;" (.ref PacketType_Direction_BOTH) := Fld.start ((fld_at ev_PacketType_WORK_DATA).symm.trans (own_eqr rfl ev_PacketType_Direction_BOTH m73a))
  have F_PacketType_GRAB_JOB_UNIQ_direction : Fld s s.heap PacketType_GRAB_JOB_UNIQ "com/example/ajenda/ajenda/port4730/PacketType" "direction" "Lcom/example/ajenda/ajenda/port4730/PacketType$Direction;" (.ref PacketType_Direction_REQUEST) := Fld.start ((fld_at ev_PacketType_GRAB_JOB_UNIQ).symm.trans (own_eqr rfl ev_PacketType_Direction_REQUEST m75a))
  have F_PacketType_SUBMIT_JOB_LOW_BG_direction : Fld s s.heap PacketType_SUBMIT_JOB_LOW_BG "com/example/ajenda/ajenda/port4730/PacketType" "direction" "Lcom/example/ajenda/ajenda/port4730/PacketType$Direction;" (.ref PacketType_Direction_REQUEST) := Fld.start ((fld_at ev_PacketType_SUBMIT_JOB_LOW_BG).symm.trans (own_eqr rfl ev_PacketType_Direction_REQUEST m76b))
  have hE : ∀ n, own_ok n → Exa s s.heap (([0, PacketType_CAN_DO, PacketType_CANT_DO, PacketType_RESET_ABILITIES, PacketType_PRE_SLEEP, 0, PacketType_NOOP, PacketType_SUBMIT_JOB, PacketType_JOB_CREATED, PacketType_GRAB_JOB, PacketType_NO_JOB, PacketType_JOB_ASSIGN, PacketType_WORK_STATUS, PacketType_WORK_COMPLETE, PacketType_WORK_FAIL, PacketType_GET_STATUS, PacketType_ECHO_REQ, PacketType_ECHO_RES, PacketType_SUBMIT_JOB_BG, PacketType_ERROR, PacketType_STATUS_RES, PacketType_SUBMIT_JOB_HIGH, PacketType_SET_CLIENT_ID, PacketType_CAN_DO_TIMEOUT, PacketType_ALL_YOURS, PacketType_WORK_EXCEPTION, PacketType_OPTION_REQ, PacketType_OPTION_RES, PacketType_WORK_DATA, PacketType_WORK_WARNING, PacketType_GRAB_JOB_UNIQ, PacketType_JOB_ASSIGN_UNIQ, PacketType_SUBMIT_JOB_HIGH_BG, PacketType_SUBMIT_JOB_LOW, PacketType_SUBMIT_JOB_LOW_BG, PacketType_SUBMIT_JOB_SCHED, PacketType_SUBMIT_JOB_EPOCH] : List Addr).getD n.toNatClampNeg 0) "com/example/ajenda/ajenda/port4730/PacketType" := by
    intro n hn; rcases hn with rfl | rfl | rfl | rfl | rfl | rfl | rfl | rfl | rfl | rfl | rfl | rfl | rfl | rfl | rfl | rfl | rfl | rfl | rfl | rfl | rfl | rfl | rfl | rfl | rfl | rfl | rfl | rfl | rfl | rfl | rfl | rfl | rfl | rfl | rfl
    · rw [(by decide : (1 : Int32).toNatClampNeg = 1)]; exact E_PacketType_CAN_DO
    · rw [(by decide : (2 : Int32).toNatClampNeg = 2)]; exact E_PacketType_CANT_DO
    · rw [(by decide : (3 : Int32).toNatClampNeg = 3)]; exact E_PacketType_RESET_ABILITIES
    · rw [(by decide : (4 : Int32).toNatClampNeg = 4)]; exact E_PacketType_PRE_SLEEP
    · rw [(by decide : (6 : Int32).toNatClampNeg = 6)]; exact E_PacketType_NOOP
    · rw [(by decide : (7 : Int32).toNatClampNeg = 7)]; exact E_PacketType_SUBMIT_JOB
    · rw [(by decide : (8 : Int32).toNatClampNeg = 8)]; exact E_PacketType_JOB_CREATED
    · rw [(by decide : (9 : Int32).toNatClampNeg = 9)]; exact E_PacketType_GRAB_JOB
    · rw [(by decide : (10 : Int32).toNatClampNeg = 10)]; exact E_PacketType_NO_JOB
    · rw [(by decide : (11 : Int32).toNatClampNeg = 11)]; exact E_PacketType_JOB_ASSIGN
    · rw [(by decide : (12 : Int32).toNatClampNeg = 12)]; exact E_PacketType_WORK_STATUS
    · rw [(by decide : (13 : Int32).toNatClampNeg = 13)]; exact E_PacketType_WORK_COMPLETE
    · rw [(by decide : (14 : Int32).toNatClampNeg = 14)]; exact E_PacketType_WORK_FAIL
    · rw [(by decide : (15 : Int32).toNatClampNeg = 15)]; exact E_PacketType_GET_STATUS
    · rw [(by decide : (16 : Int32).toNatClampNeg = 16)]; exact E_PacketType_ECHO_REQ
    · rw [(by decide : (17 : Int32).toNatClampNeg = 17)]; exact E_PacketType_ECHO_RES
    · rw [(by decide : (18 : Int32).toNatClampNeg = 18)]; exact E_PacketType_SUBMIT_JOB_BG
    · rw [(by decide : (19 : Int32).toNatClampNeg = 19)]; exact E_PacketType_ERROR
    · rw [(by decide : (20 : Int32).toNatClampNeg = 20)]; exact E_PacketType_STATUS_RES
    · rw [(by decide : (21 : Int32).toNatClampNeg = 21)]; exact E_PacketType_SUBMIT_JOB_HIGH
    · rw [(by decide : (22 : Int32).toNatClampNeg = 22)]; exact E_PacketType_SET_CLIENT_ID
    · rw [(by decide : (23 : Int32).toNatClampNeg = 23)]; exact E_PacketType_CAN_DO_TIMEOUT
    · rw [(by decide : (24 : Int32).toNatClampNeg = 24)]; exact E_PacketType_ALL_YOURS
    · rw [(by decide : (25 : Int32).toNatClampNeg = 25)]; exact E_PacketType_WORK_EXCEPTION
    · rw [(by decide : (26 : Int32).toNatClampNeg = 26)]; exact E_PacketType_OPTION_REQ
    · rw [(by decide : (27 : Int32).toNatClampNeg = 27)]; exact E_PacketType_OPTION_RES
    · rw [(by decide : (28 : Int32).toNatClampNeg = 28)]; exact E_PacketType_WORK_DATA
    · rw [(by decide : (29 : Int32).toNatClampNeg = 29)]; exact E_PacketType_WORK_WARNING
    · rw [(by decide : (30 : Int32).toNatClampNeg = 30)]; exact E_PacketType_GRAB_JOB_UNIQ
    · rw [(by decide : (31 : Int32).toNatClampNeg = 31)]; exact E_PacketType_JOB_ASSIGN_UNIQ
    · rw [(by decide : (32 : Int32).toNatClampNeg = 32)]; exact E_PacketType_SUBMIT_JOB_HIGH_BG
    · rw [(by decide : (33 : Int32).toNatClampNeg = 33)]; exact E_PacketType_SUBMIT_JOB_LOW
    · rw [(by decide : (34 : Int32).toNatClampNeg = 34)]; exact E_PacketType_SUBMIT_JOB_LOW_BG
    · rw [(by decide : (35 : Int32).toNatClampNeg = 35)]; exact E_PacketType_SUBMIT_JOB_SCHED
    · rw [(by decide : (36 : Int32).toNatClampNeg = 36)]; exact E_PacketType_SUBMIT_JOB_EPOCH
  have hF' : ∀ n, own_ok n → Fld s s.heap (([0, PacketType_CAN_DO, PacketType_CANT_DO, PacketType_RESET_ABILITIES, PacketType_PRE_SLEEP, 0, PacketType_NOOP, PacketType_SUBMIT_JOB, PacketType_JOB_CREATED, PacketType_GRAB_JOB, PacketType_NO_JOB, PacketType_JOB_ASSIGN, PacketType_WORK_STATUS, PacketType_WORK_COMPLETE, PacketType_WORK_FAIL, PacketType_GET_STATUS, PacketType_ECHO_REQ, PacketType_ECHO_RES, PacketType_SUBMIT_JOB_BG, PacketType_ERROR, PacketType_STATUS_RES, PacketType_SUBMIT_JOB_HIGH, PacketType_SET_CLIENT_ID, PacketType_CAN_DO_TIMEOUT, PacketType_ALL_YOURS, PacketType_WORK_EXCEPTION, PacketType_OPTION_REQ, PacketType_OPTION_RES, PacketType_WORK_DATA, PacketType_WORK_WARNING, PacketType_GRAB_JOB_UNIQ, PacketType_JOB_ASSIGN_UNIQ, PacketType_SUBMIT_JOB_HIGH_BG, PacketType_SUBMIT_JOB_LOW, PacketType_SUBMIT_JOB_LOW_BG, PacketType_SUBMIT_JOB_SCHED, PacketType_SUBMIT_JOB_EPOCH] : List Addr).getD n.toNatClampNeg 0) "com/example/ajenda/ajenda/port4730/PacketType" "direction" "Lcom/example/ajenda/ajenda/port4730/PacketType$Direction;" (.ref (([0, PacketType_Direction_REQUEST, PacketType_Direction_REQUEST, PacketType_Direction_REQUEST, PacketType_Direction_REQUEST, 0, PacketType_Direction_RESPONSE, PacketType_Direction_REQUEST, PacketType_Direction_RESPONSE, PacketType_Direction_REQUEST, PacketType_Direction_RESPONSE, PacketType_Direction_RESPONSE, PacketType_Direction_BOTH, PacketType_Direction_BOTH, PacketType_Direction_BOTH, PacketType_Direction_REQUEST, PacketType_Direction_REQUEST, PacketType_Direction_RESPONSE, PacketType_Direction_REQUEST, PacketType_Direction_RESPONSE, PacketType_Direction_RESPONSE, PacketType_Direction_REQUEST, PacketType_Direction_REQUEST, PacketType_Direction_REQUEST, PacketType_Direction_REQUEST, PacketType_Direction_BOTH, PacketType_Direction_REQUEST, PacketType_Direction_RESPONSE, PacketType_Direction_BOTH, PacketType_Direction_BOTH, PacketType_Direction_REQUEST, PacketType_Direction_RESPONSE, PacketType_Direction_REQUEST, PacketType_Direction_REQUEST, PacketType_Direction_REQUEST, PacketType_Direction_REQUEST, PacketType_Direction_REQUEST] : List Addr).getD n.toNatClampNeg 0)) := by
    intro n hn; rcases hn with rfl | rfl | rfl | rfl | rfl | rfl | rfl | rfl | rfl | rfl | rfl | rfl | rfl | rfl | rfl | rfl | rfl | rfl | rfl | rfl | rfl | rfl | rfl | rfl | rfl | rfl | rfl | rfl | rfl | rfl | rfl | rfl | rfl | rfl | rfl
    · rw [(by decide : (1 : Int32).toNatClampNeg = 1)]; exact F_PacketType_CAN_DO_direction
    · rw [(by decide : (2 : Int32).toNatClampNeg = 2)]; exact F_PacketType_CANT_DO_direction
    · rw [(by decide : (3 : Int32).toNatClampNeg = 3)]; exact F_PacketType_RESET_ABILITIES_direction
    · rw [(by decide : (4 : Int32).toNatClampNeg = 4)]; exact F_PacketType_PRE_SLEEP_direction
    · rw [(by decide : (6 : Int32).toNatClampNeg = 6)]; exact F_PacketType_NOOP_direction
    · rw [(by decide : (7 : Int32).toNatClampNeg = 7)]; exact F_PacketType_SUBMIT_JOB_direction
    · rw [(by decide : (8 : Int32).toNatClampNeg = 8)]; exact F_PacketType_JOB_CREATED_direction
    · rw [(by decide : (9 : Int32).toNatClampNeg = 9)]; exact F_PacketType_GRAB_JOB_direction
    · rw [(by decide : (10 : Int32).toNatClampNeg = 10)]; exact F_PacketType_NO_JOB_direction
    · rw [(by decide : (11 : Int32).toNatClampNeg = 11)]; exact F_PacketType_JOB_ASSIGN_direction
    · rw [(by decide : (12 : Int32).toNatClampNeg = 12)]; exact F_PacketType_WORK_STATUS_direction
    · rw [(by decide : (13 : Int32).toNatClampNeg = 13)]; exact F_PacketType_WORK_COMPLETE_direction
    · rw [(by decide : (14 : Int32).toNatClampNeg = 14)]; exact F_PacketType_WORK_FAIL_direction
    · rw [(by decide : (15 : Int32).toNatClampNeg = 15)]; exact F_PacketType_GET_STATUS_direction
    · rw [(by decide : (16 : Int32).toNatClampNeg = 16)]; exact F_PacketType_ECHO_REQ_direction
    · rw [(by decide : (17 : Int32).toNatClampNeg = 17)]; exact F_PacketType_ECHO_RES_direction
    · rw [(by decide : (18 : Int32).toNatClampNeg = 18)]; exact F_PacketType_SUBMIT_JOB_BG_direction
    · rw [(by decide : (19 : Int32).toNatClampNeg = 19)]; exact F_PacketType_ERROR_direction
    · rw [(by decide : (20 : Int32).toNatClampNeg = 20)]; exact F_PacketType_STATUS_RES_direction
    · rw [(by decide : (21 : Int32).toNatClampNeg = 21)]; exact F_PacketType_SUBMIT_JOB_HIGH_direction
    · rw [(by decide : (22 : Int32).toNatClampNeg = 22)]; exact F_PacketType_SET_CLIENT_ID_direction
    · rw [(by decide : (23 : Int32).toNatClampNeg = 23)]; exact F_PacketType_CAN_DO_TIMEOUT_direction
    · rw [(by decide : (24 : Int32).toNatClampNeg = 24)]; exact F_PacketType_ALL_YOURS_direction
    · rw [(by decide : (25 : Int32).toNatClampNeg = 25)]; exact F_PacketType_WORK_EXCEPTION_direction
    · rw [(by decide : (26 : Int32).toNatClampNeg = 26)]; exact F_PacketType_OPTION_REQ_direction
    · rw [(by decide : (27 : Int32).toNatClampNeg = 27)]; exact F_PacketType_OPTION_RES_direction
    · rw [(by decide : (28 : Int32).toNatClampNeg = 28)]; exact F_PacketType_WORK_DATA_direction
    · rw [(by decide : (29 : Int32).toNatClampNeg = 29)]; exact F_PacketType_WORK_WARNING_direction
    · rw [(by decide : (30 : Int32).toNatClampNeg = 30)]; exact F_PacketType_GRAB_JOB_UNIQ_direction
    · rw [(by decide : (31 : Int32).toNatClampNeg = 31)]; exact F_PacketType_JOB_ASSIGN_UNIQ_direction
    · rw [(by decide : (32 : Int32).toNatClampNeg = 32)]; exact F_PacketType_SUBMIT_JOB_HIGH_BG_direction
    · rw [(by decide : (33 : Int32).toNatClampNeg = 33)]; exact F_PacketType_SUBMIT_JOB_LOW_direction
    · rw [(by decide : (34 : Int32).toNatClampNeg = 34)]; exact F_PacketType_SUBMIT_JOB_LOW_BG_direction
    · rw [(by decide : (35 : Int32).toNatClampNeg = 35)]; exact F_PacketType_SUBMIT_JOB_SCHED_direction
    · rw [(by decide : (36 : Int32).toNatClampNeg = 36)]; exact F_PacketType_SUBMIT_JOB_EPOCH_direction
  have hq1 : PacketType_Direction_RESPONSE ≠ PacketType_Direction_REQUEST := Fld.ne F_PacketType_Direction_RESPONSE_ordinal F_PacketType_Direction_REQUEST_ordinal (by simp)
  have hq2 : PacketType_Direction_BOTH ≠ PacketType_Direction_REQUEST := Fld.ne F_PacketType_Direction_BOTH_ordinal F_PacketType_Direction_REQUEST_ordinal (by simp)
  have hD : ∀ n, own_ok n → (if ([0, PacketType_Direction_REQUEST, PacketType_Direction_REQUEST, PacketType_Direction_REQUEST, PacketType_Direction_REQUEST, 0, PacketType_Direction_RESPONSE, PacketType_Direction_REQUEST, PacketType_Direction_RESPONSE, PacketType_Direction_REQUEST, PacketType_Direction_RESPONSE, PacketType_Direction_RESPONSE, PacketType_Direction_BOTH, PacketType_Direction_BOTH, PacketType_Direction_BOTH, PacketType_Direction_REQUEST, PacketType_Direction_REQUEST, PacketType_Direction_RESPONSE, PacketType_Direction_REQUEST, PacketType_Direction_RESPONSE, PacketType_Direction_RESPONSE, PacketType_Direction_REQUEST, PacketType_Direction_REQUEST, PacketType_Direction_REQUEST, PacketType_Direction_REQUEST, PacketType_Direction_BOTH, PacketType_Direction_REQUEST, PacketType_Direction_RESPONSE, PacketType_Direction_BOTH, PacketType_Direction_BOTH, PacketType_Direction_REQUEST, PacketType_Direction_RESPONSE, PacketType_Direction_REQUEST, PacketType_Direction_REQUEST, PacketType_Direction_REQUEST, PacketType_Direction_REQUEST, PacketType_Direction_REQUEST] : List Addr).getD n.toNatClampNeg 0 = PacketType_Direction_REQUEST then (0 : Int32) else (1 : Int32)) = own_sms n := by
    intro n hn; rcases hn with rfl | rfl | rfl | rfl | rfl | rfl | rfl | rfl | rfl | rfl | rfl | rfl | rfl | rfl | rfl | rfl | rfl | rfl | rfl | rfl | rfl | rfl | rfl | rfl | rfl | rfl | rfl | rfl | rfl | rfl | rfl | rfl | rfl | rfl | rfl
    · rw [(by decide : (1 : Int32).toNatClampNeg = 1)]; exact (if_pos rfl).trans (by decide)
    · rw [(by decide : (2 : Int32).toNatClampNeg = 2)]; exact (if_pos rfl).trans (by decide)
    · rw [(by decide : (3 : Int32).toNatClampNeg = 3)]; exact (if_pos rfl).trans (by decide)
    · rw [(by decide : (4 : Int32).toNatClampNeg = 4)]; exact (if_pos rfl).trans (by decide)
    · rw [(by decide : (6 : Int32).toNatClampNeg = 6)]; exact (if_neg hq1).trans (by decide)
    · rw [(by decide : (7 : Int32).toNatClampNeg = 7)]; exact (if_pos rfl).trans (by decide)
    · rw [(by decide : (8 : Int32).toNatClampNeg = 8)]; exact (if_neg hq1).trans (by decide)
    · rw [(by decide : (9 : Int32).toNatClampNeg = 9)]; exact (if_pos rfl).trans (by decide)
    · rw [(by decide : (10 : Int32).toNatClampNeg = 10)]; exact (if_neg hq1).trans (by decide)
    · rw [(by decide : (11 : Int32).toNatClampNeg = 11)]; exact (if_neg hq1).trans (by decide)
    · rw [(by decide : (12 : Int32).toNatClampNeg = 12)]; exact (if_neg hq2).trans (by decide)
    · rw [(by decide : (13 : Int32).toNatClampNeg = 13)]; exact (if_neg hq2).trans (by decide)
    · rw [(by decide : (14 : Int32).toNatClampNeg = 14)]; exact (if_neg hq2).trans (by decide)
    · rw [(by decide : (15 : Int32).toNatClampNeg = 15)]; exact (if_pos rfl).trans (by decide)
    · rw [(by decide : (16 : Int32).toNatClampNeg = 16)]; exact (if_pos rfl).trans (by decide)
    · rw [(by decide : (17 : Int32).toNatClampNeg = 17)]; exact (if_neg hq1).trans (by decide)
    · rw [(by decide : (18 : Int32).toNatClampNeg = 18)]; exact (if_pos rfl).trans (by decide)
    · rw [(by decide : (19 : Int32).toNatClampNeg = 19)]; exact (if_neg hq1).trans (by decide)
    · rw [(by decide : (20 : Int32).toNatClampNeg = 20)]; exact (if_neg hq1).trans (by decide)
    · rw [(by decide : (21 : Int32).toNatClampNeg = 21)]; exact (if_pos rfl).trans (by decide)
    · rw [(by decide : (22 : Int32).toNatClampNeg = 22)]; exact (if_pos rfl).trans (by decide)
    · rw [(by decide : (23 : Int32).toNatClampNeg = 23)]; exact (if_pos rfl).trans (by decide)
    · rw [(by decide : (24 : Int32).toNatClampNeg = 24)]; exact (if_pos rfl).trans (by decide)
    · rw [(by decide : (25 : Int32).toNatClampNeg = 25)]; exact (if_neg hq2).trans (by decide)
    · rw [(by decide : (26 : Int32).toNatClampNeg = 26)]; exact (if_pos rfl).trans (by decide)
    · rw [(by decide : (27 : Int32).toNatClampNeg = 27)]; exact (if_neg hq1).trans (by decide)
    · rw [(by decide : (28 : Int32).toNatClampNeg = 28)]; exact (if_neg hq2).trans (by decide)
    · rw [(by decide : (29 : Int32).toNatClampNeg = 29)]; exact (if_neg hq2).trans (by decide)
    · rw [(by decide : (30 : Int32).toNatClampNeg = 30)]; exact (if_pos rfl).trans (by decide)
    · rw [(by decide : (31 : Int32).toNatClampNeg = 31)]; exact (if_neg hq1).trans (by decide)
    · rw [(by decide : (32 : Int32).toNatClampNeg = 32)]; exact (if_pos rfl).trans (by decide)
    · rw [(by decide : (33 : Int32).toNatClampNeg = 33)]; exact (if_pos rfl).trans (by decide)
    · rw [(by decide : (34 : Int32).toNatClampNeg = 34)]; exact (if_pos rfl).trans (by decide)
    · rw [(by decide : (35 : Int32).toNatClampNeg = 35)]; exact (if_pos rfl).trans (by decide)
    · rw [(by decide : (36 : Int32).toNatClampNeg = 36)]; exact (if_pos rfl).trans (by decide)
  obtain ⟨n, o, h1, h2, h3, _, L, rfl, ⟨rfl, N⟩, hq⟩ := rm0 l s _ hw tables_1 i0 (fun i => ([0, PacketType_CAN_DO, PacketType_CANT_DO, PacketType_RESET_ABILITIES, PacketType_PRE_SLEEP, 0, PacketType_NOOP, PacketType_SUBMIT_JOB, PacketType_JOB_CREATED, PacketType_GRAB_JOB, PacketType_NO_JOB, PacketType_JOB_ASSIGN, PacketType_WORK_STATUS, PacketType_WORK_COMPLETE, PacketType_WORK_FAIL, PacketType_GET_STATUS, PacketType_ECHO_REQ, PacketType_ECHO_RES, PacketType_SUBMIT_JOB_BG, PacketType_ERROR, PacketType_STATUS_RES, PacketType_SUBMIT_JOB_HIGH, PacketType_SET_CLIENT_ID, PacketType_CAN_DO_TIMEOUT, PacketType_ALL_YOURS, PacketType_WORK_EXCEPTION, PacketType_OPTION_REQ, PacketType_OPTION_RES, PacketType_WORK_DATA, PacketType_WORK_WARNING, PacketType_GRAB_JOB_UNIQ, PacketType_JOB_ASSIGN_UNIQ, PacketType_SUBMIT_JOB_HIGH_BG, PacketType_SUBMIT_JOB_LOW, PacketType_SUBMIT_JOB_LOW_BG, PacketType_SUBMIT_JOB_SCHED, PacketType_SUBMIT_JOB_EPOCH] : List Addr).getD i 0) (fun i => ([0, PacketType_Direction_REQUEST, PacketType_Direction_REQUEST, PacketType_Direction_REQUEST, PacketType_Direction_REQUEST, 0, PacketType_Direction_RESPONSE, PacketType_Direction_REQUEST, PacketType_Direction_RESPONSE, PacketType_Direction_REQUEST, PacketType_Direction_RESPONSE, PacketType_Direction_RESPONSE, PacketType_Direction_BOTH, PacketType_Direction_BOTH, PacketType_Direction_BOTH, PacketType_Direction_REQUEST, PacketType_Direction_REQUEST, PacketType_Direction_RESPONSE, PacketType_Direction_REQUEST, PacketType_Direction_RESPONSE, PacketType_Direction_RESPONSE, PacketType_Direction_REQUEST, PacketType_Direction_REQUEST, PacketType_Direction_REQUEST, PacketType_Direction_REQUEST, PacketType_Direction_BOTH, PacketType_Direction_REQUEST, PacketType_Direction_RESPONSE, PacketType_Direction_BOTH, PacketType_Direction_BOTH, PacketType_Direction_REQUEST, PacketType_Direction_RESPONSE, PacketType_Direction_REQUEST, PacketType_Direction_REQUEST, PacketType_Direction_REQUEST, PacketType_Direction_REQUEST, PacketType_Direction_REQUEST] : List Addr).getD i 0) PacketType_Direction_REQUEST s.heap s.heap.size S_PacketType_CAN_DO S_PacketType_CANT_DO S_PacketType_RESET_ABILITIES S_PacketType_PRE_SLEEP S_PacketType_NOOP S_PacketType_SUBMIT_JOB S_PacketType_JOB_CREATED S_PacketType_GRAB_JOB S_PacketType_NO_JOB S_PacketType_JOB_ASSIGN S_PacketType_WORK_STATUS S_PacketType_WORK_COMPLETE S_PacketType_WORK_FAIL S_PacketType_GET_STATUS S_PacketType_ECHO_REQ S_PacketType_ECHO_RES S_PacketType_SUBMIT_JOB_BG S_PacketType_ERROR S_PacketType_STATUS_RES S_PacketType_SUBMIT_JOB_HIGH S_PacketType_SET_CLIENT_ID S_PacketType_CAN_DO_TIMEOUT S_PacketType_ALL_YOURS S_PacketType_WORK_EXCEPTION S_PacketType_OPTION_REQ S_PacketType_OPTION_RES S_PacketType_WORK_DATA S_PacketType_WORK_WARNING S_PacketType_GRAB_JOB_UNIQ S_PacketType_JOB_ASSIGN_UNIQ S_PacketType_SUBMIT_JOB_HIGH_BG S_PacketType_SUBMIT_JOB_LOW S_PacketType_SUBMIT_JOB_LOW_BG S_PacketType_SUBMIT_JOB_SCHED S_PacketType_SUBMIT_JOB_EPOCH S_PacketType_Direction_REQUEST hE hF' hD (own_cases35 _ (own_mod i0 35 (by decide))) p e ha hc hk s m _ below hf ((Spec.applies_iff_loose hf).mp happ).1 ⟨rfl, State.Warmed39.refl s, rfl⟩ trivial
  refine ⟨n, _, h1, h2, h3, hpost _ _ _ _ _ _ ⟨Cond.after_iff.mpr rfl, Cond.after_iff.mpr (eq_i res_at (Term.int_eval (1)) rfl), trivial⟩ ⟨hq.1, hq.2.1, (hq.2.2.sift fun y hy => Or.inr (N y hy)).mono (by decide) (by decide)⟩⟩
theorem main_1_1 : Claimed_1_1 := comes_1 fun _ _ _ _ _ _ h hF => ⟨h.1, hF⟩
theorem main_1_2 : Claimed_1_2 := comes_1 fun _ _ _ _ _ _ h hF => ⟨h.2.1, hF⟩
end Jvm.Pilot.@@N@@
namespace Jvm.Pilot.@@N@@
open Jvm Jvm.ClassFile Sem Op Lib Jvm.Free Jvm.Stand Jvm.Pilot.@@N@@.Jvm.D
/-! MADE BY PROGRAM (witnessworld.py) out of the Statement's table words and the real class files: 13 classes; the members and pool entries that the words name. The judged class is class 1, her method 1. -/
namespace start1
open Jvm.ClassFile
def u (s : String) : CpInfo := .utf8 (stringToUtf16 s)
/-- a pool by its gaps: so many unusable entries, then the entry; so many at the end -/
def gap : Nat → List CpInfo → List CpInfo
  | 0, r => r
  | n + 1, r => .unusable :: gap n r
def poolList (es : List (Nat × CpInfo)) (last : Nat) : List CpInfo := es.foldr (fun e r => gap e.1 (e.2 :: r)) (gap last [])
def pool (es : List (Nat × CpInfo)) (last : Nat) : Array CpInfo := ⟨poolList es last⟩
def fileOf (pool : Array CpInfo) (this : Nat) (attrs : Array Attribute := #[]) (ms : Array MethodInfo := #[]) (fl : Nat := 33) (sup : Nat := 0) (ifs : Array Nat := #[]) (fds : Array FieldInfo := #[]) : ClassFile where
  minorVersion := 0
  majorVersion := 65
  constantPool := pool
  accessFlags := fl
  thisClass := this
  superClass := sup
  interfaces := ifs
  fields := fds
  methods := ms
  attributes := attrs
def plain (name : String) (sup : Option ClassId) : Class where
  name := name
  kind := .ordinary
  loader := none
  accessFlags := 33
  super := sup
  interfaces := #[]
  cf := none
  fields := #[]
  methods := #[]
  instanceTypes := #[]
  staticTypes := #[]
  resolved := #[]
  callSites := []
  init := .initialized
  statics := none
  mirror := none

def pool0 : Array CpInfo := pool [(5, u "<init>"), (0, u "()V"), (1, .class_ 10), (1, u "java/lang/Object")] 113

def k0m0 : Method := { name := "<init>", desc := "()V", sig := { parameters := [], returnType := none }, accessFlags := 1, code := none }
/-- java/lang/Object -/
def k0 : Class := { plain "java/lang/Object" none with
  accessFlags := 33
  interfaces := #[]
  cf := some (fileOf pool0 8 #[] #[{ accessFlags := 1, nameIndex := 5, descriptorIndex := 6, attributes := #[] }] 33 0 #[] #[])
  fields := #[]
  methods := #[k0m0]
  instanceTypes := #[]
  staticTypes := #[]
  resolved := Array.replicate 124 none
  statics := none }

def pool1 : Array CpInfo := pool [(2, .class_ 4), (1, u "java/lang/Object"), (0, u "<init>"), (0, u "()V"), (0, .integer 2147483647), (0, .methodref 9 10), (0, .class_ 11), (0, .nameAndType 12 13), (0, u "com/example/ajenda/ajenda/port4730/PacketTypeIsResponsePinLaw"), (0, u "pick"), (0, u "(I)Lcom/example/ajenda/ajenda/port4730/PacketType;"), (0, .methodref 15 16), (0, .class_ 17), (0, .nameAndType 18 19), (0, u "com/example/ajenda/ajenda/port4730/PacketType"), (0, u "isResponse"), (0, u "()Z"), (0, .methodref 9 21), (0, .nameAndType 22 23), (0, u "serverMaySend"), (0, u "(I)Z"), (0, .fieldref 15 25), (0, .nameAndType 26 27), (0, u "CAN_DO"), (0, u "Lcom/example/ajenda/ajenda/port4730/PacketType;"), (0, .fieldref 15 29), (0, .nameAndType 30 27), (0, u "CANT_DO"), (0, .fieldref 15 32), (0, .nameAndType 33 27), (0, u "RESET_ABILITIES"), (0, .fieldref 15 35), (0, .nameAndType 36 27), (0, u "PRE_SLEEP"), (0, .fieldref 15 38), (0, .nameAndType 39 27), (0, u "NOOP"), (0, .fieldref 15 41), (0, .nameAndType 42 27), (0, u "SUBMIT_JOB"), (0, .fieldref 15 44), (0, .nameAndType 45 27), (0, u "JOB_CREATED"), (0, .fieldref 15 47), (0, .nameAndType 48 27), (0, u "GRAB_JOB"), (0, .fieldref 15 50), (0, .nameAndType 51 27), (0, u "NO_JOB"), (0, .fieldref 15 53), (0, .nameAndType 54 27), (0, u "JOB_ASSIGN"), (0, .fieldref 15 56), (0, .nameAndType 57 27), (0, u "WORK_STATUS"), (0, .fieldref 15 59), (0, .nameAndType 60 27), (0, u "WORK_COMPLETE"), (0, .fieldref 15 62), (0, .nameAndType 63 27), (0, u "WORK_FAIL"), (0, .fieldref 15 65), (0, .nameAndType 66 27), (0, u "GET_STATUS"), (0, .fieldref 15 68), (0, .nameAndType 69 27), (0, u "ECHO_REQ"), (0, .fieldref 15 71), (0, .nameAndType 72 27), (0, u "ECHO_RES"), (0, .fieldref 15 74), (0, .nameAndType 75 27), (0, u "SUBMIT_JOB_BG"), (0, .fieldref 15 77), (0, .nameAndType 78 27), (0, u "ERROR"), (0, .fieldref 15 80), (0, .nameAndType 81 27), (0, u "STATUS_RES"), (0, .fieldref 15 83), (0, .nameAndType 84 27), (0, u "SUBMIT_JOB_HIGH"), (0, .fieldref 15 86), (0, .nameAndType 87 27), (0, u "SET_CLIENT_ID"), (0, .fieldref 15 89), (0, .nameAndType 90 27), (0, u "CAN_DO_TIMEOUT"), (0, .fieldref 15 92), (0, .nameAndType 93 27), (0, u "ALL_YOURS"), (0, .fieldref 15 95), (0, .nameAndType 96 27), (0, u "WORK_EXCEPTION"), (0, .fieldref 15 98), (0, .nameAndType 99 27), (0, u "OPTION_REQ"), (0, .fieldref 15 101), (0, .nameAndType 102 27), (0, u "OPTION_RES"), (0, .fieldref 15 104), (0, .nameAndType 105 27), (0, u "WORK_DATA"), (0, .fieldref 15 107), (0, .nameAndType 108 27), (0, u "WORK_WARNING"), (0, .fieldref 15 110), (0, .nameAndType 111 27), (0, u "GRAB_JOB_UNIQ"), (0, .fieldref 15 113), (0, .nameAndType 114 27), (0, u "JOB_ASSIGN_UNIQ"), (0, .fieldref 15 116), (0, .nameAndType 117 27), (0, u "SUBMIT_JOB_HIGH_BG"), (0, .fieldref 15 119), (0, .nameAndType 120 27), (0, u "SUBMIT_JOB_LOW"), (0, .fieldref 15 122), (0, .nameAndType 123 27), (0, u "SUBMIT_JOB_LOW_BG"), (0, .fieldref 15 125), (0, .nameAndType 126 27), (0, u "SUBMIT_JOB_SCHED"), (0, .fieldref 15 128), (0, .nameAndType 129 27), (0, u "SUBMIT_JOB_EPOCH"), (2, u "law")] 3

def k1m0 : Method := { name := "<init>", desc := "()V", sig := { parameters := [], returnType := none }, accessFlags := 2, code := none }
def k1c1 : Code := { maxStack := 2, maxLocals := 4, code := code, exceptionTable := #[], attributes := #[] }
def k1m1 : Method := { name := "law", desc := "(I)Z", sig := { parameters := [.int], returnType := some .boolean }, accessFlags := 9, code := some k1c1 }
def k1c2 : Code := { maxStack := 2, maxLocals := 1, code := method_3_code, exceptionTable := #[], attributes := #[] }
def k1m2 : Method := { name := "serverMaySend", desc := "(I)Z", sig := { parameters := [.int], returnType := some .boolean }, accessFlags := 10, code := some k1c2 }
def k1c3 : Code := { maxStack := 1, maxLocals := 1, code := method_4_code, exceptionTable := #[], attributes := #[] }
def k1m3 : Method := { name := "pick", desc := "(I)Lcom/example/ajenda/ajenda/port4730/PacketType;", sig := { parameters := [.int], returnType := some (.object "com/example/ajenda/ajenda/port4730/PacketType") }, accessFlags := 10, code := some k1c3 }
/-- com/example/ajenda/ajenda/port4730/PacketTypeIsResponsePinLaw -/
def k1 : Class := { plain "com/example/ajenda/ajenda/port4730/PacketTypeIsResponsePinLaw" (some 0) with
  accessFlags := 49
  interfaces := #[]
  cf := some (fileOf pool1 9 #[] #[{ accessFlags := 2, nameIndex := 5, descriptorIndex := 6, attributes := #[] }, { accessFlags := 9, nameIndex := 132, descriptorIndex := 23, attributes := #[] }, { accessFlags := 10, nameIndex := 22, descriptorIndex := 23, attributes := #[] }, { accessFlags := 10, nameIndex := 12, descriptorIndex := 13, attributes := #[] }] 49 2 #[] #[])
  fields := #[]
  methods := #[k1m0, k1m1, k1m2, k1m3]
  instanceTypes := #[]
  staticTypes := #[]
  resolved := Array.replicate 136 none
  statics := none }

def pool2 : Array CpInfo := pool [(1, .class_ 2), (0, u "java/lang/constant/Constable"), (0, .class_ 4), (0, u "java/lang/Object")] 6

/-- java/lang/constant/Constable -/
def k2 : Class := { plain "java/lang/constant/Constable" (some 0) with
  accessFlags := 1537
  interfaces := #[]
  cf := some (fileOf pool2 1 #[] #[] 1537 3 #[] #[])
  fields := #[]
  methods := #[]
  instanceTypes := #[]
  staticTypes := #[]
  resolved := Array.replicate 11 none
  statics := none }

def pool3 : Array CpInfo := pool [(1, .class_ 2), (0, u "java/lang/Comparable"), (0, .class_ 4), (0, u "java/lang/Object")] 7

/-- java/lang/Comparable -/
def k3 : Class := { plain "java/lang/Comparable" (some 0) with
  accessFlags := 1537
  interfaces := #[]
  cf := some (fileOf pool3 1 #[] #[] 1537 3 #[] #[])
  fields := #[]
  methods := #[]
  instanceTypes := #[]
  staticTypes := #[]
  resolved := Array.replicate 12 none
  statics := none }

def pool4 : Array CpInfo := pool [(1, .class_ 2), (0, u "java/io/Serializable"), (0, .class_ 4), (0, u "java/lang/Object")] 2

/-- java/io/Serializable -/
def k4 : Class := { plain "java/io/Serializable" (some 0) with
  accessFlags := 1537
  interfaces := #[]
  cf := some (fileOf pool4 1 #[] #[] 1537 3 #[] #[])
  fields := #[]
  methods := #[]
  instanceTypes := #[]
  staticTypes := #[]
  resolved := Array.replicate 7 none
  statics := none }

def pool5 : Array CpInfo := pool [(2, .class_ 4), (1, u "java/lang/Enum"), (0, u "name"), (0, u "Ljava/lang/String;"), (2, u "ordinal"), (0, u "I"), (1, .class_ 14), (1, u "java/lang/Object"), (4, u "hash"), (86, .class_ 108), (1, u "java/lang/Enum$EnumDesc"), (2, .class_ 112), (0, u "java/lang/constant/Constable"), (0, .class_ 114), (0, u "java/lang/Comparable"), (0, .class_ 116), (0, u "java/io/Serializable")] 87

/-- java/lang/Enum -/
def k5 : Class := { plain "java/lang/Enum" (some 0) with
  accessFlags := 1057
  interfaces := #[2, 3, 4]
  cf := some (fileOf pool5 2 #[.nestMembers #[106]] #[] 1057 12 #[111, 113, 115] #[{ accessFlags := 18, nameIndex := 5, descriptorIndex := 6, attributes := #[] }, { accessFlags := 18, nameIndex := 9, descriptorIndex := 10, attributes := #[] }, { accessFlags := 2, nameIndex := 19, descriptorIndex := 10, attributes := #[] }])
  fields := #[{ name := "name", type := (.object "java/lang/String"), accessFlags := 18, slot := 0, constantValue := 0 }, { name := "ordinal", type := .int, accessFlags := 18, slot := 1, constantValue := 0 }, { name := "hash", type := .int, accessFlags := 2, slot := 2, constantValue := 0 }]
  methods := #[]
  instanceTypes := #[(.object "java/lang/String"), .int, .int]
  staticTypes := #[]
  resolved := Array.replicate 204 none
  statics := none }

def pool6 : Array CpInfo := pool [(1, .class_ 2), (0, u "com/example/ajenda/ajenda/port4730/PacketType"), (2, u "CAN_DO"), (0, u "Lcom/example/ajenda/ajenda/port4730/PacketType;"), (2, u "CANT_DO"), (2, u "RESET_ABILITIES"), (2, u "PRE_SLEEP"), (2, u "NOOP"), (2, u "SUBMIT_JOB"), (2, u "JOB_CREATED"), (2, u "GRAB_JOB"), (2, u "NO_JOB"), (2, u "JOB_ASSIGN"), (2, u "WORK_STATUS"), (2, u "WORK_COMPLETE"), (2, u "WORK_FAIL"), (2, u "GET_STATUS"), (2, u "ECHO_REQ"), (2, u "ECHO_RES"), (2, u "SUBMIT_JOB_BG"), (2, u "ERROR"), (2, u "STATUS_RES"), (2, u "SUBMIT_JOB_HIGH"), (2, u "SET_CLIENT_ID"), (2, u "CAN_DO_TIMEOUT"), (2, u "ALL_YOURS"), (2, u "WORK_EXCEPTION"), (2, u "OPTION_REQ"), (2, u "OPTION_RES"), (2, u "WORK_DATA"), (2, u "WORK_WARNING"), (2, u "GRAB_JOB_UNIQ"), (2, u "JOB_ASSIGN_UNIQ"), (2, u "SUBMIT_JOB_HIGH_BG"), (2, u "SUBMIT_JOB_LOW"), (2, u "SUBMIT_JOB_LOW_BG"), (2, u "SUBMIT_JOB_SCHED"), (2, u "SUBMIT_JOB_EPOCH"), (2, u "$VALUES"), (0, u "[Lcom/example/ajenda/ajenda/port4730/PacketType;"), (6, .class_ 121), (1, u "java/lang/Enum"), (8, u "number"), (0, u "I"), (0, .fieldref 1 133), (0, .nameAndType 134 135), (0, u "direction"), (0, u "Lcom/example/ajenda/ajenda/port4730/PacketType$Direction;"), (8, u "arguments"), (0, u "Ljava/util/List;"), (2, u "BY_NUMBER"), (15, .class_ 166), (1, u "com/example/ajenda/ajenda/port4730/PacketType$Direction"), (1, .fieldref 164 169), (0, .nameAndType 170 135), (0, u "REQUEST"), (11, .class_ 183), (0, u "com/example/ajenda/ajenda/port4730/PacketType$Argument"), (71, u "()Z"), (0, u "isResponse")] 9

def k6c0 : Code := { maxStack := 2, maxLocals := 1, code := prog_19_method_9_code, exceptionTable := #[], attributes := #[] }
def k6m0 : Method := { name := "isResponse", desc := "()Z", sig := { parameters := [], returnType := some .boolean }, accessFlags := 1, code := some k6c0 }
/-- com/example/ajenda/ajenda/port4730/PacketType -/
def k6 : Class := { plain "com/example/ajenda/ajenda/port4730/PacketType" (some 5) with
  accessFlags := 16433
  interfaces := #[]
  cf := some (fileOf pool6 1 #[.nestMembers #[164, 182]] #[{ accessFlags := 1, nameIndex := 256, descriptorIndex := 255, attributes := #[] }] 16433 119 #[] #[{ accessFlags := 16409, nameIndex := 5, descriptorIndex := 6, attributes := #[] }, { accessFlags := 16409, nameIndex := 9, descriptorIndex := 6, attributes := #[] }, { accessFlags := 16409, nameIndex := 12, descriptorIndex := 6, attributes := #[] }, { accessFlags := 16409, nameIndex := 15, descriptorIndex := 6, attributes := #[] }, { accessFlags := 16409, nameIndex := 18, descriptorIndex := 6, attributes := #[] }, { accessFlags := 16409, nameIndex := 21, descriptorIndex := 6, attributes := #[] }, { accessFlags := 16409, nameIndex := 24, descriptorIndex := 6, attributes := #[] }, { accessFlags := 16409, nameIndex := 27, descriptorIndex := 6, attributes := #[] }, { accessFlags := 16409, nameIndex := 30, descriptorIndex := 6, attributes := #[] }, { accessFlags := 16409, nameIndex := 33, descriptorIndex := 6, attributes := #[] }, { accessFlags := 16409, nameIndex := 36, descriptorIndex := 6, attributes := #[] }, { accessFlags := 16409, nameIndex := 39, descriptorIndex := 6, attributes := #[] }, { accessFlags := 16409, nameIndex := 42, descriptorIndex := 6, attributes := #[] }, { accessFlags := 16409, nameIndex := 45, descriptorIndex := 6, attributes := #[] }, { accessFlags := 16409, nameIndex := 48, descriptorIndex := 6, attributes := #[] }, { accessFlags := 16409, nameIndex := 51, descriptorIndex := 6, attributes := #[] }, { accessFlags := 16409, nameIndex := 54, descriptorIndex := 6, attributes := #[] }, { accessFlags := 16409, nameIndex := 57, descriptorIndex := 6, attributes := #[] }, { accessFlags := 16409, nameIndex := 60, descriptorIndex := 6, attributes := #[] }, { accessFlags := 16409, nameIndex := 63, descriptorIndex := 6, attributes := #[] }, { accessFlags := 16409, nameIndex := 66, descriptorIndex := 6, attributes := #[] }, { accessFlags := 16409, nameIndex := 69, descriptorIndex := 6, attributes := #[] }, { accessFlags := 16409, nameIndex := 72, descriptorIndex := 6, attributes := #[] }, { accessFlags := 16409, nameIndex := 75, descriptorIndex := 6, attributes := #[] }, { accessFlags := 16409, nameIndex := 78, descriptorIndex := 6, attributes := #[] }, { accessFlags := 16409, nameIndex := 81, descriptorIndex := 6, attributes := #[] }, { accessFlags := 16409, nameIndex := 84, descriptorIndex := 6, attributes := #[] }, { accessFlags := 16409, nameIndex := 87, descriptorIndex := 6, attributes := #[] }, { accessFlags := 16409, nameIndex := 90, descriptorIndex := 6, attributes := #[] }, { accessFlags := 16409, nameIndex := 93, descriptorIndex := 6, attributes := #[] }, { accessFlags := 16409, nameIndex := 96, descriptorIndex := 6, attributes := #[] }, { accessFlags := 16409, nameIndex := 99, descriptorIndex := 6, attributes := #[] }, { accessFlags := 16409, nameIndex := 102, descriptorIndex := 6, attributes := #[] }, { accessFlags := 16409, nameIndex := 105, descriptorIndex := 6, attributes := #[] }, { accessFlags := 16409, nameIndex := 108, descriptorIndex := 6, attributes := #[] }, { accessFlags := 26, nameIndex := 148, descriptorIndex := 112, attributes := #[] }, { accessFlags := 18, nameIndex := 130, descriptorIndex := 131, attributes := #[] }, { accessFlags := 18, nameIndex := 134, descriptorIndex := 135, attributes := #[] }, { accessFlags := 18, nameIndex := 144, descriptorIndex := 145, attributes := #[] }, { accessFlags := 4122, nameIndex := 111, descriptorIndex := 112, attributes := #[] }])
  fields := #[{ name := "CAN_DO", type := (.object "com/example/ajenda/ajenda/port4730/PacketType"), accessFlags := 16409, slot := 0, constantValue := 0 }, { name := "CANT_DO", type := (.object "com/example/ajenda/ajenda/port4730/PacketType"), accessFlags := 16409, slot := 1, constantValue := 0 }, { name := "RESET_ABILITIES", type := (.object "com/example/ajenda/ajenda/port4730/PacketType"), accessFlags := 16409, slot := 2, constantValue := 0 }, { name := "PRE_SLEEP", type := (.object "com/example/ajenda/ajenda/port4730/PacketType"), accessFlags := 16409, slot := 3, constantValue := 0 }, { name := "NOOP", type := (.object "com/example/ajenda/ajenda/port4730/PacketType"), accessFlags := 16409, slot := 4, constantValue := 0 }, { name := "SUBMIT_JOB", type := (.object "com/example/ajenda/ajenda/port4730/PacketType"), accessFlags := 16409, slot := 5, constantValue := 0 }, { name := "JOB_CREATED", type := (.object "com/example/ajenda/ajenda/port4730/PacketType"), accessFlags := 16409, slot := 6, constantValue := 0 }, { name := "GRAB_JOB", type := (.object "com/example/ajenda/ajenda/port4730/PacketType"), accessFlags := 16409, slot := 7, constantValue := 0 }, { name := "NO_JOB", type := (.object "com/example/ajenda/ajenda/port4730/PacketType"), accessFlags := 16409, slot := 8, constantValue := 0 }, { name := "JOB_ASSIGN", type := (.object "com/example/ajenda/ajenda/port4730/PacketType"), accessFlags := 16409, slot := 9, constantValue := 0 }, { name := "WORK_STATUS", type := (.object "com/example/ajenda/ajenda/port4730/PacketType"), accessFlags := 16409, slot := 10, constantValue := 0 }, { name := "WORK_COMPLETE", type := (.object "com/example/ajenda/ajenda/port4730/PacketType"), accessFlags := 16409, slot := 11, constantValue := 0 }, { name := "WORK_FAIL", type := (.object "com/example/ajenda/ajenda/port4730/PacketType"), accessFlags := 16409, slot := 12, constantValue := 0 }, { name := "GET_STATUS", type := (.object "com/example/ajenda/ajenda/port4730/PacketType"), accessFlags := 16409, slot := 13, constantValue := 0 }, { name := "ECHO_REQ", type := (.object "com/example/ajenda/ajenda/port4730/PacketType"), accessFlags := 16409, slot := 14, constantValue := 0 }, { name := "ECHO_RES", type := (.object "com/example/ajenda/ajenda/port4730/PacketType"), accessFlags := 16409, slot := 15, constantValue := 0 }, { name := "SUBMIT_JOB_BG", type := (.object "com/example/ajenda/ajenda/port4730/PacketType"), accessFlags := 16409, slot := 16, constantValue := 0 }, { name := "ERROR", type := (.object "com/example/ajenda/ajenda/port4730/PacketType"), accessFlags := 16409, slot := 17, constantValue := 0 }, { name := "STATUS_RES", type := (.object "com/example/ajenda/ajenda/port4730/PacketType"), accessFlags := 16409, slot := 18, constantValue := 0 }, { name := "SUBMIT_JOB_HIGH", type := (.object "com/example/ajenda/ajenda/port4730/PacketType"), accessFlags := 16409, slot := 19, constantValue := 0 }, { name := "SET_CLIENT_ID", type := (.object "com/example/ajenda/ajenda/port4730/PacketType"), accessFlags := 16409, slot := 20, constantValue := 0 }, { name := "CAN_DO_TIMEOUT", type := (.object "com/example/ajenda/ajenda/port4730/PacketType"), accessFlags := 16409, slot := 21, constantValue := 0 }, { name := "ALL_YOURS", type := (.object "com/example/ajenda/ajenda/port4730/PacketType"), accessFlags := 16409, slot := 22, constantValue := 0 }, { name := "WORK_EXCEPTION", type := (.object "com/example/ajenda/ajenda/port4730/PacketType"), accessFlags := 16409, slot := 23, constantValue := 0 }, { name := "OPTION_REQ", type := (.object "com/example/ajenda/ajenda/port4730/PacketType"), accessFlags := 16409, slot := 24, constantValue := 0 }, { name := "OPTION_RES", type := (.object "com/example/ajenda/ajenda/port4730/PacketType"), accessFlags := 16409, slot := 25, constantValue := 0 }, { name := "WORK_DATA", type := (.object "com/example/ajenda/ajenda/port4730/PacketType"), accessFlags := 16409, slot := 26, constantValue := 0 }, { name := "WORK_WARNING", type := (.object "com/example/ajenda/ajenda/port4730/PacketType"), accessFlags := 16409, slot := 27, constantValue := 0 }, { name := "GRAB_JOB_UNIQ", type := (.object "com/example/ajenda/ajenda/port4730/PacketType"), accessFlags := 16409, slot := 28, constantValue := 0 }, { name := "JOB_ASSIGN_UNIQ", type := (.object "com/example/ajenda/ajenda/port4730/PacketType"), accessFlags := 16409, slot := 29, constantValue := 0 }, { name := "SUBMIT_JOB_HIGH_BG", type := (.object "com/example/ajenda/ajenda/port4730/PacketType"), accessFlags := 16409, slot := 30, constantValue := 0 }, { name := "SUBMIT_JOB_LOW", type := (.object "com/example/ajenda/ajenda/port4730/PacketType"), accessFlags := 16409, slot := 31, constantValue := 0 }, { name := "SUBMIT_JOB_LOW_BG", type := (.object "com/example/ajenda/ajenda/port4730/PacketType"), accessFlags := 16409, slot := 32, constantValue := 0 }, { name := "SUBMIT_JOB_SCHED", type := (.object "com/example/ajenda/ajenda/port4730/PacketType"), accessFlags := 16409, slot := 33, constantValue := 0 }, { name := "SUBMIT_JOB_EPOCH", type := (.object "com/example/ajenda/ajenda/port4730/PacketType"), accessFlags := 16409, slot := 34, constantValue := 0 }, { name := "BY_NUMBER", type := (.array (.object "com/example/ajenda/ajenda/port4730/PacketType")), accessFlags := 26, slot := 35, constantValue := 0 }, { name := "number", type := .int, accessFlags := 18, slot := 3, constantValue := 0 }, { name := "direction", type := (.object "com/example/ajenda/ajenda/port4730/PacketType$Direction"), accessFlags := 18, slot := 4, constantValue := 0 }, { name := "arguments", type := (.object "java/util/List"), accessFlags := 18, slot := 5, constantValue := 0 }, { name := "$VALUES", type := (.array (.object "com/example/ajenda/ajenda/port4730/PacketType")), accessFlags := 4122, slot := 36, constantValue := 0 }]
  methods := #[k6m0]
  instanceTypes := #[(.object "java/lang/String"), .int, .int, .int, (.object "com/example/ajenda/ajenda/port4730/PacketType$Direction"), (.object "java/util/List")]
  staticTypes := #[(.object "com/example/ajenda/ajenda/port4730/PacketType"), (.object "com/example/ajenda/ajenda/port4730/PacketType"), (.object "com/example/ajenda/ajenda/port4730/PacketType"), (.object "com/example/ajenda/ajenda/port4730/PacketType"), (.object "com/example/ajenda/ajenda/port4730/PacketType"), (.object "com/example/ajenda/ajenda/port4730/PacketType"), (.object "com/example/ajenda/ajenda/port4730/PacketType"), (.object "com/example/ajenda/ajenda/port4730/PacketType"), (.object "com/example/ajenda/ajenda/port4730/PacketType"), (.object "com/example/ajenda/ajenda/port4730/PacketType"), (.object "com/example/ajenda/ajenda/port4730/PacketType"), (.object "com/example/ajenda/ajenda/port4730/PacketType"), (.object "com/example/ajenda/ajenda/port4730/PacketType"), (.object "com/example/ajenda/ajenda/port4730/PacketType"), (.object "com/example/ajenda/ajenda/port4730/PacketType"), (.object "com/example/ajenda/ajenda/port4730/PacketType"), (.object "com/example/ajenda/ajenda/port4730/PacketType"), (.object "com/example/ajenda/ajenda/port4730/PacketType"), (.object "com/example/ajenda/ajenda/port4730/PacketType"), (.object "com/example/ajenda/ajenda/port4730/PacketType"), (.object "com/example/ajenda/ajenda/port4730/PacketType"), (.object "com/example/ajenda/ajenda/port4730/PacketType"), (.object "com/example/ajenda/ajenda/port4730/PacketType"), (.object "com/example/ajenda/ajenda/port4730/PacketType"), (.object "com/example/ajenda/ajenda/port4730/PacketType"), (.object "com/example/ajenda/ajenda/port4730/PacketType"), (.object "com/example/ajenda/ajenda/port4730/PacketType"), (.object "com/example/ajenda/ajenda/port4730/PacketType"), (.object "com/example/ajenda/ajenda/port4730/PacketType"), (.object "com/example/ajenda/ajenda/port4730/PacketType"), (.object "com/example/ajenda/ajenda/port4730/PacketType"), (.object "com/example/ajenda/ajenda/port4730/PacketType"), (.object "com/example/ajenda/ajenda/port4730/PacketType"), (.object "com/example/ajenda/ajenda/port4730/PacketType"), (.object "com/example/ajenda/ajenda/port4730/PacketType"), (.array (.object "com/example/ajenda/ajenda/port4730/PacketType")), (.array (.object "com/example/ajenda/ajenda/port4730/PacketType"))]
  resolved := Array.replicate 266 none
  statics := some 0 }

def pool7 : Array CpInfo := pool [(1, .class_ 2), (0, u "com/example/ajenda/ajenda/port4730/PacketType$Direction"), (2, u "REQUEST"), (0, u "Lcom/example/ajenda/ajenda/port4730/PacketType$Direction;"), (2, u "RESPONSE"), (2, u "BOTH"), (2, u "$VALUES"), (0, u "[Lcom/example/ajenda/ajenda/port4730/PacketType$Direction;"), (6, .class_ 25), (1, u "java/lang/Enum"), (26, .class_ 53), (0, u "com/example/ajenda/ajenda/port4730/PacketType")] 2

/-- com/example/ajenda/ajenda/port4730/PacketType$Direction -/
def k7 : Class := { plain "com/example/ajenda/ajenda/port4730/PacketType$Direction" (some 5) with
  accessFlags := 16432
  interfaces := #[]
  cf := some (fileOf pool7 1 #[.nestHost 52] #[] 16432 23 #[] #[{ accessFlags := 16409, nameIndex := 5, descriptorIndex := 6, attributes := #[] }, { accessFlags := 16409, nameIndex := 9, descriptorIndex := 6, attributes := #[] }, { accessFlags := 16409, nameIndex := 12, descriptorIndex := 6, attributes := #[] }, { accessFlags := 4122, nameIndex := 15, descriptorIndex := 16, attributes := #[] }])
  fields := #[{ name := "REQUEST", type := (.object "com/example/ajenda/ajenda/port4730/PacketType$Direction"), accessFlags := 16409, slot := 0, constantValue := 0 }, { name := "RESPONSE", type := (.object "com/example/ajenda/ajenda/port4730/PacketType$Direction"), accessFlags := 16409, slot := 1, constantValue := 0 }, { name := "BOTH", type := (.object "com/example/ajenda/ajenda/port4730/PacketType$Direction"), accessFlags := 16409, slot := 2, constantValue := 0 }, { name := "$VALUES", type := (.array (.object "com/example/ajenda/ajenda/port4730/PacketType$Direction")), accessFlags := 4122, slot := 3, constantValue := 0 }]
  methods := #[]
  instanceTypes := #[(.object "java/lang/String"), .int, .int]
  staticTypes := #[(.object "com/example/ajenda/ajenda/port4730/PacketType$Direction"), (.object "com/example/ajenda/ajenda/port4730/PacketType$Direction"), (.object "com/example/ajenda/ajenda/port4730/PacketType$Direction"), (.array (.object "com/example/ajenda/ajenda/port4730/PacketType$Direction"))]
  resolved := Array.replicate 56 none
  statics := some 1 }

def pool8 : Array CpInfo := pool [(1, u "java/lang/Cloneable"), (0, .class_ 1), (0, u "java/lang/Object"), (0, .class_ 3)] 3

/-- java/lang/Cloneable -/
def k8 : Class := { plain "java/lang/Cloneable" (some 0) with
  accessFlags := 1537
  interfaces := #[]
  cf := some (fileOf pool8 2 #[] #[] 1537 4 #[] #[])
  fields := #[]
  methods := #[]
  instanceTypes := #[]
  staticTypes := #[]
  resolved := Array.replicate 8 none
  statics := none }

/-- the primitive byte -/
def k9 : Class := { plain "byte" none with kind := .primitive 'B', accessFlags := 0x411 }
/-- [B -/
def k10 : Class := { plain "[B" (some 0) with kind := .array 9 .byte, interfaces := #[8, 4], accessFlags := 1041 }

/-- the primitive int -/
def k11 : Class := { plain "int" none with kind := .primitive 'I', accessFlags := 0x411 }
/-- [I -/
def k12 : Class := { plain "[I" (some 0) with kind := .array 11 .int, interfaces := #[8, 4], accessFlags := 1041 }

def heap : Heap := #[{ cls := 6, slots := #[.ref 2, .ref 16, .ref 11, .ref 4, .ref 9, .ref 5, .ref 7, .ref 10, .ref 15, .ref 27, .ref 14, .ref 12, .ref 29, .ref 6, .ref 17, .ref 18, .ref 21, .ref 24, .ref 26, .ref 20, .ref 25, .ref 33, .ref 23, .ref 31, .ref 32, .ref 34, .ref 37, .ref 22, .ref 38, .ref 28, .ref 35, .ref 19, .ref 39, .ref 30, .ref 36, .null, .null], vm := .statics 6 },
  { cls := 7, slots := #[.ref 3, .ref 8, .ref 13, .null], vm := .statics 7 },
  { cls := 6, slots := #[.null, .int 0, .int 0, .int 0, .ref 3, .null], vm := .none },
  { cls := 7, slots := #[.null, .int 0, .int 0], vm := .none },
  { cls := 6, slots := #[.null, .int 0, .int 0, .int 0, .ref 3, .null], vm := .none },
  { cls := 6, slots := #[.null, .int 0, .int 0, .int 0, .ref 3, .null], vm := .none },
  { cls := 6, slots := #[.null, .int 0, .int 0, .int 0, .ref 3, .null], vm := .none },
  { cls := 6, slots := #[.null, .int 0, .int 0, .int 0, .ref 8, .null], vm := .none },
  { cls := 7, slots := #[.null, .int 1, .int 0], vm := .none },
  { cls := 6, slots := #[.null, .int 0, .int 0, .int 0, .ref 8, .null], vm := .none },
  { cls := 6, slots := #[.null, .int 0, .int 0, .int 0, .ref 3, .null], vm := .none },
  { cls := 6, slots := #[.null, .int 0, .int 0, .int 0, .ref 3, .null], vm := .none },
  { cls := 6, slots := #[.null, .int 0, .int 0, .int 0, .ref 13, .null], vm := .none },
  { cls := 7, slots := #[.null, .int 2, .int 0], vm := .none },
  { cls := 6, slots := #[.null, .int 0, .int 0, .int 0, .ref 13, .null], vm := .none },
  { cls := 6, slots := #[.null, .int 0, .int 0, .int 0, .ref 8, .null], vm := .none },
  { cls := 6, slots := #[.null, .int 0, .int 0, .int 0, .ref 3, .null], vm := .none },
  { cls := 6, slots := #[.null, .int 0, .int 0, .int 0, .ref 3, .null], vm := .none },
  { cls := 6, slots := #[.null, .int 0, .int 0, .int 0, .ref 8, .null], vm := .none },
  { cls := 6, slots := #[.null, .int 0, .int 0, .int 0, .ref 3, .null], vm := .none },
  { cls := 6, slots := #[.null, .int 0, .int 0, .int 0, .ref 3, .null], vm := .none },
  { cls := 6, slots := #[.null, .int 0, .int 0, .int 0, .ref 3, .null], vm := .none },
  { cls := 6, slots := #[.null, .int 0, .int 0, .int 0, .ref 13, .null], vm := .none },
  { cls := 6, slots := #[.null, .int 0, .int 0, .int 0, .ref 3, .null], vm := .none },
  { cls := 6, slots := #[.null, .int 0, .int 0, .int 0, .ref 8, .null], vm := .none },
  { cls := 6, slots := #[.null, .int 0, .int 0, .int 0, .ref 3, .null], vm := .none },
  { cls := 6, slots := #[.null, .int 0, .int 0, .int 0, .ref 8, .null], vm := .none },
  { cls := 6, slots := #[.null, .int 0, .int 0, .int 0, .ref 8, .null], vm := .none },
  { cls := 6, slots := #[.null, .int 0, .int 0, .int 0, .ref 8, .null], vm := .none },
  { cls := 6, slots := #[.null, .int 0, .int 0, .int 0, .ref 13, .null], vm := .none },
  { cls := 6, slots := #[.null, .int 0, .int 0, .int 0, .ref 3, .null], vm := .none },
  { cls := 6, slots := #[.null, .int 0, .int 0, .int 0, .ref 13, .null], vm := .none },
  { cls := 6, slots := #[.null, .int 0, .int 0, .int 0, .ref 3, .null], vm := .none },
  { cls := 6, slots := #[.null, .int 0, .int 0, .int 0, .ref 3, .null], vm := .none },
  { cls := 6, slots := #[.null, .int 0, .int 0, .int 0, .ref 8, .null], vm := .none },
  { cls := 6, slots := #[.null, .int 0, .int 0, .int 0, .ref 3, .null], vm := .none },
  { cls := 6, slots := #[.null, .int 0, .int 0, .int 0, .ref 3, .null], vm := .none },
  { cls := 6, slots := #[.null, .int 0, .int 0, .int 0, .ref 13, .null], vm := .none },
  { cls := 6, slots := #[.null, .int 0, .int 0, .int 0, .ref 3, .null], vm := .none },
  { cls := 6, slots := #[.null, .int 0, .int 0, .int 0, .ref 3, .null], vm := .none }]
def classes : Array Class := #[k0, k1, k2, k3, k4, k5, k6, k7, k8, k9, k10, k11, k12]
def interned : List (Array UInt16 × Addr) := []
def slotsUsed : Nat := 260
def theMethod : MethodId := ⟨1, 1⟩
def args0 : Array Value := #[.int 5]
def aboutOver (below : List Frame) : State where
  vm := { classes := classes, interned := interned.toArray }
  heap := heap
  slotsUsed := slotsUsed
  threads := #[{ frames := .invoking theMethod args0 :: below }]
def below0 : List Frame := [.native { method := ⟨0, 0⟩, args := #[] }]
def about1 : State := aboutOver below0
def p0 : Program := .bare "" "" ""
def e0 : Env := launch0.env 0 0 0
theorem w_frames : about1.frames = Frame.invoking theMethod args0 :: below0 := rfl
set_option maxRecDepth 65536 in
theorem w_args : argsFit about1.vm theMethod args0 = true := by decide +kernel
set_option maxRecDepth 65536 in
theorem w_heap : heapFits about1 = true := by decide +kernel
set_option maxRecDepth 65536 in
theorem w_runnable : about1.curStatus? = some .runnable := by decide +kernel
set_option maxRecDepth 65536 in
theorem w_alone : about1.alone = true := by decide +kernel
set_option maxRecDepth 65536 in
theorem w_named : about1.methodNamed? x = some theMethod := by decide +kernel
set_option maxRecDepth 65536 in
theorem w_hears : about1.hears theMethod below0 = true := by decide +kernel
set_option maxRecDepth 65536 in
theorem w_ripe : about1.ripe theMethod args0 below0 = true := by decide +kernel
theorem w_running : about1.status = .running := rfl
set_option maxRecDepth 65536 in
theorem w_room : about1.hasRoom e0.platform room_1 = true :=
  launch0.hasRoom_least _ room_1 (by decide +kernel) (by decide +kernel) (by decide +kernel) (by decide +kernel) (by decide +kernel) (by decide +kernel)
theorem allAtoms_all (ts : List Jvm.Cond) (a : Array Jvm.Value) (st : Jvm.State) : (allAtoms ts).before a st = ts.all (fun c => c.before a st) := by
  induction ts with
  | nil => rfl
  | cons c t ih =>
    show (Jvm.Cond.and c (allAtoms t)).before a st = _
    rw [Jvm.Cond.before_and, ih, List.all_cons]
def words1 : List Jvm.Cond := Jvm.Cond.code x code maxLocals ret :: tables_1
/-- a 'code' word, met by the world's own term for the bytes: nothing is compared byte by byte -/
theorem code_word {y : MethodName} {bytes : ByteArray} {mx : Nat} {rt : Option FieldType} {a : Array Value} {s : State} {m : MethodId} {meth : Method} {c : Code} (h1 : s.methodNamed? y = some m) (h2 : s.vm.method? m = some meth) (h3 : meth.code = some c) (h4 : c.code = bytes)
    (h5 : (c.maxLocals == mx && c.exceptionTable.isEmpty && decide (c.maxStack ≤ mostOperands) && decide (meth.sig.returnType = rt) && !meth.locks && decide (parseMethodDescriptor y.desc = some meth.sig)) = true) : (Jvm.Cond.code y bytes mx rt).before a s = true := by
  simp only [Bool.and_eq_true, beq_iff_eq, Bool.not_eq_true', decide_eq_true_eq] at h5
  obtain ⟨⟨⟨⟨⟨g1, g2⟩, g3⟩, g4⟩, g5⟩, g6⟩ := h5
  simp [Cond.before, Cond.holds, Cond.value, h1, h2, h3, h4, g1, g2, g3, g4, g5, g6]
def isCode : Jvm.Cond → Bool
  | .code _ _ _ _ => true
  | _ => false
theorem all_split {L : List Jvm.Cond} {P : Jvm.Cond → Bool} (h1 : L.all (fun c => isCode c || P c) = true) (h2 : ∀ c ∈ L.filter isCode, P c = true) : L.all P = true := by
  refine List.all_eq_true.mpr fun c hc => ?_
  have h := List.all_eq_true.mp h1 c hc
  rcases Bool.eq_false_or_eq_true (isCode c) with hi | hi
  · exact h2 c (List.mem_filter.mpr ⟨hc, hi⟩)
  · simpa [hi] using h
set_option maxRecDepth 65536 in
theorem w_c0 : (Jvm.Cond.code x code maxLocals ret).before args0 about1 = true := code_word (m := ⟨1, 1⟩) (meth := k1m1) (c := k1c1) (by decide +kernel) rfl rfl rfl (by decide +kernel)
set_option maxRecDepth 65536 in
theorem w_c1 : (Jvm.Cond.code ({ cls := "com/example/ajenda/ajenda/port4730/PacketTypeIsResponsePinLaw", name := "pick", desc := "(I)Lcom/example/ajenda/ajenda/port4730/PacketType;" } : Jvm.MethodName) method_4_code (1 : Nat) (Option.some (Jvm.ClassFile.FieldType.object "com/example/ajenda/ajenda/port4730/PacketType"))).before args0 about1 = true := code_word (m := ⟨1, 3⟩) (meth := k1m3) (c := k1c3) (by decide +kernel) rfl rfl rfl (by decide +kernel)
set_option maxRecDepth 65536 in
theorem w_c2 : (Jvm.Cond.code ({ cls := "com/example/ajenda/ajenda/port4730/PacketType", name := "isResponse", desc := "()Z" } : Jvm.MethodName) prog_19_method_9_code (1 : Nat) (Option.some Jvm.ClassFile.FieldType.boolean)).before args0 about1 = true := code_word (m := ⟨6, 0⟩) (meth := k6m0) (c := k6c0) (by decide +kernel) rfl rfl rfl (by decide +kernel)
set_option maxRecDepth 65536 in
theorem w_c3 : (Jvm.Cond.code ({ cls := "com/example/ajenda/ajenda/port4730/PacketTypeIsResponsePinLaw", name := "serverMaySend", desc := "(I)Z" } : Jvm.MethodName) method_3_code (1 : Nat) (Option.some Jvm.ClassFile.FieldType.boolean)).before args0 about1 = true := code_word (m := ⟨1, 2⟩) (meth := k1m2) (c := k1c2) (by decide +kernel) rfl rfl rfl (by decide +kernel)
def codes1 : List Jvm.Cond := [Jvm.Cond.code x code maxLocals ret, Jvm.Cond.code ({ cls := "com/example/ajenda/ajenda/port4730/PacketTypeIsResponsePinLaw", name := "pick", desc := "(I)Lcom/example/ajenda/ajenda/port4730/PacketType;" } : Jvm.MethodName) method_4_code (1 : Nat) (Option.some (Jvm.ClassFile.FieldType.object "com/example/ajenda/ajenda/port4730/PacketType")), Jvm.Cond.code ({ cls := "com/example/ajenda/ajenda/port4730/PacketType", name := "isResponse", desc := "()Z" } : Jvm.MethodName) prog_19_method_9_code (1 : Nat) (Option.some Jvm.ClassFile.FieldType.boolean), Jvm.Cond.code ({ cls := "com/example/ajenda/ajenda/port4730/PacketTypeIsResponsePinLaw", name := "serverMaySend", desc := "(I)Z" } : Jvm.MethodName) method_3_code (1 : Nat) (Option.some Jvm.ClassFile.FieldType.boolean)]
set_option maxRecDepth 65536 in
theorem codes_eq : words1.filter isCode = codes1 := rfl
theorem w_codes : ∀ c ∈ words1.filter isCode, c.before args0 about1 = true := by
  rw [codes_eq]
  intro c hc
  simp only [codes1, List.mem_cons, List.not_mem_nil, or_false] at hc
  rcases hc with rfl | rfl | rfl | rfl
  · exact w_c0
  · exact w_c1
  · exact w_c2
  · exact w_c3
set_option maxRecDepth 65536 in
theorem w_t1 : (words1.take 24).all (fun c => isCode c || c.before args0 about1) = true := by decide +kernel
set_option maxRecDepth 65536 in
theorem w_t2 : ((words1.drop 24).take 24).all (fun c => isCode c || c.before args0 about1) = true := by decide +kernel
set_option maxRecDepth 65536 in
theorem w_t3 : (((words1.drop 24).drop 24).take 24).all (fun c => isCode c || c.before args0 about1) = true := by decide +kernel
set_option maxRecDepth 65536 in
theorem w_t4 : (((words1.drop 24).drop 24).drop 24).all (fun c => isCode c || c.before args0 about1) = true := by decide +kernel
theorem w_tables : (allAtoms (Jvm.Cond.code x code maxLocals ret :: tables_1)).before args0 about1 = true := by
  rw [allAtoms_all]
  show words1.all (fun c => c.before args0 about1) = true
  refine all_split ?_ w_codes
  rw [← List.take_append_drop 24 words1, List.all_append, w_t1, ← List.take_append_drop 24 (words1.drop 24), List.all_append, w_t2, ← List.take_append_drop 24 ((words1.drop 24).drop 24), List.all_append, w_t3, w_t4]
  rfl
set_option maxRecDepth 65536 in
theorem w_case : (Jvm.Cond.and given_1 narrow_1).before args0 about1 = true := by decide +kernel
theorem w_applies : (headSpec (Jvm.Cond.code x code maxLocals ret :: tables_1) room_1).applies x e0.platform about1 = true :=
  (Spec.applies_iff w_frames).mpr ⟨w_running, w_runnable, w_alone, w_named, w_hears, w_ripe, w_room, w_tables⟩
theorem atStart : AtStart classFile x code maxLocals ret World_1 tables_1 room_1 Calls_1 rest_1 Pre_1 launch0 p0 e0 about1 theMethod args0 below0 :=
  ⟨lists_1, trivial, launch0.admits_env _ _ _, launch0.least_env, fairChoices_fair.cas, fairChoices_fair.clock, w_frames, w_args, w_heap, w_applies, trivial, trivial, w_case⟩
end start1
theorem witness_1 : WitnessClaimed_1 := ⟨start1.p0, start1.e0, start1.about1, start1.theMethod, start1.args0, start1.below0, start1.atStart⟩
end Jvm.Pilot.@@N@@
