import JvmDerived
import JvmDerived.Pilot.@@N@@Statement
import JvmDerived.Pilot.@@N@@Code
set_option linter.unusedVariables false
set_option linter.unusedSimpArgs false
namespace Jvm.RoadKit
open Sem ClassFile Op Lib Jvm.Stand Jvm.Free Jvm.LawKit
section New
variable {p : Program} {l : Launch} {e : Env} {R : Room} {s : State} {m : MethodId} {args : Array Value} {below : List Frame} {meth : Method} {c : Code} {T : State} {locs : List Loc} {cells slots : Nat}
theorem retI (X : Stand p l e R s m args below meth c T locs cells slots) (hx : p.tables.exec = Jvm.exec) {pc : Nat} {Ls : Array Slot} {z : Int32} {rest : List Value} (hret : meth.sig.returnType = some .int) (hd : decode c.code pc = .ok (.ireturn, 1)) {fs : List Frame}
    (hl : ∀ (f : JFrame) (acts : List Action), f.method = m → f.locked = none → f.entered = [] → (doReturn e (T.setTop f) acts (some (.int z))).1 = T.setFrames fs) : Steps p.tables e below (T.setTop (mkF m pc Ls (.int z :: rest))) (T.setFrames fs) :=
  retOut X hx hret rfl (Or.inl ⟨rfl, Or.inl rfl, z, rfl⟩) hd hl
end New
end Jvm.RoadKit
namespace Jvm.Pilot.@@N@@
open Jvm Jvm.ClassFile Sem Op Lib Jvm.Free Jvm.Stand Jvm.LawKit Jvm.RoadKit Bundle Jvm.Pilot.@@N@@.Jvm.D
theorem d1_0 : decode prog_250_method_1_code 0 = .ok (.aload_n 0, 1) := by decide +kernel
theorem d1_1 : decode prog_250_method_1_code 1 = .ok (.invokespecial 1, 3) := by decide +kernel
theorem d1_4 : decode prog_250_method_1_code 4 = .ok (.aload_n 0, 1) := by decide +kernel
theorem d1_5 : decode prog_250_method_1_code 5 = .ok (.lload_n 1, 1) := by decide +kernel
theorem d1_6 : decode prog_250_method_1_code 6 = .ok (.putfield 7, 3) := by decide +kernel
theorem d1_9 : decode prog_250_method_1_code 9 = .ok (.aload_n 0, 1) := by decide +kernel
theorem d1_10 : decode prog_250_method_1_code 10 = .ok (.lload_n 3, 1) := by decide +kernel
theorem d1_11 : decode prog_250_method_1_code 11 = .ok (.putfield 13, 3) := by decide +kernel
theorem d1_14 : decode prog_250_method_1_code 14 = .ok (.aload_n 0, 1) := by decide +kernel
theorem d1_15 : decode prog_250_method_1_code 15 = .ok (.iload 5, 2) := by decide +kernel
theorem d1_17 : decode prog_250_method_1_code 17 = .ok (.putfield 16, 3) := by decide +kernel
theorem d1_20 : decode prog_250_method_1_code 20 = .ok (.aload_n 0, 1) := by decide +kernel
theorem d1_21 : decode prog_250_method_1_code 21 = .ok (.iload 6, 2) := by decide +kernel
theorem d1_23 : decode prog_250_method_1_code 23 = .ok (.putfield 20, 3) := by decide +kernel
theorem d1_26 : decode prog_250_method_1_code 26 = .ok (.return_, 1) := by decide +kernel
theorem d2_0 : decode jdk_30_method_1_code 0 = .ok (.aload_n 0, 1) := by decide +kernel
theorem d2_1 : decode jdk_30_method_1_code 1 = .ok (.invokespecial 1, 3) := by decide +kernel
theorem d2_4 : decode jdk_30_method_1_code 4 = .ok (.return_, 1) := by decide +kernel
theorem d4_0 : decode prog_250_method_2_code 0 = .ok (.aload_n 1, 1) := by decide +kernel
theorem d4_1 : decode prog_250_method_2_code 1 = .ok (.instanceof 8, 3) := by decide +kernel
theorem d4_4 : decode prog_250_method_2_code 4 = .ok (.ifCond .eq 58, 3) := by decide +kernel
theorem d4_7 : decode prog_250_method_2_code 7 = .ok (.aload_n 1, 1) := by decide +kernel
theorem d4_8 : decode prog_250_method_2_code 8 = .ok (.checkcast 8, 3) := by decide +kernel
theorem d4_11 : decode prog_250_method_2_code 11 = .ok (.astore_n 2, 1) := by decide +kernel
theorem d4_12 : decode prog_250_method_2_code 12 = .ok (.aload_n 2, 1) := by decide +kernel
theorem d4_13 : decode prog_250_method_2_code 13 = .ok (.getfield 7, 3) := by decide +kernel
theorem d4_16 : decode prog_250_method_2_code 16 = .ok (.aload_n 0, 1) := by decide +kernel
theorem d4_17 : decode prog_250_method_2_code 17 = .ok (.getfield 7, 3) := by decide +kernel
theorem d4_20 : decode prog_250_method_2_code 20 = .ok (.lcmp, 1) := by decide +kernel
theorem d4_21 : decode prog_250_method_2_code 21 = .ok (.ifCond .ne 41, 3) := by decide +kernel
theorem d4_24 : decode prog_250_method_2_code 24 = .ok (.aload_n 2, 1) := by decide +kernel
theorem d4_25 : decode prog_250_method_2_code 25 = .ok (.getfield 13, 3) := by decide +kernel
theorem d4_28 : decode prog_250_method_2_code 28 = .ok (.aload_n 0, 1) := by decide +kernel
theorem d4_29 : decode prog_250_method_2_code 29 = .ok (.getfield 13, 3) := by decide +kernel
theorem d4_32 : decode prog_250_method_2_code 32 = .ok (.lcmp, 1) := by decide +kernel
theorem d4_33 : decode prog_250_method_2_code 33 = .ok (.ifCond .ne 29, 3) := by decide +kernel
theorem d4_36 : decode prog_250_method_2_code 36 = .ok (.aload_n 2, 1) := by decide +kernel
theorem d4_37 : decode prog_250_method_2_code 37 = .ok (.getfield 16, 3) := by decide +kernel
theorem d4_40 : decode prog_250_method_2_code 40 = .ok (.aload_n 0, 1) := by decide +kernel
theorem d4_41 : decode prog_250_method_2_code 41 = .ok (.getfield 16, 3) := by decide +kernel
theorem d4_44 : decode prog_250_method_2_code 44 = .ok (.if_icmp .ne 18, 3) := by decide +kernel
theorem d4_47 : decode prog_250_method_2_code 47 = .ok (.aload_n 2, 1) := by decide +kernel
theorem d4_48 : decode prog_250_method_2_code 48 = .ok (.getfield 20, 3) := by decide +kernel
theorem d4_51 : decode prog_250_method_2_code 51 = .ok (.aload_n 0, 1) := by decide +kernel
theorem d4_52 : decode prog_250_method_2_code 52 = .ok (.getfield 20, 3) := by decide +kernel
theorem d4_55 : decode prog_250_method_2_code 55 = .ok (.if_icmp .ne 7, 3) := by decide +kernel
theorem d4_58 : decode prog_250_method_2_code 58 = .ok (.iconst 1, 1) := by decide +kernel
theorem d4_59 : decode prog_250_method_2_code 59 = .ok (.goto 4, 3) := by decide +kernel
theorem d4_62 : decode prog_250_method_2_code 62 = .ok (.iconst 0, 1) := by decide +kernel
theorem d4_63 : decode prog_250_method_2_code 63 = .ok (.ireturn, 1) := by decide +kernel
theorem d5_0 : decode jdk_35_method_24_code 0 = .ok (.sipush 128, 3) := by decide +kernel
theorem d5_3 : decode jdk_35_method_24_code 3 = .ok (.istore_n 2, 1) := by decide +kernel
theorem d5_4 : decode jdk_35_method_24_code 4 = .ok (.lload_n 0, 1) := by decide +kernel
theorem d5_5 : decode jdk_35_method_24_code 5 = .ok (.ldc2_w 230, 3) := by decide +kernel
theorem d5_8 : decode jdk_35_method_24_code 8 = .ok (.lcmp, 1) := by decide +kernel
theorem d5_9 : decode jdk_35_method_24_code 9 = .ok (.ifCond .lt 22, 3) := by decide +kernel
theorem d5_12 : decode jdk_35_method_24_code 12 = .ok (.lload_n 0, 1) := by decide +kernel
theorem d5_13 : decode jdk_35_method_24_code 13 = .ok (.ldc2_w 232, 3) := by decide +kernel
theorem d5_16 : decode jdk_35_method_24_code 16 = .ok (.lcmp, 1) := by decide +kernel
theorem d5_17 : decode jdk_35_method_24_code 17 = .ok (.ifCond .gt 14, 3) := by decide +kernel
theorem d5_20 : decode jdk_35_method_24_code 20 = .ok (.getstatic 234, 3) := by decide +kernel
theorem d5_23 : decode jdk_35_method_24_code 23 = .ok (.lload_n 0, 1) := by decide +kernel
theorem d5_24 : decode jdk_35_method_24_code 24 = .ok (.l2i, 1) := by decide +kernel
theorem d5_25 : decode jdk_35_method_24_code 25 = .ok (.sipush 128, 3) := by decide +kernel
theorem d5_28 : decode jdk_35_method_24_code 28 = .ok (.iadd, 1) := by decide +kernel
theorem d5_29 : decode jdk_35_method_24_code 29 = .ok (.aaload, 1) := by decide +kernel
theorem d5_30 : decode jdk_35_method_24_code 30 = .ok (.areturn, 1) := by decide +kernel
theorem d5_31 : decode jdk_35_method_24_code 31 = .ok (.new 1, 3) := by decide +kernel
theorem d5_34 : decode jdk_35_method_24_code 34 = .ok (.dup, 1) := by decide +kernel
theorem d5_35 : decode jdk_35_method_24_code 35 = .ok (.lload_n 0, 1) := by decide +kernel
theorem d5_36 : decode jdk_35_method_24_code 36 = .ok (.invokespecial 240, 3) := by decide +kernel
theorem d5_39 : decode jdk_35_method_24_code 39 = .ok (.areturn, 1) := by decide +kernel
theorem d6_0 : decode jdk_35_method_26_code 0 = .ok (.aload_n 0, 1) := by decide +kernel
theorem d6_1 : decode jdk_35_method_26_code 1 = .ok (.invokespecial 270, 3) := by decide +kernel
theorem d6_4 : decode jdk_35_method_26_code 4 = .ok (.aload_n 0, 1) := by decide +kernel
theorem d6_5 : decode jdk_35_method_26_code 5 = .ok (.lload_n 1, 1) := by decide +kernel
theorem d6_6 : decode jdk_35_method_26_code 6 = .ok (.putfield 273, 3) := by decide +kernel
theorem d6_9 : decode jdk_35_method_26_code 9 = .ok (.return_, 1) := by decide +kernel
theorem d7_0 : decode jdk_18_method_1_code 0 = .ok (.aload_n 0, 1) := by decide +kernel
theorem d7_1 : decode jdk_18_method_1_code 1 = .ok (.invokespecial 1, 3) := by decide +kernel
theorem d7_4 : decode jdk_18_method_1_code 4 = .ok (.return_, 1) := by decide +kernel
theorem pd_0 : parseMethodDescriptor "()V" = some ⟨[], none⟩ := by decide +kernel
theorem pd_1 : parseMethodDescriptor "(J)V" = some ⟨[.long], none⟩ := by decide +kernel
theorem pd_2 : parseMethodDescriptor "(JJII)V" = some ⟨[.long, .long, .int, .int], none⟩ := by decide +kernel
theorem pd_3 : parseMethodDescriptor "(Ljava/lang/Object;)Z" = some ⟨[(.object "java/lang/Object")], some .boolean⟩ := by decide +kernel
theorem pd_4 : parseMethodDescriptor "(J)Ljava/lang/Long;" = some ⟨[.long], some (.object "java/lang/Long")⟩ := by decide +kernel
def own_eq (a b : Int64) (c d : Int32) (a' b' : Int64) (c' d' : Int32) : Int32 := if a = a' ∧ b = b' ∧ c = c' ∧ d = d' then 1 else 0
theorem own_eq_comm (a b : Int64) (c d : Int32) (a' b' : Int64) (c' d' : Int32) : own_eq a b c d a' b' c' d' = own_eq a' b' c' d' a b c d := by
  unfold own_eq
  by_cases h : a = a' ∧ b = b' ∧ c = c' ∧ d = d'
  · rw [if_pos h, if_pos ⟨h.1.symm, h.2.1.symm, h.2.2.1.symm, h.2.2.2.symm⟩]
  · rw [if_neg h, if_neg (fun q => h ⟨q.1.symm, q.2.1.symm, q.2.2.1.symm, q.2.2.2.symm⟩)]
theorem own_eq_self (a b : Int64) (c d : Int32) : ¬ (own_eq a b c d a b c d = 0) := by unfold own_eq; rw [if_pos ⟨rfl, rfl, rfl, rfl⟩]; decide
theorem own_root {Z : State} {a0 : Array Value} {O K : String} {n : Nat} (w : (Jvm.Cond.noSuperclass O).before a0 Z = true) (wk : (Jvm.Cond.instantiable K n).before a0 Z = true) (hn : O ≠ K) : NS Z O K := by
  obtain ⟨c, k, h1, h2, h3, -, -⟩ := Cond.noSuperclass_spec w
  obtain ⟨t, kt, g1, -⟩ := Cond.instantiable_spec wk
  have ne := ids_ne h1 g1 hn
  refine ⟨c, t, h1, g1, fun fuel => ?_⟩
  cases fuel with
  | zero => rfl
  | succ f => simp [Vm.isSubclassAux, ne, h2, h3]
theorem own_no {Z : State} {a0 : Array Value} {C S K : String} {n : Nat} (w : (Jvm.Cond.superclass C S).before a0 Z = true) (wk : (Jvm.Cond.instantiable K n).before a0 Z = true) (hns : NS Z C K) (hn : C ≠ K) : ∃ c t, Z.vm.findClass C = some c ∧ Z.vm.findClass K = some t ∧ Z.vm.assignable c t = false := by
  obtain ⟨c, t, h0, g0, n3⟩ := hns
  obtain ⟨p, k, kp, h1, h2, h3, h4, h5, -, h7⟩ := Cond.superclass_spec h0 w
  obtain ⟨t', kt, g1, g2, g3, g4, -⟩ := Cond.instantiable_spec wk
  cases g0.symm.trans g1
  simp only [Bool.or_eq_false_iff] at g4
  have ne := ids_ne h0 g0 hn
  refine ⟨c, t, h0, g0, ?_⟩
  show Z.vm.assignableAux (255 + 1) c t = false
  simp [Vm.assignableAux, ne, h2, g2, h5, g3, g4.1, Vm.isSubclass, n3]
theorem ef_2 (m : MethodId) (a1 : Addr) : entryFrame m #[(.ref a1)] 1 = (mkF m 0 #[.val (.ref a1)] []) := by first | (simp [entryFrame, mkF, argsToLocals, Value.category]; done) | rfl
theorem pn_2 : plainName "java/lang/Record" = true := by first | (simp [plainName, overriddenIn]; done) | decide +kernel
theorem ef_1 (m : MethodId) (a1 : Addr) (q1 : Int64) (q2 : Int64) (p1 : Int32) (p2 : Int32) : entryFrame m #[(.ref a1), (.long q1), (.long q2), (.int p1), (.int p2)] 7 = (mkF m 0 #[.val (.ref a1), .val (.long q1), .second, .val (.long q2), .second, .val (.int p1), .val (.int p2)] []) := by first | (simp [entryFrame, mkF, argsToLocals, Value.category]; done) | rfl
theorem pn_1 : plainName "com/example/tideline/tideline/session/FetchSession$Sent" = true := by first | (simp [plainName, overriddenIn]; done) | decide +kernel
theorem ef_7 (m : MethodId) (a1 : Addr) : entryFrame m #[(.ref a1)] 1 = (mkF m 0 #[.val (.ref a1)] []) := by first | (simp [entryFrame, mkF, argsToLocals, Value.category]; done) | rfl
theorem pn_7 : plainName "java/lang/Number" = true := by first | (simp [plainName, overriddenIn]; done) | decide +kernel
theorem ef_6 (m : MethodId) (a1 : Addr) (q1 : Int64) : entryFrame m #[(.ref a1), (.long q1)] 3 = (mkF m 0 #[.val (.ref a1), .val (.long q1), .second] []) := by first | (simp [entryFrame, mkF, argsToLocals, Value.category]; done) | rfl
theorem pn_6 : plainName "java/lang/Long" = true := by first | (simp [plainName, overriddenIn]; done) | decide +kernel
theorem ef_5 (m : MethodId) (q1 : Int64) : entryFrame m #[(.long q1)] 3 = (mkF m 0 #[.val (.long q1), .second, .unset] []) := by first | (simp [entryFrame, mkF, argsToLocals, Value.category]; done) | rfl
theorem pn_5 : plainName "java/lang/Long" = true := by first | (simp [plainName, overriddenIn]; done) | decide +kernel
theorem ef_4 (m : MethodId) (a1 : Addr) (a2 : Addr) : entryFrame m #[(.ref a1), (.ref a2)] 3 = (mkF m 0 #[.val (.ref a1), .val (.ref a2), .unset] []) := by first | (simp [entryFrame, mkF, argsToLocals, Value.category]; done) | rfl
theorem pn_4 : plainName "com/example/tideline/tideline/session/FetchSession$Sent" = true := by first | (simp [plainName, overriddenIn]; done) | decide +kernel
theorem ef_4n (m : MethodId) (a1 : Addr) : entryFrame m #[(.ref a1), .null] 3 = (mkF m 0 #[.val (.ref a1), .val .null, .unset] []) := by first | (simp [entryFrame, mkF, argsToLocals, Value.category]; done) | rfl
theorem ef_0 (m : MethodId) (q0 : Int64) (q2 : Int64) (p4 : Int32) (p5 : Int32) (q6 : Int64) (p8 : Int32) : entryFrame m #[(.long q0), (.long q2), (.int p4), (.int p5), (.long q6), (.int p8)] maxLocals = (mkF m 0 #[.val (.long q0), .second, .val (.long q2), .second, .val (.int p4), .val (.int p5), .val (.long q6), .second, .val (.int p8), .unset, .unset, .unset, .unset, .unset, .unset, .unset, .unset, .unset, .unset, .unset] []) := by first | (simp [entryFrame, mkF, argsToLocals, Value.category, maxLocals]; done) | rfl
theorem pn_0 : plainName "com/example/tideline/tideline/session/SentEqualsPinLaw" = true := by first | (simp [plainName, overriddenIn]; done) | decide +kernel
def Q2 (Z : State) (a1 : Addr) (h0 : Heap) (n0 : Nat) (v : Option Value) (h : Heap) (L : List Loc) : Prop := v = none ∧ Fr n0 L ∧ h = h0
set_option maxRecDepth 65536 in
set_option maxHeartbeats 40000000 in
theorem rm2 (l : Launch) (Z : State) (a0 : Array Value) (hw : ∀ d ∈ tables_1, d.before a0 Z = true) (ws : List Jvm.Cond) (a1 : Addr) (h0 : Heap) (n0 : Nat) (Z0 : n0 ≤ h0.size) :
    MetFree l (⟨"java/lang/Record", "<init>", "()V"⟩ : MethodName) (head1 (Jvm.Cond.code (⟨"java/lang/Record", "<init>", "()V"⟩ : MethodName) jdk_30_method_1_code 1 none :: ws) ({ frames := 1, cells := 0, slots := 0, locals := 12 } : Room)) (fun a U => a = #[(.ref a1)] ∧ Z.Warmed39 U.vm ∧ U.heap = h0) (fun _ _ _ _ _ => True) (fun _ U o U' => ∃ v L, o = .returned v ∧ Q2 Z a1 h0 n0 v U'.heap L ∧ FrameEnd U o U' L ({ frames := 1, cells := 0, slots := 0, locals := 12 } : Room).cells ({ frames := 1, cells := 0, slots := 0, locals := 12 } : Room).slots) := by
  refine MetFree.of_bodySF (plainFor_of_name pn_2) hisR ?_
  intro p e s m args below meth c s₁ Bd hml0 hP hK
  obtain ⟨rfl, hZ, hh⟩ := hP
  have hx := Bd.exec
  have hby := Bd.bytes
  have hml : c.maxLocals = 1 := hml0
  have hown : s.vm.findClass "java/lang/Record" = some m.cls := findClass_of_methodNamed Bd.named
  have hnm := (name_of_methodNamed Bd.named Bd.method).1
  have X0 : Stand p l e ({ frames := 1, cells := 0, slots := 0, locals := 12 } : Room) s m #[(.ref a1)] below meth c s₁ [] 0 0 := Stand.of_body Bd
  have e0 : s₁.heap = h0 := by rw [← hh, Bd.state]; rfl
  have N0 := Fr.nil n0
  have pre0 : ∀ t, Steps p.tables e below (s₁.setTop (mkF m 0 #[.val (.ref a1)] [])) t → Steps p.tables e below (s₁.setTop (entryFrame m #[(.ref a1)] 1)) t := fun t k => castTop (ef_2 m a1) k
  obtain ⟨T1, X1, e1, st1⟩ := initO X0 hx hZ hown (hw _ (List.mem_of_getElem? (i := 11) rfl)) (hw _ (List.mem_of_getElem? (i := 12) rfl)) (hw _ (List.mem_of_getElem? (i := 13) rfl)) e0 (g := (mkF m 1 #[.val (.ref a1)] [(.ref a1)])) rfl (by rw [hml]; rfl) rfl (hb hby d2_1) (by decide) (W := 0) (by show 2 * 0 + _ ≤ _; exact Nat.le_of_eq rfl) (by decide)
  obtain ⟨fs, hr, hrun, hended, hW, hsame⟩ := X1.leave (v := none) (fun _ => rfl)
  refine ⟨_, _, pre0 _ ?_, hrun, hended, _, _, rfl, ?_, ⟨_, rfl⟩, hW, hsame.mono (by decide) (by decide)⟩
  · show Steps p.tables e below (s₁.setTop (mkF m 0 #[.val (.ref a1)] [])) _
    refine XS.aloadN X0.here hx rfl (hb hby d2_0) rfl rfl ?_
    show Steps p.tables e below (s₁.setTop (mkF m 1 #[.val (.ref a1)] [(.ref a1)])) _
    refine st1 _ ?_
    show Steps p.tables e below (T1.setTop (mkF m 4 #[.val (.ref a1)] [])) _
    exact X1.returnOut hx Bd.returns (hb hby d2_4) hr
  · show Q2 Z a1 h0 n0 _ T1.heap _
    rw [e1]
    exact ⟨rfl, N0, rfl⟩
def Q1 (Z : State) (a1 : Addr) (q1 q2 : Int64) (p1 p2 : Int32) (h0 : Heap) (n0 : Nat) (v : Option Value) (h : Heap) (L : List Loc) : Prop := v = none ∧ Fr n0 L ∧ Keep h0 h [a1] ∧ Exa Z h a1 "com/example/tideline/tideline/session/FetchSession$Sent" ∧ Fld Z h a1 "com/example/tideline/tideline/session/FetchSession$Sent" "fetchOffset" "J" (.long q1) ∧ Fld Z h a1 "com/example/tideline/tideline/session/FetchSession$Sent" "logStartOffset" "J" (.long q2) ∧ Fld Z h a1 "com/example/tideline/tideline/session/FetchSession$Sent" "maxBytes" "I" (.int p1) ∧ Fld Z h a1 "com/example/tideline/tideline/session/FetchSession$Sent" "leaderEpoch" "I" (.int p2)
set_option maxRecDepth 65536 in
set_option maxHeartbeats 40000000 in
theorem rm1 (l : Launch) (Z : State) (a0 : Array Value) (hw : ∀ d ∈ tables_1, d.before a0 Z = true) (ws : List Jvm.Cond) (a1 : Addr) (q1 q2 : Int64) (p1 p2 : Int32) (h0 : Heap) (n0 : Nat) (Z0 : n0 ≤ h0.size) (F0 : Fld Z h0 a1 "com/example/tideline/tideline/session/FetchSession$Sent" "fetchOffset" "J" (.long (0 : Int64))) (F1 : Fld Z h0 a1 "com/example/tideline/tideline/session/FetchSession$Sent" "logStartOffset" "J" (.long (0 : Int64))) (F2 : Fld Z h0 a1 "com/example/tideline/tideline/session/FetchSession$Sent" "maxBytes" "I" (.int (0 : Int32))) (F3 : Fld Z h0 a1 "com/example/tideline/tideline/session/FetchSession$Sent" "leaderEpoch" "I" (.int (0 : Int32))) (E1 : Exa Z h0 a1 "com/example/tideline/tideline/session/FetchSession$Sent") (g1 : n0 ≤ a1) :
    MetFree l (⟨"com/example/tideline/tideline/session/FetchSession$Sent", "<init>", "(JJII)V"⟩ : MethodName) (head1 (Jvm.Cond.code (⟨"com/example/tideline/tideline/session/FetchSession$Sent", "<init>", "(JJII)V"⟩ : MethodName) prog_250_method_1_code 7 none :: ws) ({ frames := 2, cells := 0, slots := 0, locals := 24 } : Room)) (fun a U => a = #[(.ref a1), (.long q1), (.long q2), (.int p1), (.int p2)] ∧ Z.Warmed39 U.vm ∧ U.heap = h0) (fun _ _ _ _ _ => True) (fun _ U o U' => ∃ v L, o = .returned v ∧ Q1 Z a1 q1 q2 p1 p2 h0 n0 v U'.heap L ∧ FrameEnd U o U' L ({ frames := 2, cells := 0, slots := 0, locals := 24 } : Room).cells ({ frames := 2, cells := 0, slots := 0, locals := 24 } : Room).slots) := by
  refine MetFree.of_bodySF (plainFor_of_name pn_1) hisR ?_
  intro p e s m args below meth c s₁ Bd hml0 hP hK
  obtain ⟨rfl, hZ, hh⟩ := hP
  have hx := Bd.exec
  have hby := Bd.bytes
  have hml : c.maxLocals = 7 := hml0
  have hown : s.vm.findClass "com/example/tideline/tideline/session/FetchSession$Sent" = some m.cls := findClass_of_methodNamed Bd.named
  have hnm := (name_of_methodNamed Bd.named Bd.method).1
  have X0 : Stand p l e ({ frames := 2, cells := 0, slots := 0, locals := 24 } : Room) s m #[(.ref a1), (.long q1), (.long q2), (.int p1), (.int p2)] below meth c s₁ [] 0 0 := Stand.of_body Bd
  have e0 : s₁.heap = h0 := by rw [← hh, Bd.state]; rfl
  have N0 := Fr.nil n0
  have pre0 : ∀ t, Steps p.tables e below (s₁.setTop (mkF m 0 #[.val (.ref a1), .val (.long q1), .second, .val (.long q2), .second, .val (.int p1), .val (.int p2)] [])) t → Steps p.tables e below (s₁.setTop (entryFrame m #[(.ref a1), (.long q1), (.long q2), (.int p1), (.int p2)] 7)) t := fun t k => castTop (ef_1 m a1 q1 q2 p1 p2) k
  have KK0 := Keep.refl h0 [a1]
  obtain ⟨_, _, ⟨T1, L1, k1, n1⟩, -, X1, ⟨Lc1, hQ1, l1, y1, z1⟩, st1⟩ := X0.specialBack hx (y := (⟨"java/lang/Record", "<init>", "()V"⟩ : MethodName)) rfl hown (mvT hZ (hw _ (List.mem_of_getElem? (i := 6) rfl))) (mvT hZ (hw _ (List.mem_of_getElem? (i := 7) rfl))) (mvT hZ (hw _ (List.mem_of_getElem? (i := 10) rfl))) (by decide) (backOf (W := 0) (rm2 l Z a0 hw [] a1 h0 n0 Z0) hZ (hw _ (List.mem_of_getElem? (i := 10) rfl)) (hw _ (List.mem_of_getElem? (i := 9) rfl)) (by decide) (by decide)) (g := (mkF m 1 #[.val (.ref a1), .val (.long q1), .second, .val (.long q2), .second, .val (.int p1), .val (.int p2)] [(.ref a1)])) rfl (by rw [hml]; rfl) (Steps.refl _) (a := a1) (argsL := []) (rest := []) (lenOf pd_0 rfl) rfl (by show 2 * 0 + _ ≤ _; exact Nat.le_of_eq rfl) (hb hby d1_1) (fun _ _ => ⟨rfl, e0, (by decide : 0 + 0 ≤ _), (by decide : 0 + 0 ≤ _)⟩)
  dsimp only [Pt.U, Pt.locs, Pt.cells, Pt.slots] at X1 l1 y1 z1 st1 hQ1
  subst l1 y1 z1
  obtain ⟨rfl, N1q, e1q⟩ := hQ1
  have N1 := Fr.app N0 N1q
  obtain ⟨T2, h2, X2, e2, W2, st2⟩ := putF X1 hx hZ hown (host := "") (Or.inl (hw _ (List.mem_of_getElem? (i := 14) rfl))) Via.refl e1q F0 E1 (Or.inr ⟨(hw _ (List.mem_of_getElem? (i := 15) rfl)), rfl, hnm⟩) (hw _ (List.mem_of_getElem? (i := 1) rfl)) (ty := .long) (by decide) rfl rfl (g := (mkF m 6 #[.val (.ref a1), .val (.long q1), .second, .val (.long q2), .second, .val (.int p1), .val (.int p2)] [(.long q1), (.ref a1)])) rfl rfl (hb hby d1_6)
  have N2 := Fr.snoc X2 N1 g1
  have Fw2 := Fld.same W2 F0
  have F_a1_logStartOffset_2 := F1.other W2 (Or.inr (slot_ne (Or.inr (hw _ (List.mem_of_getElem? (i := 17) rfl))) (Or.inr (hw _ (List.mem_of_getElem? (i := 15) rfl))) (by decide) (t := .long) (t' := .long) (by decide) (by decide)))
  have F_a1_maxBytes_2 := F2.other W2 (Or.inr (slot_ne (Or.inr (hw _ (List.mem_of_getElem? (i := 19) rfl))) (Or.inr (hw _ (List.mem_of_getElem? (i := 15) rfl))) (by decide) (t := .int) (t' := .long) (by decide) (by decide)))
  have F_a1_leaderEpoch_2 := F3.other W2 (Or.inr (slot_ne (Or.inr (hw _ (List.mem_of_getElem? (i := 21) rfl))) (Or.inr (hw _ (List.mem_of_getElem? (i := 15) rfl))) (by decide) (t := .int) (t' := .long) (by decide) (by decide)))
  have E_a1_2 := E1.wr W2
  have Zs3 := Nat.le_trans Z0 (Keep.of_wr W2).1
  have Kk2 := KK0.wr W2 (Or.inl (List.mem_of_getElem? (i := 0) rfl))
  obtain ⟨T4, h4, X4, e4, W4, st4⟩ := putF X2 hx hZ hown (host := "") (Or.inl (hw _ (List.mem_of_getElem? (i := 16) rfl))) Via.refl e2 F_a1_logStartOffset_2 E_a1_2 (Or.inr ⟨(hw _ (List.mem_of_getElem? (i := 17) rfl)), rfl, hnm⟩) (hw _ (List.mem_of_getElem? (i := 1) rfl)) (ty := .long) (by decide) rfl rfl (g := (mkF m 11 #[.val (.ref a1), .val (.long q1), .second, .val (.long q2), .second, .val (.int p1), .val (.int p2)] [(.long q2), (.ref a1)])) rfl rfl (hb hby d1_11)
  have N4 := Fr.snoc X4 N2 g1
  have Fw4 := Fld.same W4 F_a1_logStartOffset_2
  have F_a1_fetchOffset_4 := Fw2.other W4 (Or.inr (slot_ne (Or.inr (hw _ (List.mem_of_getElem? (i := 15) rfl))) (Or.inr (hw _ (List.mem_of_getElem? (i := 17) rfl))) (by decide) (t := .long) (t' := .long) (by decide) (by decide)))
  have F_a1_maxBytes_4 := F_a1_maxBytes_2.other W4 (Or.inr (slot_ne (Or.inr (hw _ (List.mem_of_getElem? (i := 19) rfl))) (Or.inr (hw _ (List.mem_of_getElem? (i := 17) rfl))) (by decide) (t := .int) (t' := .long) (by decide) (by decide)))
  have F_a1_leaderEpoch_4 := F_a1_leaderEpoch_2.other W4 (Or.inr (slot_ne (Or.inr (hw _ (List.mem_of_getElem? (i := 21) rfl))) (Or.inr (hw _ (List.mem_of_getElem? (i := 17) rfl))) (by decide) (t := .int) (t' := .long) (by decide) (by decide)))
  have E_a1_4 := E_a1_2.wr W4
  have Zs5 := Nat.le_trans Zs3 (Keep.of_wr W4).1
  have Kk4 := Kk2.wr W4 (Or.inl (List.mem_of_getElem? (i := 0) rfl))
  obtain ⟨T6, h6, X6, e6, W6, st6⟩ := putF X4 hx hZ hown (host := "") (Or.inl (hw _ (List.mem_of_getElem? (i := 18) rfl))) Via.refl e4 F_a1_maxBytes_4 E_a1_4 (Or.inr ⟨(hw _ (List.mem_of_getElem? (i := 19) rfl)), rfl, hnm⟩) (hw _ (List.mem_of_getElem? (i := 1) rfl)) (ty := .int) (by decide) rfl rfl (g := (mkF m 17 #[.val (.ref a1), .val (.long q1), .second, .val (.long q2), .second, .val (.int p1), .val (.int p2)] [(.int p1), (.ref a1)])) rfl rfl (hb hby d1_17)
  have N6 := Fr.snoc X6 N4 g1
  have Fw6 := Fld.same W6 F_a1_maxBytes_4
  have F_a1_fetchOffset_6 := F_a1_fetchOffset_4.other W6 (Or.inr (slot_ne (Or.inr (hw _ (List.mem_of_getElem? (i := 15) rfl))) (Or.inr (hw _ (List.mem_of_getElem? (i := 19) rfl))) (by decide) (t := .long) (t' := .int) (by decide) (by decide)))
  have F_a1_logStartOffset_6 := Fw4.other W6 (Or.inr (slot_ne (Or.inr (hw _ (List.mem_of_getElem? (i := 17) rfl))) (Or.inr (hw _ (List.mem_of_getElem? (i := 19) rfl))) (by decide) (t := .long) (t' := .int) (by decide) (by decide)))
  have F_a1_leaderEpoch_6 := F_a1_leaderEpoch_4.other W6 (Or.inr (slot_ne (Or.inr (hw _ (List.mem_of_getElem? (i := 21) rfl))) (Or.inr (hw _ (List.mem_of_getElem? (i := 19) rfl))) (by decide) (t := .int) (t' := .int) (by decide) (by decide)))
  have E_a1_6 := E_a1_4.wr W6
  have Zs7 := Nat.le_trans Zs5 (Keep.of_wr W6).1
  have Kk6 := Kk4.wr W6 (Or.inl (List.mem_of_getElem? (i := 0) rfl))
  obtain ⟨T8, h8, X8, e8, W8, st8⟩ := putF X6 hx hZ hown (host := "") (Or.inl (hw _ (List.mem_of_getElem? (i := 20) rfl))) Via.refl e6 F_a1_leaderEpoch_6 E_a1_6 (Or.inr ⟨(hw _ (List.mem_of_getElem? (i := 21) rfl)), rfl, hnm⟩) (hw _ (List.mem_of_getElem? (i := 1) rfl)) (ty := .int) (by decide) rfl rfl (g := (mkF m 23 #[.val (.ref a1), .val (.long q1), .second, .val (.long q2), .second, .val (.int p1), .val (.int p2)] [(.int p2), (.ref a1)])) rfl rfl (hb hby d1_23)
  have N8 := Fr.snoc X8 N6 g1
  have Fw8 := Fld.same W8 F_a1_leaderEpoch_6
  have F_a1_fetchOffset_8 := F_a1_fetchOffset_6.other W8 (Or.inr (slot_ne (Or.inr (hw _ (List.mem_of_getElem? (i := 15) rfl))) (Or.inr (hw _ (List.mem_of_getElem? (i := 21) rfl))) (by decide) (t := .long) (t' := .int) (by decide) (by decide)))
  have F_a1_logStartOffset_8 := F_a1_logStartOffset_6.other W8 (Or.inr (slot_ne (Or.inr (hw _ (List.mem_of_getElem? (i := 17) rfl))) (Or.inr (hw _ (List.mem_of_getElem? (i := 21) rfl))) (by decide) (t := .long) (t' := .int) (by decide) (by decide)))
  have F_a1_maxBytes_8 := Fw6.other W8 (Or.inr (slot_ne (Or.inr (hw _ (List.mem_of_getElem? (i := 19) rfl))) (Or.inr (hw _ (List.mem_of_getElem? (i := 21) rfl))) (by decide) (t := .int) (t' := .int) (by decide) (by decide)))
  have E_a1_8 := E_a1_6.wr W8
  have Zs9 := Nat.le_trans Zs7 (Keep.of_wr W8).1
  have Kk8 := Kk6.wr W8 (Or.inl (List.mem_of_getElem? (i := 0) rfl))
  obtain ⟨fs, hr, hrun, hended, hW, hsame⟩ := X8.leave (v := none) (fun _ => rfl)
  refine ⟨_, _, pre0 _ ?_, hrun, hended, _, _, rfl, ?_, ⟨_, rfl⟩, hW, hsame.mono (by decide) (by decide)⟩
  · show Steps p.tables e below (s₁.setTop (mkF m 0 #[.val (.ref a1), .val (.long q1), .second, .val (.long q2), .second, .val (.int p1), .val (.int p2)] [])) _
    refine XS.aloadN X0.here hx rfl (hb hby d1_0) rfl rfl ?_
    show Steps p.tables e below (s₁.setTop (mkF m 1 #[.val (.ref a1), .val (.long q1), .second, .val (.long q2), .second, .val (.int p1), .val (.int p2)] [(.ref a1)])) _
    refine st1.trans ?_
    show Steps p.tables e below (T1.setTop (mkF m 4 #[.val (.ref a1), .val (.long q1), .second, .val (.long q2), .second, .val (.int p1), .val (.int p2)] [])) _
    refine XS.aloadN X1.here hx rfl (hb hby d1_4) rfl rfl ?_
    show Steps p.tables e below (T1.setTop (mkF m 5 #[.val (.ref a1), .val (.long q1), .second, .val (.long q2), .second, .val (.int p1), .val (.int p2)] [(.ref a1)])) _
    refine XS.lloadN X1.here hx rfl (hb hby d1_5) rfl ?_
    show Steps p.tables e below (T1.setTop (mkF m 6 #[.val (.ref a1), .val (.long q1), .second, .val (.long q2), .second, .val (.int p1), .val (.int p2)] [(.long q1), (.ref a1)])) _
    refine st2 _ ?_
    show Steps p.tables e below (T2.setTop (mkF m 9 #[.val (.ref a1), .val (.long q1), .second, .val (.long q2), .second, .val (.int p1), .val (.int p2)] [])) _
    refine XS.aloadN X2.here hx rfl (hb hby d1_9) rfl rfl ?_
    show Steps p.tables e below (T2.setTop (mkF m 10 #[.val (.ref a1), .val (.long q1), .second, .val (.long q2), .second, .val (.int p1), .val (.int p2)] [(.ref a1)])) _
    refine XS.lloadN X2.here hx rfl (hb hby d1_10) rfl ?_
    show Steps p.tables e below (T2.setTop (mkF m 11 #[.val (.ref a1), .val (.long q1), .second, .val (.long q2), .second, .val (.int p1), .val (.int p2)] [(.long q2), (.ref a1)])) _
    refine st4 _ ?_
    show Steps p.tables e below (T4.setTop (mkF m 14 #[.val (.ref a1), .val (.long q1), .second, .val (.long q2), .second, .val (.int p1), .val (.int p2)] [])) _
    refine XS.aloadN X4.here hx rfl (hb hby d1_14) rfl rfl ?_
    show Steps p.tables e below (T4.setTop (mkF m 15 #[.val (.ref a1), .val (.long q1), .second, .val (.long q2), .second, .val (.int p1), .val (.int p2)] [(.ref a1)])) _
    refine XS.iload X4.here hx rfl (hb hby d1_15) rfl ?_
    show Steps p.tables e below (T4.setTop (mkF m 17 #[.val (.ref a1), .val (.long q1), .second, .val (.long q2), .second, .val (.int p1), .val (.int p2)] [(.int p1), (.ref a1)])) _
    refine st6 _ ?_
    show Steps p.tables e below (T6.setTop (mkF m 20 #[.val (.ref a1), .val (.long q1), .second, .val (.long q2), .second, .val (.int p1), .val (.int p2)] [])) _
    refine XS.aloadN X6.here hx rfl (hb hby d1_20) rfl rfl ?_
    show Steps p.tables e below (T6.setTop (mkF m 21 #[.val (.ref a1), .val (.long q1), .second, .val (.long q2), .second, .val (.int p1), .val (.int p2)] [(.ref a1)])) _
    refine XS.iload X6.here hx rfl (hb hby d1_21) rfl ?_
    show Steps p.tables e below (T6.setTop (mkF m 23 #[.val (.ref a1), .val (.long q1), .second, .val (.long q2), .second, .val (.int p1), .val (.int p2)] [(.int p2), (.ref a1)])) _
    refine st8 _ ?_
    show Steps p.tables e below (T8.setTop (mkF m 26 #[.val (.ref a1), .val (.long q1), .second, .val (.long q2), .second, .val (.int p1), .val (.int p2)] [])) _
    exact X8.returnOut hx Bd.returns (hb hby d1_26) hr
  · show Q1 Z a1 q1 q2 p1 p2 h0 n0 _ T8.heap _
    rw [e8]
    exact ⟨rfl, N8, Kk8, E_a1_8, F_a1_fetchOffset_8, F_a1_logStartOffset_8, F_a1_maxBytes_8, Fw8⟩
def Q7 (Z : State) (a1 : Addr) (h0 : Heap) (n0 : Nat) (v : Option Value) (h : Heap) (L : List Loc) : Prop := v = none ∧ Fr n0 L ∧ h = h0
set_option maxRecDepth 65536 in
set_option maxHeartbeats 40000000 in
theorem rm7 (l : Launch) (Z : State) (a0 : Array Value) (hw : ∀ d ∈ tables_1, d.before a0 Z = true) (ws : List Jvm.Cond) (a1 : Addr) (h0 : Heap) (n0 : Nat) (Z0 : n0 ≤ h0.size) :
    MetFree l (⟨"java/lang/Number", "<init>", "()V"⟩ : MethodName) (head1 (Jvm.Cond.code (⟨"java/lang/Number", "<init>", "()V"⟩ : MethodName) jdk_18_method_1_code 1 none :: ws) ({ frames := 1, cells := 0, slots := 0, locals := 12 } : Room)) (fun a U => a = #[(.ref a1)] ∧ Z.Warmed39 U.vm ∧ U.heap = h0) (fun _ _ _ _ _ => True) (fun _ U o U' => ∃ v L, o = .returned v ∧ Q7 Z a1 h0 n0 v U'.heap L ∧ FrameEnd U o U' L ({ frames := 1, cells := 0, slots := 0, locals := 12 } : Room).cells ({ frames := 1, cells := 0, slots := 0, locals := 12 } : Room).slots) := by
  refine MetFree.of_bodySF (plainFor_of_name pn_7) hisR ?_
  intro p e s m args below meth c s₁ Bd hml0 hP hK
  obtain ⟨rfl, hZ, hh⟩ := hP
  have hx := Bd.exec
  have hby := Bd.bytes
  have hml : c.maxLocals = 1 := hml0
  have hown : s.vm.findClass "java/lang/Number" = some m.cls := findClass_of_methodNamed Bd.named
  have hnm := (name_of_methodNamed Bd.named Bd.method).1
  have X0 : Stand p l e ({ frames := 1, cells := 0, slots := 0, locals := 12 } : Room) s m #[(.ref a1)] below meth c s₁ [] 0 0 := Stand.of_body Bd
  have e0 : s₁.heap = h0 := by rw [← hh, Bd.state]; rfl
  have N0 := Fr.nil n0
  have pre0 : ∀ t, Steps p.tables e below (s₁.setTop (mkF m 0 #[.val (.ref a1)] [])) t → Steps p.tables e below (s₁.setTop (entryFrame m #[(.ref a1)] 1)) t := fun t k => castTop (ef_7 m a1) k
  obtain ⟨T1, X1, e1, st1⟩ := initO X0 hx hZ hown (hw _ (List.mem_of_getElem? (i := 52) rfl)) (hw _ (List.mem_of_getElem? (i := 12) rfl)) (hw _ (List.mem_of_getElem? (i := 13) rfl)) e0 (g := (mkF m 1 #[.val (.ref a1)] [(.ref a1)])) rfl (by rw [hml]; rfl) rfl (hb hby d7_1) (by decide) (W := 0) (by show 2 * 0 + _ ≤ _; exact Nat.le_of_eq rfl) (by decide)
  obtain ⟨fs, hr, hrun, hended, hW, hsame⟩ := X1.leave (v := none) (fun _ => rfl)
  refine ⟨_, _, pre0 _ ?_, hrun, hended, _, _, rfl, ?_, ⟨_, rfl⟩, hW, hsame.mono (by decide) (by decide)⟩
  · show Steps p.tables e below (s₁.setTop (mkF m 0 #[.val (.ref a1)] [])) _
    refine XS.aloadN X0.here hx rfl (hb hby d7_0) rfl rfl ?_
    show Steps p.tables e below (s₁.setTop (mkF m 1 #[.val (.ref a1)] [(.ref a1)])) _
    refine st1 _ ?_
    show Steps p.tables e below (T1.setTop (mkF m 4 #[.val (.ref a1)] [])) _
    exact X1.returnOut hx Bd.returns (hb hby d7_4) hr
  · show Q7 Z a1 h0 n0 _ T1.heap _
    rw [e1]
    exact ⟨rfl, N0, rfl⟩
def Q6 (Z : State) (a1 : Addr) (q1 : Int64) (h0 : Heap) (n0 : Nat) (v : Option Value) (h : Heap) (L : List Loc) : Prop := v = none ∧ Fr n0 L ∧ Keep h0 h [a1] ∧ Exa Z h a1 "java/lang/Long"
set_option maxRecDepth 65536 in
set_option maxHeartbeats 40000000 in
theorem rm6 (l : Launch) (Z : State) (a0 : Array Value) (hw : ∀ d ∈ tables_1, d.before a0 Z = true) (ws : List Jvm.Cond) (a1 : Addr) (q1 : Int64) (h0 : Heap) (n0 : Nat) (Z0 : n0 ≤ h0.size) (F1 : Fld Z h0 a1 "java/lang/Long" "value" "J" (.long (0 : Int64))) (E1 : Exa Z h0 a1 "java/lang/Long") (g1 : n0 ≤ a1) :
    MetFree l (⟨"java/lang/Long", "<init>", "(J)V"⟩ : MethodName) (head1 (Jvm.Cond.code (⟨"java/lang/Long", "<init>", "(J)V"⟩ : MethodName) jdk_35_method_26_code 3 none :: ws) ({ frames := 2, cells := 0, slots := 0, locals := 24 } : Room)) (fun a U => a = #[(.ref a1), (.long q1)] ∧ Z.Warmed39 U.vm ∧ U.heap = h0) (fun _ _ _ _ _ => True) (fun _ U o U' => ∃ v L, o = .returned v ∧ Q6 Z a1 q1 h0 n0 v U'.heap L ∧ FrameEnd U o U' L ({ frames := 2, cells := 0, slots := 0, locals := 24 } : Room).cells ({ frames := 2, cells := 0, slots := 0, locals := 24 } : Room).slots) := by
  refine MetFree.of_bodySF (plainFor_of_name pn_6) hisR ?_
  intro p e s m args below meth c s₁ Bd hml0 hP hK
  obtain ⟨rfl, hZ, hh⟩ := hP
  have hx := Bd.exec
  have hby := Bd.bytes
  have hml : c.maxLocals = 3 := hml0
  have hown : s.vm.findClass "java/lang/Long" = some m.cls := findClass_of_methodNamed Bd.named
  have hnm := (name_of_methodNamed Bd.named Bd.method).1
  have X0 : Stand p l e ({ frames := 2, cells := 0, slots := 0, locals := 24 } : Room) s m #[(.ref a1), (.long q1)] below meth c s₁ [] 0 0 := Stand.of_body Bd
  have e0 : s₁.heap = h0 := by rw [← hh, Bd.state]; rfl
  have N0 := Fr.nil n0
  have pre0 : ∀ t, Steps p.tables e below (s₁.setTop (mkF m 0 #[.val (.ref a1), .val (.long q1), .second] [])) t → Steps p.tables e below (s₁.setTop (entryFrame m #[(.ref a1), (.long q1)] 3)) t := fun t k => castTop (ef_6 m a1 q1) k
  have KK0 := Keep.refl h0 [a1]
  obtain ⟨_, _, ⟨T1, L1, k1, n1⟩, -, X1, ⟨Lc1, hQ1, l1, y1, z1⟩, st1⟩ := X0.specialBack hx (y := (⟨"java/lang/Number", "<init>", "()V"⟩ : MethodName)) rfl hown (mvT hZ (hw _ (List.mem_of_getElem? (i := 46) rfl))) (mvT hZ (hw _ (List.mem_of_getElem? (i := 47) rfl))) (mvT hZ (hw _ (List.mem_of_getElem? (i := 51) rfl))) (by decide) (backOf (W := 0) (rm7 l Z a0 hw [] a1 h0 n0 Z0) hZ (hw _ (List.mem_of_getElem? (i := 51) rfl)) (hw _ (List.mem_of_getElem? (i := 50) rfl)) (by decide) (by decide)) (g := (mkF m 1 #[.val (.ref a1), .val (.long q1), .second] [(.ref a1)])) rfl (by rw [hml]; rfl) (Steps.refl _) (a := a1) (argsL := []) (rest := []) (lenOf pd_0 rfl) rfl (by show 2 * 0 + _ ≤ _; exact Nat.le_of_eq rfl) (hb hby d6_1) (fun _ _ => ⟨rfl, e0, (by decide : 0 + 0 ≤ _), (by decide : 0 + 0 ≤ _)⟩)
  dsimp only [Pt.U, Pt.locs, Pt.cells, Pt.slots] at X1 l1 y1 z1 st1 hQ1
  subst l1 y1 z1
  obtain ⟨rfl, N1q, e1q⟩ := hQ1
  have N1 := Fr.app N0 N1q
  obtain ⟨T2, h2, X2, e2, W2, st2⟩ := putF X1 hx hZ hown (host := "") (Or.inl (hw _ (List.mem_of_getElem? (i := 53) rfl))) Via.refl e1q F1 E1 (Or.inr ⟨(hw _ (List.mem_of_getElem? (i := 54) rfl)), rfl, hnm⟩) (hw _ (List.mem_of_getElem? (i := 41) rfl)) (ty := .long) (by decide) rfl rfl (g := (mkF m 6 #[.val (.ref a1), .val (.long q1), .second] [(.long q1), (.ref a1)])) rfl rfl (hb hby d6_6)
  have N2 := Fr.snoc X2 N1 g1
  have Fw2 := Fld.same W2 F1
  have E_a1_2 := E1.wr W2
  have Zs3 := Nat.le_trans Z0 (Keep.of_wr W2).1
  have Kk2 := KK0.wr W2 (Or.inl (List.mem_of_getElem? (i := 0) rfl))
  obtain ⟨fs, hr, hrun, hended, hW, hsame⟩ := X2.leave (v := none) (fun _ => rfl)
  refine ⟨_, _, pre0 _ ?_, hrun, hended, _, _, rfl, ?_, ⟨_, rfl⟩, hW, hsame.mono (by decide) (by decide)⟩
  · show Steps p.tables e below (s₁.setTop (mkF m 0 #[.val (.ref a1), .val (.long q1), .second] [])) _
    refine XS.aloadN X0.here hx rfl (hb hby d6_0) rfl rfl ?_
    show Steps p.tables e below (s₁.setTop (mkF m 1 #[.val (.ref a1), .val (.long q1), .second] [(.ref a1)])) _
    refine st1.trans ?_
    show Steps p.tables e below (T1.setTop (mkF m 4 #[.val (.ref a1), .val (.long q1), .second] [])) _
    refine XS.aloadN X1.here hx rfl (hb hby d6_4) rfl rfl ?_
    show Steps p.tables e below (T1.setTop (mkF m 5 #[.val (.ref a1), .val (.long q1), .second] [(.ref a1)])) _
    refine XS.lloadN X1.here hx rfl (hb hby d6_5) rfl ?_
    show Steps p.tables e below (T1.setTop (mkF m 6 #[.val (.ref a1), .val (.long q1), .second] [(.long q1), (.ref a1)])) _
    refine st2 _ ?_
    show Steps p.tables e below (T2.setTop (mkF m 9 #[.val (.ref a1), .val (.long q1), .second] [])) _
    exact X2.returnOut hx Bd.returns (hb hby d6_9) hr
  · show Q6 Z a1 q1 h0 n0 _ T2.heap _
    rw [e2]
    exact ⟨rfl, N2, Kk2, E_a1_2⟩
def Q5 (Z : State) (q1 : Int64) (ca : Addr) (cl : Cell) (h0 : Heap) (n0 : Nat) (v : Option Value) (h : Heap) (L : List Loc) : Prop := ∃ ai : Addr, v = some (.ref ai) ∧ Fr n0 L ∧ Keep h0 h [] ∧ Exa Z h ai "java/lang/Long"
set_option maxRecDepth 65536 in
set_option maxHeartbeats 40000000 in
theorem rm5 (l : Launch) (Z : State) (a0 : Array Value) (hw : ∀ d ∈ tables_1, d.before a0 Z = true) (ws : List Jvm.Cond) (q1 : Int64) (ca : Addr) (cl : Cell) (h0 : Heap) (n0 : Nat) (Z0 : n0 ≤ h0.size) (SC : Sta Z h0 "java/lang/Long$LongCache" "cache" "[Ljava/lang/Long;" (.ref ca)) (Ar : Arr Z h0 ca cl (.object "java/lang/Long")) (Sz : cl.slots.size = 256) (Hc : ∀ j, j < 256 → ∃ a, cl.slots[j]? = some (.ref a) ∧ Exa Z h0 a "java/lang/Long") :
    MetFree l (⟨"java/lang/Long", "valueOf", "(J)Ljava/lang/Long;"⟩ : MethodName) (head1 (Jvm.Cond.code (⟨"java/lang/Long", "valueOf", "(J)Ljava/lang/Long;"⟩ : MethodName) jdk_35_method_24_code 3 (some (.object "java/lang/Long")) :: ws) ({ frames := 3, cells := 1, slots := 1, locals := 39 } : Room)) (fun a U => a = #[(.long q1)] ∧ Z.Warmed39 U.vm ∧ U.heap = h0) (fun _ _ _ _ _ => True) (fun _ U o U' => ∃ v L, o = .returned v ∧ Q5 Z q1 ca cl h0 n0 v U'.heap L ∧ FrameEnd U o U' L ({ frames := 3, cells := 1, slots := 1, locals := 39 } : Room).cells ({ frames := 3, cells := 1, slots := 1, locals := 39 } : Room).slots) := by
  refine MetFree.of_bodySF (plainFor_of_name pn_5) hisR ?_
  intro p e s m args below meth c s₁ Bd hml0 hP hK
  obtain ⟨rfl, hZ, hh⟩ := hP
  have hx := Bd.exec
  have hby := Bd.bytes
  have hml : c.maxLocals = 3 := hml0
  have hown : s.vm.findClass "java/lang/Long" = some m.cls := findClass_of_methodNamed Bd.named
  have hnm := (name_of_methodNamed Bd.named Bd.method).1
  have X0 : Stand p l e ({ frames := 3, cells := 1, slots := 1, locals := 39 } : Room) s m #[(.long q1)] below meth c s₁ [] 0 0 := Stand.of_body Bd
  have e0 : s₁.heap = h0 := by rw [← hh, Bd.state]; rfl
  have N0 := Fr.nil n0
  have pre0 : ∀ t, Steps p.tables e below (s₁.setTop (mkF m 0 #[.val (.long q1), .second, .unset] [])) t → Steps p.tables e below (s₁.setTop (entryFrame m #[(.long q1)] 3)) t := fun t k => castTop (ef_5 m q1) k
  have KK0 := Keep.refl h0 []
  by_cases c9 : lcmpW q1 (-128 : Int64) < 0
  · skip
    obtain ⟨T1, h1, X1, e1, E1, A1, D1, -, st1⟩ := newO X0 hx hZ hown (hw _ (List.mem_of_getElem? (i := 40) rfl)) (hw _ (List.mem_of_getElem? (i := 41) rfl)) (hw _ (List.mem_of_getElem? (i := 31) rfl)) e0 (g := (mkF m 31 #[.val (.long q1), .second, .val (.int (128 : Int32))] [])) rfl (hb hby d5_31) (by decide) (by decide)
    obtain ⟨b1, g1⟩ : ∃ z, z = h0.size := ⟨_, rfl⟩
    rw [← g1] at A1 D1 st1
    have g_b1 : n0 ≤ b1 := Nat.le_trans Z0 (Nat.le_of_eq g1.symm)
    have sz_b1 : h0.size ≤ b1 := Nat.le_trans KK0.1 (Nat.le_of_eq g1.symm)
    have S_java_lang_Long_LongCache_cache_1 := SC.ext E1
    have Zs2 := Nat.le_trans Z0 E1.1
    have Kk1 := KK0.ext E1
    have F_value_b1 : Fld Z h1 b1 "java/lang/Long" "value" "J" (.long (0 : Int64)) := D1 (Or.inr (hw _ (List.mem_of_getElem? (i := 54) rfl))) (ty := .long) (by decide)
    obtain ⟨_, _, ⟨T3, L3, k3, n3⟩, -, X3, ⟨Lc3, hQ3, l3, y3, z3⟩, st3⟩ := X1.specialBack hx (y := (⟨"java/lang/Long", "<init>", "(J)V"⟩ : MethodName)) rfl hown (mvT hZ (hw _ (List.mem_of_getElem? (i := 42) rfl))) (mvT hZ (hw _ (List.mem_of_getElem? (i := 43) rfl))) (mvT hZ (hw _ (List.mem_of_getElem? (i := 45) rfl))) (by decide) (backOf (W := 1) (rm6 l Z a0 hw [] b1 q1 h1 n0 Zs2 F_value_b1 A1 g_b1) hZ (hw _ (List.mem_of_getElem? (i := 45) rfl)) (hw _ (List.mem_of_getElem? (i := 31) rfl)) (by decide) (by decide)) (g := (mkF m 36 #[.val (.long q1), .second, .val (.int (128 : Int32))] [(.long q1), (.ref b1), (.ref b1)])) rfl (by rw [hml]; rfl) (Steps.refl _) (a := b1) (argsL := [(.long q1)]) (rest := [(.ref b1)]) (lenOf pd_1 rfl) rfl (by show 2 * 0 + _ ≤ _; exact Nat.le_of_eq rfl) (hb hby d5_36) (fun _ _ => ⟨rfl, e1, (by decide : 1 + 0 ≤ _), (by decide : 1 + 0 ≤ _)⟩)
    dsimp only [Pt.U, Pt.locs, Pt.cells, Pt.slots] at X3 l3 y3 z3 st3 hQ3
    subst l3 y3 z3
    obtain ⟨rfl, N3q, K3q, E3q⟩ := hQ3
    have N3 := Fr.app N0 N3q
    have E_b1_3 := A1.keep K3q
    have Zs4 := Nat.le_trans Zs2 K3q.1
    have Kk3 := Kk1.trans K3q (allS (Or.inr sz_b1) all0)
    obtain ⟨fs, hr, hrun, hended, hW, hsame⟩ := X3.leave (v := some (.ref b1)) (fun h => by rw [Bd.returns] at h; cases h)
    refine ⟨_, _, pre0 _ ?_, hrun, hended, _, _, rfl, ?_, ⟨_, rfl⟩, hW, hsame.mono (by decide) (by decide)⟩
    · show Steps p.tables e below (s₁.setTop (mkF m 0 #[.val (.long q1), .second, .unset] [])) _
      refine XS.sipush X0.here hx rfl (hb hby d5_0) ?_
      show Steps p.tables e below (s₁.setTop (mkF m 3 #[.val (.long q1), .second, .unset] [(.int (128 : Int32))])) _
      refine XS.istoreN X0.here hx rfl (hb hby d5_3) rfl (l' := #[.val (.long q1), .second, .val (.int (128 : Int32))]) rfl ?_
      show Steps p.tables e below (s₁.setTop (mkF m 4 #[.val (.long q1), .second, .val (.int (128 : Int32))] [])) _
      refine XS.lloadN X0.here hx rfl (hb hby d5_4) rfl ?_
      show Steps p.tables e below (s₁.setTop (mkF m 5 #[.val (.long q1), .second, .val (.int (128 : Int32))] [(.long q1)])) _
      refine X0.ldc2Long hx hown (mvT hZ (hw _ (List.mem_of_getElem? (i := 33) rfl))) (g := (mkF m 5 #[.val (.long q1), .second, .val (.int (128 : Int32))] [(.long q1)])) rfl (hb hby d5_5) _ ?_
      show Steps p.tables e below (s₁.setTop (mkF m 8 #[.val (.long q1), .second, .val (.int (128 : Int32))] [(.long (-128 : Int64)), (.long q1)])) _
      refine XS.lcmp X0.here hx rfl (hb hby d5_8) rfl ?_
      show Steps p.tables e below (s₁.setTop (mkF m 9 #[.val (.long q1), .second, .val (.int (128 : Int32))] [(.int (lcmpW q1 (-128 : Int64)))])) _
      refine XS.ifYes X0.here hx rfl (pc0 := 9) (pc' := 31) rfl (hb hby d5_9) rfl ((if0 _ _).trans (tlt c9).1) (by decide) (by decide) ?_
      show Steps p.tables e below (s₁.setTop (mkF m 31 #[.val (.long q1), .second, .val (.int (128 : Int32))] [])) _
      refine st1 _ ?_
      show Steps p.tables e below (T1.setTop (mkF m 34 #[.val (.long q1), .second, .val (.int (128 : Int32))] [(.ref b1)])) _
      refine XS.dup X1.here hx rfl (hb hby d5_34) rfl rfl ?_
      show Steps p.tables e below (T1.setTop (mkF m 35 #[.val (.long q1), .second, .val (.int (128 : Int32))] [(.ref b1), (.ref b1)])) _
      refine XS.lloadN X1.here hx rfl (hb hby d5_35) rfl ?_
      show Steps p.tables e below (T1.setTop (mkF m 36 #[.val (.long q1), .second, .val (.int (128 : Int32))] [(.long q1), (.ref b1), (.ref b1)])) _
      refine st3.trans ?_
      show Steps p.tables e below (T3.setTop (mkF m 39 #[.val (.long q1), .second, .val (.int (128 : Int32))] [(.ref b1)])) _
      exact retOut X3 hx Bd.returns rfl (Or.inr (Or.inr (Or.inr (Or.inr ⟨rfl, rfl, rfl⟩)))) (hb hby d5_39) hr
    · show Q5 Z q1 ca cl h0 n0 _ T3.heap _
      exact ⟨_, rfl, N3, Kk3, E_b1_3⟩
  · skip
    by_cases c17 : (0 : Int32) < lcmpW q1 (127 : Int64)
    · skip
      obtain ⟨T5, h5, X5, e5, E5, A5, D5, -, st5⟩ := newO X0 hx hZ hown (hw _ (List.mem_of_getElem? (i := 40) rfl)) (hw _ (List.mem_of_getElem? (i := 41) rfl)) (hw _ (List.mem_of_getElem? (i := 31) rfl)) e0 (g := (mkF m 31 #[.val (.long q1), .second, .val (.int (128 : Int32))] [])) rfl (hb hby d5_31) (by decide) (by decide)
      obtain ⟨b5, g5⟩ : ∃ z, z = h0.size := ⟨_, rfl⟩
      rw [← g5] at A5 D5 st5
      have g_b5 : n0 ≤ b5 := Nat.le_trans Z0 (Nat.le_of_eq g5.symm)
      have sz_b5 : h0.size ≤ b5 := Nat.le_trans KK0.1 (Nat.le_of_eq g5.symm)
      have S_java_lang_Long_LongCache_cache_5 := SC.ext E5
      have Zs6 := Nat.le_trans Z0 E5.1
      have Kk5 := KK0.ext E5
      have F_value_b5 : Fld Z h5 b5 "java/lang/Long" "value" "J" (.long (0 : Int64)) := D5 (Or.inr (hw _ (List.mem_of_getElem? (i := 54) rfl))) (ty := .long) (by decide)
      obtain ⟨_, _, ⟨T7, L7, k7, n7⟩, -, X7, ⟨Lc7, hQ7, l7, y7, z7⟩, st7⟩ := X5.specialBack hx (y := (⟨"java/lang/Long", "<init>", "(J)V"⟩ : MethodName)) rfl hown (mvT hZ (hw _ (List.mem_of_getElem? (i := 42) rfl))) (mvT hZ (hw _ (List.mem_of_getElem? (i := 43) rfl))) (mvT hZ (hw _ (List.mem_of_getElem? (i := 45) rfl))) (by decide) (backOf (W := 1) (rm6 l Z a0 hw [] b5 q1 h5 n0 Zs6 F_value_b5 A5 g_b5) hZ (hw _ (List.mem_of_getElem? (i := 45) rfl)) (hw _ (List.mem_of_getElem? (i := 31) rfl)) (by decide) (by decide)) (g := (mkF m 36 #[.val (.long q1), .second, .val (.int (128 : Int32))] [(.long q1), (.ref b5), (.ref b5)])) rfl (by rw [hml]; rfl) (Steps.refl _) (a := b5) (argsL := [(.long q1)]) (rest := [(.ref b5)]) (lenOf pd_1 rfl) rfl (by show 2 * 0 + _ ≤ _; exact Nat.le_of_eq rfl) (hb hby d5_36) (fun _ _ => ⟨rfl, e5, (by decide : 1 + 0 ≤ _), (by decide : 1 + 0 ≤ _)⟩)
      dsimp only [Pt.U, Pt.locs, Pt.cells, Pt.slots] at X7 l7 y7 z7 st7 hQ7
      subst l7 y7 z7
      obtain ⟨rfl, N7q, K7q, E7q⟩ := hQ7
      have N7 := Fr.app N0 N7q
      have E_b5_7 := A5.keep K7q
      have Zs8 := Nat.le_trans Zs6 K7q.1
      have Kk7 := Kk5.trans K7q (allS (Or.inr sz_b5) all0)
      obtain ⟨fs, hr, hrun, hended, hW, hsame⟩ := X7.leave (v := some (.ref b5)) (fun h => by rw [Bd.returns] at h; cases h)
      refine ⟨_, _, pre0 _ ?_, hrun, hended, _, _, rfl, ?_, ⟨_, rfl⟩, hW, hsame.mono (by decide) (by decide)⟩
      · show Steps p.tables e below (s₁.setTop (mkF m 0 #[.val (.long q1), .second, .unset] [])) _
        refine XS.sipush X0.here hx rfl (hb hby d5_0) ?_
        show Steps p.tables e below (s₁.setTop (mkF m 3 #[.val (.long q1), .second, .unset] [(.int (128 : Int32))])) _
        refine XS.istoreN X0.here hx rfl (hb hby d5_3) rfl (l' := #[.val (.long q1), .second, .val (.int (128 : Int32))]) rfl ?_
        show Steps p.tables e below (s₁.setTop (mkF m 4 #[.val (.long q1), .second, .val (.int (128 : Int32))] [])) _
        refine XS.lloadN X0.here hx rfl (hb hby d5_4) rfl ?_
        show Steps p.tables e below (s₁.setTop (mkF m 5 #[.val (.long q1), .second, .val (.int (128 : Int32))] [(.long q1)])) _
        refine X0.ldc2Long hx hown (mvT hZ (hw _ (List.mem_of_getElem? (i := 33) rfl))) (g := (mkF m 5 #[.val (.long q1), .second, .val (.int (128 : Int32))] [(.long q1)])) rfl (hb hby d5_5) _ ?_
        show Steps p.tables e below (s₁.setTop (mkF m 8 #[.val (.long q1), .second, .val (.int (128 : Int32))] [(.long (-128 : Int64)), (.long q1)])) _
        refine XS.lcmp X0.here hx rfl (hb hby d5_8) rfl ?_
        show Steps p.tables e below (s₁.setTop (mkF m 9 #[.val (.long q1), .second, .val (.int (128 : Int32))] [(.int (lcmpW q1 (-128 : Int64)))])) _
        refine XS.ifNo X0.here hx rfl (hb hby d5_9) rfl ((if0 _ _).trans (flt c9).1) ?_
        show Steps p.tables e below (s₁.setTop (mkF m 12 #[.val (.long q1), .second, .val (.int (128 : Int32))] [])) _
        refine XS.lloadN X0.here hx rfl (hb hby d5_12) rfl ?_
        show Steps p.tables e below (s₁.setTop (mkF m 13 #[.val (.long q1), .second, .val (.int (128 : Int32))] [(.long q1)])) _
        refine X0.ldc2Long hx hown (mvT hZ (hw _ (List.mem_of_getElem? (i := 34) rfl))) (g := (mkF m 13 #[.val (.long q1), .second, .val (.int (128 : Int32))] [(.long q1)])) rfl (hb hby d5_13) _ ?_
        show Steps p.tables e below (s₁.setTop (mkF m 16 #[.val (.long q1), .second, .val (.int (128 : Int32))] [(.long (127 : Int64)), (.long q1)])) _
        refine XS.lcmp X0.here hx rfl (hb hby d5_16) rfl ?_
        show Steps p.tables e below (s₁.setTop (mkF m 17 #[.val (.long q1), .second, .val (.int (128 : Int32))] [(.int (lcmpW q1 (127 : Int64)))])) _
        refine XS.ifYes X0.here hx rfl (pc0 := 17) (pc' := 31) rfl (hb hby d5_17) rfl ((if0 _ _).trans (tlt c17).2.2.1) (by decide) (by decide) ?_
        show Steps p.tables e below (s₁.setTop (mkF m 31 #[.val (.long q1), .second, .val (.int (128 : Int32))] [])) _
        refine st5 _ ?_
        show Steps p.tables e below (T5.setTop (mkF m 34 #[.val (.long q1), .second, .val (.int (128 : Int32))] [(.ref b5)])) _
        refine XS.dup X5.here hx rfl (hb hby d5_34) rfl rfl ?_
        show Steps p.tables e below (T5.setTop (mkF m 35 #[.val (.long q1), .second, .val (.int (128 : Int32))] [(.ref b5), (.ref b5)])) _
        refine XS.lloadN X5.here hx rfl (hb hby d5_35) rfl ?_
        show Steps p.tables e below (T5.setTop (mkF m 36 #[.val (.long q1), .second, .val (.int (128 : Int32))] [(.long q1), (.ref b5), (.ref b5)])) _
        refine st7.trans ?_
        show Steps p.tables e below (T7.setTop (mkF m 39 #[.val (.long q1), .second, .val (.int (128 : Int32))] [(.ref b5)])) _
        exact retOut X7 hx Bd.returns rfl (Or.inr (Or.inr (Or.inr (Or.inr ⟨rfl, rfl, rfl⟩)))) (hb hby d5_39) hr
      · show Q5 Z q1 ca cl h0 n0 _ T7.heap _
        exact ⟨_, rfl, N7, Kk7, E_b5_7⟩
    · skip
      obtain ⟨hin, hlt⟩ := Jvm.Free.LongBox.place_okL q1 (fun q => c9 ((lw_lt _ _).mpr q)) (fun q => c17 ((lw_gt _ _).mpr q))
      rw [← Sz] at hin
      obtain ⟨ai, hat, Eai⟩ := Hc _ hlt
      obtain ⟨T9, X9, e9, st9⟩ := getS2 X0 hx hZ hown (host := "") (Or.inl (hw _ (List.mem_of_getElem? (i := 35) rfl))) Via.refl e0 SC (g := (mkF m 20 #[.val (.long q1), .second, .val (.int (128 : Int32))] [])) rfl (hb hby d5_20)
      obtain ⟨fs, hr, hrun, hended, hW, hsame⟩ := X9.leave (v := some (.ref ai)) (fun h => by rw [Bd.returns] at h; cases h)
      refine ⟨_, _, pre0 _ ?_, hrun, hended, _, _, rfl, ?_, ⟨_, rfl⟩, hW, hsame.mono (by decide) (by decide)⟩
      · show Steps p.tables e below (s₁.setTop (mkF m 0 #[.val (.long q1), .second, .unset] [])) _
        refine XS.sipush X0.here hx rfl (hb hby d5_0) ?_
        show Steps p.tables e below (s₁.setTop (mkF m 3 #[.val (.long q1), .second, .unset] [(.int (128 : Int32))])) _
        refine XS.istoreN X0.here hx rfl (hb hby d5_3) rfl (l' := #[.val (.long q1), .second, .val (.int (128 : Int32))]) rfl ?_
        show Steps p.tables e below (s₁.setTop (mkF m 4 #[.val (.long q1), .second, .val (.int (128 : Int32))] [])) _
        refine XS.lloadN X0.here hx rfl (hb hby d5_4) rfl ?_
        show Steps p.tables e below (s₁.setTop (mkF m 5 #[.val (.long q1), .second, .val (.int (128 : Int32))] [(.long q1)])) _
        refine X0.ldc2Long hx hown (mvT hZ (hw _ (List.mem_of_getElem? (i := 33) rfl))) (g := (mkF m 5 #[.val (.long q1), .second, .val (.int (128 : Int32))] [(.long q1)])) rfl (hb hby d5_5) _ ?_
        show Steps p.tables e below (s₁.setTop (mkF m 8 #[.val (.long q1), .second, .val (.int (128 : Int32))] [(.long (-128 : Int64)), (.long q1)])) _
        refine XS.lcmp X0.here hx rfl (hb hby d5_8) rfl ?_
        show Steps p.tables e below (s₁.setTop (mkF m 9 #[.val (.long q1), .second, .val (.int (128 : Int32))] [(.int (lcmpW q1 (-128 : Int64)))])) _
        refine XS.ifNo X0.here hx rfl (hb hby d5_9) rfl ((if0 _ _).trans (flt c9).1) ?_
        show Steps p.tables e below (s₁.setTop (mkF m 12 #[.val (.long q1), .second, .val (.int (128 : Int32))] [])) _
        refine XS.lloadN X0.here hx rfl (hb hby d5_12) rfl ?_
        show Steps p.tables e below (s₁.setTop (mkF m 13 #[.val (.long q1), .second, .val (.int (128 : Int32))] [(.long q1)])) _
        refine X0.ldc2Long hx hown (mvT hZ (hw _ (List.mem_of_getElem? (i := 34) rfl))) (g := (mkF m 13 #[.val (.long q1), .second, .val (.int (128 : Int32))] [(.long q1)])) rfl (hb hby d5_13) _ ?_
        show Steps p.tables e below (s₁.setTop (mkF m 16 #[.val (.long q1), .second, .val (.int (128 : Int32))] [(.long (127 : Int64)), (.long q1)])) _
        refine XS.lcmp X0.here hx rfl (hb hby d5_16) rfl ?_
        show Steps p.tables e below (s₁.setTop (mkF m 17 #[.val (.long q1), .second, .val (.int (128 : Int32))] [(.int (lcmpW q1 (127 : Int64)))])) _
        refine XS.ifNo X0.here hx rfl (hb hby d5_17) rfl ((if0 _ _).trans (flt c17).2.2.1) ?_
        show Steps p.tables e below (s₁.setTop (mkF m 20 #[.val (.long q1), .second, .val (.int (128 : Int32))] [])) _
        refine st9 _ ?_
        show Steps p.tables e below (T9.setTop (mkF m 23 #[.val (.long q1), .second, .val (.int (128 : Int32))] [(.ref ca)])) _
        refine XS.lloadN X9.here hx rfl (hb hby d5_23) rfl ?_
        show Steps p.tables e below (T9.setTop (mkF m 24 #[.val (.long q1), .second, .val (.int (128 : Int32))] [(.long q1), (.ref ca)])) _
        refine XS.l2i X9.here hx rfl (hb hby d5_24) rfl ?_
        show Steps p.tables e below (T9.setTop (mkF m 25 #[.val (.long q1), .second, .val (.int (128 : Int32))] [(.int (q1.toInt32)), (.ref ca)])) _
        refine XS.sipush X9.here hx rfl (hb hby d5_25) ?_
        show Steps p.tables e below (T9.setTop (mkF m 28 #[.val (.long q1), .second, .val (.int (128 : Int32))] [(.int (128 : Int32)), (.int (q1.toInt32)), (.ref ca)])) _
        refine XS.iadd X9.here hx rfl (hb hby d5_28) rfl ?_
        show Steps p.tables e below (T9.setTop (mkF m 29 #[.val (.long q1), .second, .val (.int (128 : Int32))] [(.int ((q1.toInt32) + (128 : Int32))), (.ref ca)])) _
        refine X9.aaload hx (j := ((q1.toInt32) + (128 : Int32))) (v := (.ref ai)) (by rw [e9]; exact Ar.1) (State.isArrayOf_alike hZ.alike Ar.2.1) rfl Ar.2.2 hin hat (g := (mkF m 29 #[.val (.long q1), .second, .val (.int (128 : Int32))] [(.int ((q1.toInt32) + (128 : Int32))), (.ref ca)])) rfl rfl (hb hby d5_29) _ ?_
        show Steps p.tables e below (T9.setTop (mkF m 30 #[.val (.long q1), .second, .val (.int (128 : Int32))] [(.ref ai)])) _
        exact retOut X9 hx Bd.returns rfl (Or.inr (Or.inr (Or.inr (Or.inr ⟨rfl, rfl, rfl⟩)))) (hb hby d5_30) hr
      · show Q5 Z q1 ca cl h0 n0 _ T9.heap _
        rw [e9]
        exact ⟨ai, rfl, N0, KK0, Eai⟩
def Q4 (Z : State) (a1 a2 : Addr) (q1 q2 : Int64) (p1 p2 : Int32) (r1 r2 : Int64) (s1 s2 : Int32) (h0 : Heap) (n0 : Nat) (v : Option Value) (h : Heap) (L : List Loc) : Prop := v = some (.int (own_eq r1 r2 s1 s2 q1 q2 p1 p2)) ∧ Fr n0 L ∧ h = h0
set_option maxRecDepth 65536 in
set_option maxHeartbeats 40000000 in
theorem rm4 (l : Launch) (Z : State) (a0 : Array Value) (hw : ∀ d ∈ tables_1, d.before a0 Z = true) (ws : List Jvm.Cond) (a1 a2 : Addr) (q1 q2 : Int64) (p1 p2 : Int32) (r1 r2 : Int64) (s1 s2 : Int32) (h0 : Heap) (n0 : Nat) (Z0 : n0 ≤ h0.size) (F0 : Fld Z h0 a1 "com/example/tideline/tideline/session/FetchSession$Sent" "fetchOffset" "J" (.long q1)) (F1 : Fld Z h0 a1 "com/example/tideline/tideline/session/FetchSession$Sent" "logStartOffset" "J" (.long q2)) (F2 : Fld Z h0 a1 "com/example/tideline/tideline/session/FetchSession$Sent" "maxBytes" "I" (.int p1)) (F3 : Fld Z h0 a1 "com/example/tideline/tideline/session/FetchSession$Sent" "leaderEpoch" "I" (.int p2)) (G0 : Fld Z h0 a2 "com/example/tideline/tideline/session/FetchSession$Sent" "fetchOffset" "J" (.long r1)) (G1 : Fld Z h0 a2 "com/example/tideline/tideline/session/FetchSession$Sent" "logStartOffset" "J" (.long r2)) (G2 : Fld Z h0 a2 "com/example/tideline/tideline/session/FetchSession$Sent" "maxBytes" "I" (.int s1)) (G3 : Fld Z h0 a2 "com/example/tideline/tideline/session/FetchSession$Sent" "leaderEpoch" "I" (.int s2)) (E2 : Exa Z h0 a2 "com/example/tideline/tideline/session/FetchSession$Sent") :
    MetFree l (⟨"com/example/tideline/tideline/session/FetchSession$Sent", "equals", "(Ljava/lang/Object;)Z"⟩ : MethodName) (head1 (Jvm.Cond.code (⟨"com/example/tideline/tideline/session/FetchSession$Sent", "equals", "(Ljava/lang/Object;)Z"⟩ : MethodName) prog_250_method_2_code 3 (some .boolean) :: ws) ({ frames := 0, cells := 0, slots := 0, locals := 0 } : Room)) (fun a U => a = #[(.ref a1), (.ref a2)] ∧ Z.Warmed39 U.vm ∧ U.heap = h0) (fun _ _ _ _ _ => True) (fun _ U o U' => ∃ v L, o = .returned v ∧ Q4 Z a1 a2 q1 q2 p1 p2 r1 r2 s1 s2 h0 n0 v U'.heap L ∧ FrameEnd U o U' L ({ frames := 0, cells := 0, slots := 0, locals := 0 } : Room).cells ({ frames := 0, cells := 0, slots := 0, locals := 0 } : Room).slots) := by
  refine MetFree.of_bodySF (plainFor_of_name pn_4) hisR ?_
  intro p e s m args below meth c s₁ Bd hml0 hP hK
  obtain ⟨rfl, hZ, hh⟩ := hP
  have hx := Bd.exec
  have hby := Bd.bytes
  have hml : c.maxLocals = 3 := hml0
  have hown : s.vm.findClass "com/example/tideline/tideline/session/FetchSession$Sent" = some m.cls := findClass_of_methodNamed Bd.named
  have hnm := (name_of_methodNamed Bd.named Bd.method).1
  have X0 : Stand p l e ({ frames := 0, cells := 0, slots := 0, locals := 0 } : Room) s m #[(.ref a1), (.ref a2)] below meth c s₁ [] 0 0 := Stand.of_body Bd
  have e0 : s₁.heap = h0 := by rw [← hh, Bd.state]; rfl
  have N0 := Fr.nil n0
  have pre0 : ∀ t, Steps p.tables e below (s₁.setTop (mkF m 0 #[.val (.ref a1), .val (.ref a2), .unset] [])) t → Steps p.tables e below (s₁.setTop (entryFrame m #[(.ref a1), (.ref a2)] 3)) t := fun t k => castTop (ef_4 m a1 a2) k
  obtain ⟨T1, X1, e1, st1⟩ := instY X0 hx hZ hown (hw _ (List.mem_of_getElem? (i := 27) rfl)) e0 (Ins.self E2) (g := (mkF m 1 #[.val (.ref a1), .val (.ref a2), .unset] [(.ref a2)])) rfl rfl (hb hby d4_1)
  obtain ⟨T2, X2, e2, st2⟩ := castY X1 hx hZ hown (hw _ (List.mem_of_getElem? (i := 27) rfl)) e1 (Ins.self E2) (g := (mkF m 8 #[.val (.ref a1), .val (.ref a2), .unset] [(.ref a2)])) rfl rfl (hb hby d4_8)
  obtain ⟨T3, X3, e3, st3⟩ := getF X2 hx hZ hown (host := "") (Or.inl (hw _ (List.mem_of_getElem? (i := 14) rfl))) Via.refl e2 G0 (g := (mkF m 13 #[.val (.ref a1), .val (.ref a2), .val (.ref a2)] [(.ref a2)])) rfl rfl (hb hby d4_13)
  obtain ⟨T4, X4, e4, st4⟩ := getF X3 hx hZ hown (host := "") (Or.inl (hw _ (List.mem_of_getElem? (i := 14) rfl))) Via.refl e3 F0 (g := (mkF m 17 #[.val (.ref a1), .val (.ref a2), .val (.ref a2)] [(.ref a1), (.long r1)])) rfl rfl (hb hby d4_17)
  have pre1 : ∀ t, Steps p.tables e below (T4.setTop (mkF m 21 #[.val (.ref a1), .val (.ref a2), .val (.ref a2)] [(.int (lcmpW r1 q1))])) t → Steps p.tables e below (s₁.setTop (entryFrame m #[(.ref a1), (.ref a2)] 3)) t := by
    intro t k
    refine pre0 t ?_
    show Steps p.tables e below (s₁.setTop (mkF m 0 #[.val (.ref a1), .val (.ref a2), .unset] [])) _
    refine XS.aloadN X0.here hx rfl (hb hby d4_0) rfl rfl ?_
    show Steps p.tables e below (s₁.setTop (mkF m 1 #[.val (.ref a1), .val (.ref a2), .unset] [(.ref a2)])) _
    refine st1 _ ?_
    show Steps p.tables e below (T1.setTop (mkF m 4 #[.val (.ref a1), .val (.ref a2), .unset] [(.int (1 : Int32))])) _
    refine XS.ifNo X1.here hx rfl (hb hby d4_4) rfl ((if0 _ _).trans (feq (by decide : ¬ ((1 : Int32) = (0 : Int32)))).1) ?_
    show Steps p.tables e below (T1.setTop (mkF m 7 #[.val (.ref a1), .val (.ref a2), .unset] [])) _
    refine XS.aloadN X1.here hx rfl (hb hby d4_7) rfl rfl ?_
    show Steps p.tables e below (T1.setTop (mkF m 8 #[.val (.ref a1), .val (.ref a2), .unset] [(.ref a2)])) _
    refine st2 _ ?_
    show Steps p.tables e below (T2.setTop (mkF m 11 #[.val (.ref a1), .val (.ref a2), .unset] [(.ref a2)])) _
    refine XS.astoreN X2.here hx rfl (hb hby d4_11) rfl rfl (l' := #[.val (.ref a1), .val (.ref a2), .val (.ref a2)]) rfl ?_
    show Steps p.tables e below (T2.setTop (mkF m 12 #[.val (.ref a1), .val (.ref a2), .val (.ref a2)] [])) _
    refine XS.aloadN X2.here hx rfl (hb hby d4_12) rfl rfl ?_
    show Steps p.tables e below (T2.setTop (mkF m 13 #[.val (.ref a1), .val (.ref a2), .val (.ref a2)] [(.ref a2)])) _
    refine st3 _ ?_
    show Steps p.tables e below (T3.setTop (mkF m 16 #[.val (.ref a1), .val (.ref a2), .val (.ref a2)] [(.long r1)])) _
    refine XS.aloadN X3.here hx rfl (hb hby d4_16) rfl rfl ?_
    show Steps p.tables e below (T3.setTop (mkF m 17 #[.val (.ref a1), .val (.ref a2), .val (.ref a2)] [(.ref a1), (.long r1)])) _
    refine st4 _ ?_
    show Steps p.tables e below (T4.setTop (mkF m 20 #[.val (.ref a1), .val (.ref a2), .val (.ref a2)] [(.long q1), (.long r1)])) _
    refine XS.lcmp X4.here hx rfl (hb hby d4_20) rfl ?_
    exact k
  by_cases c21 : r1 = q1
  · skip
    obtain ⟨T5, X5, e5, st5⟩ := getF X4 hx hZ hown (host := "") (Or.inl (hw _ (List.mem_of_getElem? (i := 16) rfl))) Via.refl e4 G1 (g := (mkF m 25 #[.val (.ref a1), .val (.ref a2), .val (.ref a2)] [(.ref a2)])) rfl rfl (hb hby d4_25)
    obtain ⟨T6, X6, e6, st6⟩ := getF X5 hx hZ hown (host := "") (Or.inl (hw _ (List.mem_of_getElem? (i := 16) rfl))) Via.refl e5 F1 (g := (mkF m 29 #[.val (.ref a1), .val (.ref a2), .val (.ref a2)] [(.ref a1), (.long r2)])) rfl rfl (hb hby d4_29)
    have pre2 : ∀ t, Steps p.tables e below (T6.setTop (mkF m 33 #[.val (.ref a1), .val (.ref a2), .val (.ref a2)] [(.int (lcmpW r2 q2))])) t → Steps p.tables e below (s₁.setTop (entryFrame m #[(.ref a1), (.ref a2)] 3)) t := by
      intro t k
      refine pre1 t ?_
      show Steps p.tables e below (T4.setTop (mkF m 21 #[.val (.ref a1), .val (.ref a2), .val (.ref a2)] [(.int (lcmpW r1 q1))])) _
      refine XS.ifNo X4.here hx rfl (hb hby d4_21) rfl ((if0 _ _).trans (teq ((lw_eq _ _).mpr c21)).2) ?_
      show Steps p.tables e below (T4.setTop (mkF m 24 #[.val (.ref a1), .val (.ref a2), .val (.ref a2)] [])) _
      refine XS.aloadN X4.here hx rfl (hb hby d4_24) rfl rfl ?_
      show Steps p.tables e below (T4.setTop (mkF m 25 #[.val (.ref a1), .val (.ref a2), .val (.ref a2)] [(.ref a2)])) _
      refine st5 _ ?_
      show Steps p.tables e below (T5.setTop (mkF m 28 #[.val (.ref a1), .val (.ref a2), .val (.ref a2)] [(.long r2)])) _
      refine XS.aloadN X5.here hx rfl (hb hby d4_28) rfl rfl ?_
      show Steps p.tables e below (T5.setTop (mkF m 29 #[.val (.ref a1), .val (.ref a2), .val (.ref a2)] [(.ref a1), (.long r2)])) _
      refine st6 _ ?_
      show Steps p.tables e below (T6.setTop (mkF m 32 #[.val (.ref a1), .val (.ref a2), .val (.ref a2)] [(.long q2), (.long r2)])) _
      refine XS.lcmp X6.here hx rfl (hb hby d4_32) rfl ?_
      exact k
    by_cases c33 : r2 = q2
    · skip
      obtain ⟨T7, X7, e7, st7⟩ := getF X6 hx hZ hown (host := "") (Or.inl (hw _ (List.mem_of_getElem? (i := 18) rfl))) Via.refl e6 G2 (g := (mkF m 37 #[.val (.ref a1), .val (.ref a2), .val (.ref a2)] [(.ref a2)])) rfl rfl (hb hby d4_37)
      obtain ⟨T8, X8, e8, st8⟩ := getF X7 hx hZ hown (host := "") (Or.inl (hw _ (List.mem_of_getElem? (i := 18) rfl))) Via.refl e7 F2 (g := (mkF m 41 #[.val (.ref a1), .val (.ref a2), .val (.ref a2)] [(.ref a1), (.int s1)])) rfl rfl (hb hby d4_41)
      have pre3 : ∀ t, Steps p.tables e below (T8.setTop (mkF m 44 #[.val (.ref a1), .val (.ref a2), .val (.ref a2)] [(.int p1), (.int s1)])) t → Steps p.tables e below (s₁.setTop (entryFrame m #[(.ref a1), (.ref a2)] 3)) t := by
        intro t k
        refine pre2 t ?_
        show Steps p.tables e below (T6.setTop (mkF m 33 #[.val (.ref a1), .val (.ref a2), .val (.ref a2)] [(.int (lcmpW r2 q2))])) _
        refine XS.ifNo X6.here hx rfl (hb hby d4_33) rfl ((if0 _ _).trans (teq ((lw_eq _ _).mpr c33)).2) ?_
        show Steps p.tables e below (T6.setTop (mkF m 36 #[.val (.ref a1), .val (.ref a2), .val (.ref a2)] [])) _
        refine XS.aloadN X6.here hx rfl (hb hby d4_36) rfl rfl ?_
        show Steps p.tables e below (T6.setTop (mkF m 37 #[.val (.ref a1), .val (.ref a2), .val (.ref a2)] [(.ref a2)])) _
        refine st7 _ ?_
        show Steps p.tables e below (T7.setTop (mkF m 40 #[.val (.ref a1), .val (.ref a2), .val (.ref a2)] [(.int s1)])) _
        refine XS.aloadN X7.here hx rfl (hb hby d4_40) rfl rfl ?_
        show Steps p.tables e below (T7.setTop (mkF m 41 #[.val (.ref a1), .val (.ref a2), .val (.ref a2)] [(.ref a1), (.int s1)])) _
        refine st8 _ ?_
        exact k
      by_cases c44 : s1 = p1
      · skip
        obtain ⟨T9, X9, e9, st9⟩ := getF X8 hx hZ hown (host := "") (Or.inl (hw _ (List.mem_of_getElem? (i := 20) rfl))) Via.refl e8 G3 (g := (mkF m 48 #[.val (.ref a1), .val (.ref a2), .val (.ref a2)] [(.ref a2)])) rfl rfl (hb hby d4_48)
        obtain ⟨T10, X10, e10, st10⟩ := getF X9 hx hZ hown (host := "") (Or.inl (hw _ (List.mem_of_getElem? (i := 20) rfl))) Via.refl e9 F3 (g := (mkF m 52 #[.val (.ref a1), .val (.ref a2), .val (.ref a2)] [(.ref a1), (.int s2)])) rfl rfl (hb hby d4_52)
        have pre4 : ∀ t, Steps p.tables e below (T10.setTop (mkF m 55 #[.val (.ref a1), .val (.ref a2), .val (.ref a2)] [(.int p2), (.int s2)])) t → Steps p.tables e below (s₁.setTop (entryFrame m #[(.ref a1), (.ref a2)] 3)) t := by
          intro t k
          refine pre3 t ?_
          show Steps p.tables e below (T8.setTop (mkF m 44 #[.val (.ref a1), .val (.ref a2), .val (.ref a2)] [(.int p1), (.int s1)])) _
          refine XS.icmpNo X8.here hx rfl (hb hby d4_44) rfl (teq c44).2 ?_
          show Steps p.tables e below (T8.setTop (mkF m 47 #[.val (.ref a1), .val (.ref a2), .val (.ref a2)] [])) _
          refine XS.aloadN X8.here hx rfl (hb hby d4_47) rfl rfl ?_
          show Steps p.tables e below (T8.setTop (mkF m 48 #[.val (.ref a1), .val (.ref a2), .val (.ref a2)] [(.ref a2)])) _
          refine st9 _ ?_
          show Steps p.tables e below (T9.setTop (mkF m 51 #[.val (.ref a1), .val (.ref a2), .val (.ref a2)] [(.int s2)])) _
          refine XS.aloadN X9.here hx rfl (hb hby d4_51) rfl rfl ?_
          show Steps p.tables e below (T9.setTop (mkF m 52 #[.val (.ref a1), .val (.ref a2), .val (.ref a2)] [(.ref a1), (.int s2)])) _
          refine st10 _ ?_
          exact k
        by_cases c55 : s2 = p2
        · skip
          obtain ⟨fs, hr, hrun, hended, hW, hsame⟩ := X10.leave (v := some (.int (1 : Int32))) (fun h => by rw [Bd.returns] at h; cases h)
          refine ⟨_, _, pre4 _ ?_, hrun, hended, _, _, rfl, ?_, ⟨_, rfl⟩, hW, hsame.mono (by decide) (by decide)⟩
          · show Steps p.tables e below (T10.setTop (mkF m 55 #[.val (.ref a1), .val (.ref a2), .val (.ref a2)] [(.int p2), (.int s2)])) _
            refine XS.icmpNo X10.here hx rfl (hb hby d4_55) rfl (teq c55).2 ?_
            show Steps p.tables e below (T10.setTop (mkF m 58 #[.val (.ref a1), .val (.ref a2), .val (.ref a2)] [])) _
            refine XS.iconst X10.here hx rfl (hb hby d4_58) ?_
            show Steps p.tables e below (T10.setTop (mkF m 59 #[.val (.ref a1), .val (.ref a2), .val (.ref a2)] [(.int (1 : Int32))])) _
            refine XS.goto X10.here hx rfl (pc0 := 59) (pc' := 63) rfl (hb hby d4_59) (by decide) (by decide) ?_
            show Steps p.tables e below (T10.setTop (mkF m 63 #[.val (.ref a1), .val (.ref a2), .val (.ref a2)] [(.int (1 : Int32))])) _
            exact retN X10 hx (t := .boolean) Bd.returns (by simp) (hb hby d4_63) hr
          · show Q4 Z a1 a2 q1 q2 p1 p2 r1 r2 s1 s2 h0 n0 _ T10.heap _
            rw [e10]
            exact ⟨by unfold own_eq; rw [if_pos ⟨c21, c33, c44, c55⟩], N0, rfl⟩
        · skip
          obtain ⟨fs, hr, hrun, hended, hW, hsame⟩ := X10.leave (v := some (.int (0 : Int32))) (fun h => by rw [Bd.returns] at h; cases h)
          refine ⟨_, _, pre4 _ ?_, hrun, hended, _, _, rfl, ?_, ⟨_, rfl⟩, hW, hsame.mono (by decide) (by decide)⟩
          · show Steps p.tables e below (T10.setTop (mkF m 55 #[.val (.ref a1), .val (.ref a2), .val (.ref a2)] [(.int p2), (.int s2)])) _
            refine XS.icmpYes X10.here hx rfl (pc0 := 55) (pc' := 62) rfl (hb hby d4_55) rfl (feq c55).2 (by decide) (by decide) ?_
            show Steps p.tables e below (T10.setTop (mkF m 62 #[.val (.ref a1), .val (.ref a2), .val (.ref a2)] [])) _
            refine XS.iconst X10.here hx rfl (hb hby d4_62) ?_
            show Steps p.tables e below (T10.setTop (mkF m 63 #[.val (.ref a1), .val (.ref a2), .val (.ref a2)] [(.int (0 : Int32))])) _
            exact retN X10 hx (t := .boolean) Bd.returns (by simp) (hb hby d4_63) hr
          · show Q4 Z a1 a2 q1 q2 p1 p2 r1 r2 s1 s2 h0 n0 _ T10.heap _
            rw [e10]
            exact ⟨by unfold own_eq; rw [if_neg (fun q => c55 q.2.2.2)], N0, rfl⟩
      · skip
        obtain ⟨fs, hr, hrun, hended, hW, hsame⟩ := X8.leave (v := some (.int (0 : Int32))) (fun h => by rw [Bd.returns] at h; cases h)
        refine ⟨_, _, pre3 _ ?_, hrun, hended, _, _, rfl, ?_, ⟨_, rfl⟩, hW, hsame.mono (by decide) (by decide)⟩
        · show Steps p.tables e below (T8.setTop (mkF m 44 #[.val (.ref a1), .val (.ref a2), .val (.ref a2)] [(.int p1), (.int s1)])) _
          refine XS.icmpYes X8.here hx rfl (pc0 := 44) (pc' := 62) rfl (hb hby d4_44) rfl (feq c44).2 (by decide) (by decide) ?_
          show Steps p.tables e below (T8.setTop (mkF m 62 #[.val (.ref a1), .val (.ref a2), .val (.ref a2)] [])) _
          refine XS.iconst X8.here hx rfl (hb hby d4_62) ?_
          show Steps p.tables e below (T8.setTop (mkF m 63 #[.val (.ref a1), .val (.ref a2), .val (.ref a2)] [(.int (0 : Int32))])) _
          exact retN X8 hx (t := .boolean) Bd.returns (by simp) (hb hby d4_63) hr
        · show Q4 Z a1 a2 q1 q2 p1 p2 r1 r2 s1 s2 h0 n0 _ T8.heap _
          rw [e8]
          exact ⟨by unfold own_eq; rw [if_neg (fun q => c44 q.2.2.1)], N0, rfl⟩
    · skip
      obtain ⟨fs, hr, hrun, hended, hW, hsame⟩ := X6.leave (v := some (.int (0 : Int32))) (fun h => by rw [Bd.returns] at h; cases h)
      refine ⟨_, _, pre2 _ ?_, hrun, hended, _, _, rfl, ?_, ⟨_, rfl⟩, hW, hsame.mono (by decide) (by decide)⟩
      · show Steps p.tables e below (T6.setTop (mkF m 33 #[.val (.ref a1), .val (.ref a2), .val (.ref a2)] [(.int (lcmpW r2 q2))])) _
        refine XS.ifYes X6.here hx rfl (pc0 := 33) (pc' := 62) rfl (hb hby d4_33) rfl ((if0 _ _).trans (feq (fun q => c33 ((lw_eq _ _).mp q))).2) (by decide) (by decide) ?_
        show Steps p.tables e below (T6.setTop (mkF m 62 #[.val (.ref a1), .val (.ref a2), .val (.ref a2)] [])) _
        refine XS.iconst X6.here hx rfl (hb hby d4_62) ?_
        show Steps p.tables e below (T6.setTop (mkF m 63 #[.val (.ref a1), .val (.ref a2), .val (.ref a2)] [(.int (0 : Int32))])) _
        exact retN X6 hx (t := .boolean) Bd.returns (by simp) (hb hby d4_63) hr
      · show Q4 Z a1 a2 q1 q2 p1 p2 r1 r2 s1 s2 h0 n0 _ T6.heap _
        rw [e6]
        exact ⟨by unfold own_eq; rw [if_neg (fun q => c33 q.2.1)], N0, rfl⟩
  · skip
    obtain ⟨fs, hr, hrun, hended, hW, hsame⟩ := X4.leave (v := some (.int (0 : Int32))) (fun h => by rw [Bd.returns] at h; cases h)
    refine ⟨_, _, pre1 _ ?_, hrun, hended, _, _, rfl, ?_, ⟨_, rfl⟩, hW, hsame.mono (by decide) (by decide)⟩
    · show Steps p.tables e below (T4.setTop (mkF m 21 #[.val (.ref a1), .val (.ref a2), .val (.ref a2)] [(.int (lcmpW r1 q1))])) _
      refine XS.ifYes X4.here hx rfl (pc0 := 21) (pc' := 62) rfl (hb hby d4_21) rfl ((if0 _ _).trans (feq (fun q => c21 ((lw_eq _ _).mp q))).2) (by decide) (by decide) ?_
      show Steps p.tables e below (T4.setTop (mkF m 62 #[.val (.ref a1), .val (.ref a2), .val (.ref a2)] [])) _
      refine XS.iconst X4.here hx rfl (hb hby d4_62) ?_
      show Steps p.tables e below (T4.setTop (mkF m 63 #[.val (.ref a1), .val (.ref a2), .val (.ref a2)] [(.int (0 : Int32))])) _
      exact retN X4 hx (t := .boolean) Bd.returns (by simp) (hb hby d4_63) hr
    · show Q4 Z a1 a2 q1 q2 p1 p2 r1 r2 s1 s2 h0 n0 _ T4.heap _
      rw [e4]
      exact ⟨by unfold own_eq; rw [if_neg (fun q => c21 q.1)], N0, rfl⟩
def Q4n (Z : State) (a1 : Addr) (h0 : Heap) (n0 : Nat) (v : Option Value) (h : Heap) (L : List Loc) : Prop := v = some (.int 0) ∧ Fr n0 L ∧ h = h0
set_option maxRecDepth 65536 in
set_option maxHeartbeats 40000000 in
theorem rm4n (l : Launch) (Z : State) (a0 : Array Value) (hw : ∀ d ∈ tables_1, d.before a0 Z = true) (ws : List Jvm.Cond) (a1 : Addr) (h0 : Heap) (n0 : Nat) (Z0 : n0 ≤ h0.size) :
    MetFree l (⟨"com/example/tideline/tideline/session/FetchSession$Sent", "equals", "(Ljava/lang/Object;)Z"⟩ : MethodName) (head1 (Jvm.Cond.code (⟨"com/example/tideline/tideline/session/FetchSession$Sent", "equals", "(Ljava/lang/Object;)Z"⟩ : MethodName) prog_250_method_2_code 3 (some .boolean) :: ws) ({ frames := 0, cells := 0, slots := 0, locals := 0 } : Room)) (fun a U => a = #[(.ref a1), .null] ∧ Z.Warmed39 U.vm ∧ U.heap = h0) (fun _ _ _ _ _ => True) (fun _ U o U' => ∃ v L, o = .returned v ∧ Q4n Z a1 h0 n0 v U'.heap L ∧ FrameEnd U o U' L ({ frames := 0, cells := 0, slots := 0, locals := 0 } : Room).cells ({ frames := 0, cells := 0, slots := 0, locals := 0 } : Room).slots) := by
  refine MetFree.of_bodySF (plainFor_of_name pn_4) hisR ?_
  intro p e s m args below meth c s₁ Bd hml0 hP hK
  obtain ⟨rfl, hZ, hh⟩ := hP
  have hx := Bd.exec
  have hby := Bd.bytes
  have hml : c.maxLocals = 3 := hml0
  have hown : s.vm.findClass "com/example/tideline/tideline/session/FetchSession$Sent" = some m.cls := findClass_of_methodNamed Bd.named
  have hnm := (name_of_methodNamed Bd.named Bd.method).1
  have X0 : Stand p l e ({ frames := 0, cells := 0, slots := 0, locals := 0 } : Room) s m #[(.ref a1), .null] below meth c s₁ [] 0 0 := Stand.of_body Bd
  have e0 : s₁.heap = h0 := by rw [← hh, Bd.state]; rfl
  have N0 := Fr.nil n0
  have pre0 : ∀ t, Steps p.tables e below (s₁.setTop (mkF m 0 #[.val (.ref a1), .val .null, .unset] [])) t → Steps p.tables e below (s₁.setTop (entryFrame m #[(.ref a1), .null] 3)) t := fun t k => castTop (ef_4n m a1) k
  obtain ⟨fs, hr, hrun, hended, hW, hsame⟩ := X0.leave (v := some (.int (0 : Int32))) (fun h => by rw [Bd.returns] at h; cases h)
  refine ⟨_, _, pre0 _ ?_, hrun, hended, _, _, rfl, ?_, ⟨_, rfl⟩, hW, hsame.mono (by decide) (by decide)⟩
  · show Steps p.tables e below (s₁.setTop (mkF m 0 #[.val (.ref a1), .val .null, .unset] [])) _
    refine XS.aloadN X0.here hx rfl (hb hby d4_0) rfl rfl ?_
    show Steps p.tables e below (s₁.setTop (mkF m 1 #[.val (.ref a1), .val .null, .unset] [.null])) _
    refine X0.instanceofNull hx (g := (mkF m 1 #[.val (.ref a1), .val .null, .unset] [.null])) rfl rfl (hb hby d4_1) _ ?_
    show Steps p.tables e below (s₁.setTop (mkF m 4 #[.val (.ref a1), .val .null, .unset] [(.int (0 : Int32))])) _
    refine XS.ifYes X0.here hx rfl (pc0 := 4) (pc' := 62) rfl (hb hby d4_4) rfl ((if0 _ _).trans (teq (rfl : (0 : Int32) = (0 : Int32))).1) (by decide) (by decide) ?_
    show Steps p.tables e below (s₁.setTop (mkF m 62 #[.val (.ref a1), .val .null, .unset] [])) _
    refine XS.iconst X0.here hx rfl (hb hby d4_62) ?_
    show Steps p.tables e below (s₁.setTop (mkF m 63 #[.val (.ref a1), .val .null, .unset] [(.int (0 : Int32))])) _
    exact retN X0 hx (t := .boolean) Bd.returns (by simp) (hb hby d4_63) hr
  · show Q4n Z a1 h0 n0 _ s₁.heap _
    rw [e0]
    exact ⟨rfl, N0, rfl⟩
def Q4i (Z : State) (a1 a2 : Addr) (h0 : Heap) (n0 : Nat) (v : Option Value) (h : Heap) (L : List Loc) : Prop := v = some (.int 0) ∧ Fr n0 L ∧ h = h0
set_option maxRecDepth 65536 in
set_option maxHeartbeats 40000000 in
theorem rm4i (l : Launch) (Z : State) (a0 : Array Value) (hw : ∀ d ∈ tables_1, d.before a0 Z = true) (ws : List Jvm.Cond) (a1 a2 : Addr) (h0 : Heap) (n0 : Nat) (Z0 : n0 ≤ h0.size) (E2 : Exa Z h0 a2 "java/lang/Long") :
    MetFree l (⟨"com/example/tideline/tideline/session/FetchSession$Sent", "equals", "(Ljava/lang/Object;)Z"⟩ : MethodName) (head1 (Jvm.Cond.code (⟨"com/example/tideline/tideline/session/FetchSession$Sent", "equals", "(Ljava/lang/Object;)Z"⟩ : MethodName) prog_250_method_2_code 3 (some .boolean) :: ws) ({ frames := 0, cells := 0, slots := 0, locals := 0 } : Room)) (fun a U => a = #[(.ref a1), (.ref a2)] ∧ Z.Warmed39 U.vm ∧ U.heap = h0) (fun _ _ _ _ _ => True) (fun _ U o U' => ∃ v L, o = .returned v ∧ Q4i Z a1 a2 h0 n0 v U'.heap L ∧ FrameEnd U o U' L ({ frames := 0, cells := 0, slots := 0, locals := 0 } : Room).cells ({ frames := 0, cells := 0, slots := 0, locals := 0 } : Room).slots) := by
  refine MetFree.of_bodySF (plainFor_of_name pn_4) hisR ?_
  intro p e s m args below meth c s₁ Bd hml0 hP hK
  obtain ⟨rfl, hZ, hh⟩ := hP
  have hx := Bd.exec
  have hby := Bd.bytes
  have hml : c.maxLocals = 3 := hml0
  have hown : s.vm.findClass "com/example/tideline/tideline/session/FetchSession$Sent" = some m.cls := findClass_of_methodNamed Bd.named
  have hnm := (name_of_methodNamed Bd.named Bd.method).1
  have X0 : Stand p l e ({ frames := 0, cells := 0, slots := 0, locals := 0 } : Room) s m #[(.ref a1), (.ref a2)] below meth c s₁ [] 0 0 := Stand.of_body Bd
  have e0 : s₁.heap = h0 := by rw [← hh, Bd.state]; rfl
  have N0 := Fr.nil n0
  have pre0 : ∀ t, Steps p.tables e below (s₁.setTop (mkF m 0 #[.val (.ref a1), .val (.ref a2), .unset] [])) t → Steps p.tables e below (s₁.setTop (entryFrame m #[(.ref a1), (.ref a2)] 3)) t := fun t k => castTop (ef_4 m a1 a2) k
  have hno := own_no (hw _ (List.mem_of_getElem? (i := 37) rfl)) (hw _ (List.mem_of_getElem? (i := 1) rfl)) (NS.step (hw _ (List.mem_of_getElem? (i := 37) rfl)) (NS.step (hw _ (List.mem_of_getElem? (i := 38) rfl)) (own_root (hw _ (List.mem_of_getElem? (i := 39) rfl)) (hw _ (List.mem_of_getElem? (i := 1) rfl)) (by decide)) (by decide)) (by decide)) (by decide)
  obtain ⟨T1, X1, e1, st1⟩ := instNo X0 hx hZ hown (hw _ (List.mem_of_getElem? (i := 27) rfl)) e0 E2 hno (g := (mkF m 1 #[.val (.ref a1), .val (.ref a2), .unset] [(.ref a2)])) rfl rfl (hb hby d4_1)
  obtain ⟨fs, hr, hrun, hended, hW, hsame⟩ := X1.leave (v := some (.int (0 : Int32))) (fun h => by rw [Bd.returns] at h; cases h)
  refine ⟨_, _, pre0 _ ?_, hrun, hended, _, _, rfl, ?_, ⟨_, rfl⟩, hW, hsame.mono (by decide) (by decide)⟩
  · show Steps p.tables e below (s₁.setTop (mkF m 0 #[.val (.ref a1), .val (.ref a2), .unset] [])) _
    refine XS.aloadN X0.here hx rfl (hb hby d4_0) rfl rfl ?_
    show Steps p.tables e below (s₁.setTop (mkF m 1 #[.val (.ref a1), .val (.ref a2), .unset] [(.ref a2)])) _
    refine st1 _ ?_
    show Steps p.tables e below (T1.setTop (mkF m 4 #[.val (.ref a1), .val (.ref a2), .unset] [(.int (0 : Int32))])) _
    refine XS.ifYes X1.here hx rfl (pc0 := 4) (pc' := 62) rfl (hb hby d4_4) rfl ((if0 _ _).trans (teq (rfl : (0 : Int32) = (0 : Int32))).1) (by decide) (by decide) ?_
    show Steps p.tables e below (T1.setTop (mkF m 62 #[.val (.ref a1), .val (.ref a2), .unset] [])) _
    refine XS.iconst X1.here hx rfl (hb hby d4_62) ?_
    show Steps p.tables e below (T1.setTop (mkF m 63 #[.val (.ref a1), .val (.ref a2), .unset] [(.int (0 : Int32))])) _
    exact retN X1 hx (t := .boolean) Bd.returns (by simp) (hb hby d4_63) hr
  · show Q4i Z a1 a2 h0 n0 _ T1.heap _
    rw [e1]
    exact ⟨rfl, N0, rfl⟩
def Q0 (Z : State) (q0 q2 : Int64) (p4 p5 : Int32) (q6 : Int64) (p8 : Int32) (ca : Addr) (cl : Cell) (h0 : Heap) (n0 : Nat) (v : Option Value) (h : Heap) (L : List Loc) : Prop := v = some (.int 1) ∧ Fr n0 L
set_option maxRecDepth 65536 in
set_option maxHeartbeats 40000000 in
theorem rm0 (l : Launch) (Z : State) (a0 : Array Value) (hw : ∀ d ∈ tables_1, d.before a0 Z = true) (ws : List Jvm.Cond) (q0 q2 : Int64) (p4 p5 : Int32) (q6 : Int64) (p8 : Int32) (ca : Addr) (cl : Cell) (h0 : Heap) (n0 : Nat) (Z0 : n0 ≤ h0.size) (SC : Sta Z Z.heap "java/lang/Long$LongCache" "cache" "[Ljava/lang/Long;" (.ref ca)) (Ar : Arr Z Z.heap ca cl (.object "java/lang/Long")) (Sz : cl.slots.size = 256) (Hc : ∀ j, j < 256 → ∃ a, cl.slots[j]? = some (.ref a) ∧ Exa Z Z.heap a "java/lang/Long") (O0 : Old Z n0 h0) :
    MetFree l x (head1 (Jvm.Cond.code x code maxLocals ret :: ws) room_1) (fun a U => a = #[(.long q0), (.long q2), (.int p4), (.int p5), (.long q6), (.int p8)] ∧ Z.Warmed39 U.vm ∧ U.heap = h0) (fun _ _ _ _ _ => True) (fun _ U o U' => ∃ v L, o = .returned v ∧ Q0 Z q0 q2 p4 p5 q6 p8 ca cl h0 n0 v U'.heap L ∧ FrameEnd U o U' L room_1.cells room_1.slots) := by
  refine MetFree.of_bodySF (plainFor_of_name pn_0) hisR ?_
  intro p e s m args below meth c s₁ Bd hml0 hP hK
  obtain ⟨rfl, hZ, hh⟩ := hP
  have hx := Bd.exec
  have hby := Bd.bytes
  have hml : c.maxLocals = 20 := hml0
  have hown : s.vm.findClass "com/example/tideline/tideline/session/SentEqualsPinLaw" = some m.cls := findClass_of_methodNamed Bd.named
  have hnm := (name_of_methodNamed Bd.named Bd.method).1
  have X0 : Stand p l e room_1 s m #[(.long q0), (.long q2), (.int p4), (.int p5), (.long q6), (.int p8)] below meth c s₁ [] 0 0 := Stand.of_body Bd
  have e0 : s₁.heap = h0 := by rw [← hh, Bd.state]; rfl
  have N0 := Fr.nil n0
  have pre0 : ∀ t, Steps p.tables e below (s₁.setTop (mkF m 0 #[.val (.long q0), .second, .val (.long q2), .second, .val (.int p4), .val (.int p5), .val (.long q6), .second, .val (.int p8), .unset, .unset, .unset, .unset, .unset, .unset, .unset, .unset, .unset, .unset, .unset] [])) t → Steps p.tables e below (s₁.setTop (entryFrame m #[(.long q0), (.long q2), (.int p4), (.int p5), (.long q6), (.int p8)] maxLocals)) t := fun t k => castTop (ef_0 m q0 q2 p4 p5 q6 p8) k
  obtain ⟨fo2, pre1⟩ : ∃ (fo2 : Int64), ∀ t, Steps p.tables e below (s₁.setTop (mkF m 13 #[.val (.long q0), .second, .val (.long q2), .second, .val (.int p4), .val (.int p5), .val (.long q6), .second, .val (.int p8), .unset, .unset, .unset, .unset, .unset, .unset, .unset, .unset, .unset, .unset, .unset] [(.long fo2)])) t → Steps p.tables e below (s₁.setTop (entryFrame m #[(.long q0), (.long q2), (.int p4), (.int p5), (.long q6), (.int p8)] maxLocals)) t := by
    by_cases c4 : (p8 &&& (1 : Int32)) = 0
    · refine ⟨(q0), fun t k => pre0 t ?_⟩
      show Steps p.tables e below (s₁.setTop (mkF m 0 #[.val (.long q0), .second, .val (.long q2), .second, .val (.int p4), .val (.int p5), .val (.long q6), .second, .val (.int p8), .unset, .unset, .unset, .unset, .unset, .unset, .unset, .unset, .unset, .unset, .unset] [])) _
      refine XS.iload X0.here hx rfl (hb hby at_0) rfl ?_
      show Steps p.tables e below (s₁.setTop (mkF m 2 #[.val (.long q0), .second, .val (.long q2), .second, .val (.int p4), .val (.int p5), .val (.long q6), .second, .val (.int p8), .unset, .unset, .unset, .unset, .unset, .unset, .unset, .unset, .unset, .unset, .unset] [(.int p8)])) _
      refine XS.iconst X0.here hx rfl (hb hby at_2) ?_
      show Steps p.tables e below (s₁.setTop (mkF m 3 #[.val (.long q0), .second, .val (.long q2), .second, .val (.int p4), .val (.int p5), .val (.long q6), .second, .val (.int p8), .unset, .unset, .unset, .unset, .unset, .unset, .unset, .unset, .unset, .unset, .unset] [(.int (1 : Int32)), (.int p8)])) _
      refine XS.iand X0.here hx rfl (hb hby at_3) rfl ?_
      show Steps p.tables e below (s₁.setTop (mkF m 4 #[.val (.long q0), .second, .val (.long q2), .second, .val (.int p4), .val (.int p5), .val (.long q6), .second, .val (.int p8), .unset, .unset, .unset, .unset, .unset, .unset, .unset, .unset, .unset, .unset, .unset] [(.int (p8 &&& (1 : Int32)))])) _
      refine XS.ifYes X0.here hx rfl (pc0 := 4) (pc' := 12) rfl (hb hby at_4) rfl ((if0 _ _).trans (teq c4).1) (by decide) (by decide) ?_
      show Steps p.tables e below (s₁.setTop (mkF m 12 #[.val (.long q0), .second, .val (.long q2), .second, .val (.int p4), .val (.int p5), .val (.long q6), .second, .val (.int p8), .unset, .unset, .unset, .unset, .unset, .unset, .unset, .unset, .unset, .unset, .unset] [])) _
      refine XS.lloadN X0.here hx rfl (hb hby at_12) rfl ?_
      exact k
    · refine ⟨(q6), fun t k => pre0 t ?_⟩
      show Steps p.tables e below (s₁.setTop (mkF m 0 #[.val (.long q0), .second, .val (.long q2), .second, .val (.int p4), .val (.int p5), .val (.long q6), .second, .val (.int p8), .unset, .unset, .unset, .unset, .unset, .unset, .unset, .unset, .unset, .unset, .unset] [])) _
      refine XS.iload X0.here hx rfl (hb hby at_0) rfl ?_
      show Steps p.tables e below (s₁.setTop (mkF m 2 #[.val (.long q0), .second, .val (.long q2), .second, .val (.int p4), .val (.int p5), .val (.long q6), .second, .val (.int p8), .unset, .unset, .unset, .unset, .unset, .unset, .unset, .unset, .unset, .unset, .unset] [(.int p8)])) _
      refine XS.iconst X0.here hx rfl (hb hby at_2) ?_
      show Steps p.tables e below (s₁.setTop (mkF m 3 #[.val (.long q0), .second, .val (.long q2), .second, .val (.int p4), .val (.int p5), .val (.long q6), .second, .val (.int p8), .unset, .unset, .unset, .unset, .unset, .unset, .unset, .unset, .unset, .unset, .unset] [(.int (1 : Int32)), (.int p8)])) _
      refine XS.iand X0.here hx rfl (hb hby at_3) rfl ?_
      show Steps p.tables e below (s₁.setTop (mkF m 4 #[.val (.long q0), .second, .val (.long q2), .second, .val (.int p4), .val (.int p5), .val (.long q6), .second, .val (.int p8), .unset, .unset, .unset, .unset, .unset, .unset, .unset, .unset, .unset, .unset, .unset] [(.int (p8 &&& (1 : Int32)))])) _
      refine XS.ifNo X0.here hx rfl (hb hby at_4) rfl ((if0 _ _).trans (feq c4).1) ?_
      show Steps p.tables e below (s₁.setTop (mkF m 7 #[.val (.long q0), .second, .val (.long q2), .second, .val (.int p4), .val (.int p5), .val (.long q6), .second, .val (.int p8), .unset, .unset, .unset, .unset, .unset, .unset, .unset, .unset, .unset, .unset, .unset] [])) _
      refine XS.lload X0.here hx rfl (hb hby at_7) rfl ?_
      show Steps p.tables e below (s₁.setTop (mkF m 9 #[.val (.long q0), .second, .val (.long q2), .second, .val (.int p4), .val (.int p5), .val (.long q6), .second, .val (.int p8), .unset, .unset, .unset, .unset, .unset, .unset, .unset, .unset, .unset, .unset, .unset] [(.long q6)])) _
      refine XS.goto X0.here hx rfl (pc0 := 9) (pc' := 13) rfl (hb hby at_9) (by decide) (by decide) ?_
      exact k
  have pre2 : ∀ t, Steps p.tables e below (s₁.setTop (mkF m 15 #[.val (.long q0), .second, .val (.long q2), .second, .val (.int p4), .val (.int p5), .val (.long q6), .second, .val (.int p8), .val (.long fo2), .second, .unset, .unset, .unset, .unset, .unset, .unset, .unset, .unset, .unset] [])) t → Steps p.tables e below (s₁.setTop (entryFrame m #[(.long q0), (.long q2), (.int p4), (.int p5), (.long q6), (.int p8)] maxLocals)) t := by
    intro t k
    refine pre1 t ?_
    show Steps p.tables e below (s₁.setTop (mkF m 13 #[.val (.long q0), .second, .val (.long q2), .second, .val (.int p4), .val (.int p5), .val (.long q6), .second, .val (.int p8), .unset, .unset, .unset, .unset, .unset, .unset, .unset, .unset, .unset, .unset, .unset] [(.long fo2)])) _
    refine XS.lstore X0.here hx rfl (hb hby at_13) rfl (l' := #[.val (.long q0), .second, .val (.long q2), .second, .val (.int p4), .val (.int p5), .val (.long q6), .second, .val (.int p8), .val (.long fo2), .second, .unset, .unset, .unset, .unset, .unset, .unset, .unset, .unset, .unset]) rfl ?_
    exact k
  obtain ⟨ls2, pre3⟩ : ∃ (ls2 : Int64), ∀ t, Steps p.tables e below (s₁.setTop (mkF m 28 #[.val (.long q0), .second, .val (.long q2), .second, .val (.int p4), .val (.int p5), .val (.long q6), .second, .val (.int p8), .val (.long fo2), .second, .unset, .unset, .unset, .unset, .unset, .unset, .unset, .unset, .unset] [(.long ls2)])) t → Steps p.tables e below (s₁.setTop (entryFrame m #[(.long q0), (.long q2), (.int p4), (.int p5), (.long q6), (.int p8)] maxLocals)) t := by
    by_cases c19 : (p8 &&& (2 : Int32)) = 0
    · refine ⟨(q2), fun t k => pre2 t ?_⟩
      show Steps p.tables e below (s₁.setTop (mkF m 15 #[.val (.long q0), .second, .val (.long q2), .second, .val (.int p4), .val (.int p5), .val (.long q6), .second, .val (.int p8), .val (.long fo2), .second, .unset, .unset, .unset, .unset, .unset, .unset, .unset, .unset, .unset] [])) _
      refine XS.iload X0.here hx rfl (hb hby at_15) rfl ?_
      show Steps p.tables e below (s₁.setTop (mkF m 17 #[.val (.long q0), .second, .val (.long q2), .second, .val (.int p4), .val (.int p5), .val (.long q6), .second, .val (.int p8), .val (.long fo2), .second, .unset, .unset, .unset, .unset, .unset, .unset, .unset, .unset, .unset] [(.int p8)])) _
      refine XS.iconst X0.here hx rfl (hb hby at_17) ?_
      show Steps p.tables e below (s₁.setTop (mkF m 18 #[.val (.long q0), .second, .val (.long q2), .second, .val (.int p4), .val (.int p5), .val (.long q6), .second, .val (.int p8), .val (.long fo2), .second, .unset, .unset, .unset, .unset, .unset, .unset, .unset, .unset, .unset] [(.int (2 : Int32)), (.int p8)])) _
      refine XS.iand X0.here hx rfl (hb hby at_18) rfl ?_
      show Steps p.tables e below (s₁.setTop (mkF m 19 #[.val (.long q0), .second, .val (.long q2), .second, .val (.int p4), .val (.int p5), .val (.long q6), .second, .val (.int p8), .val (.long fo2), .second, .unset, .unset, .unset, .unset, .unset, .unset, .unset, .unset, .unset] [(.int (p8 &&& (2 : Int32)))])) _
      refine XS.ifYes X0.here hx rfl (pc0 := 19) (pc' := 27) rfl (hb hby at_19) rfl ((if0 _ _).trans (teq c19).1) (by decide) (by decide) ?_
      show Steps p.tables e below (s₁.setTop (mkF m 27 #[.val (.long q0), .second, .val (.long q2), .second, .val (.int p4), .val (.int p5), .val (.long q6), .second, .val (.int p8), .val (.long fo2), .second, .unset, .unset, .unset, .unset, .unset, .unset, .unset, .unset, .unset] [])) _
      refine XS.lloadN X0.here hx rfl (hb hby at_27) rfl ?_
      exact k
    · refine ⟨(q6), fun t k => pre2 t ?_⟩
      show Steps p.tables e below (s₁.setTop (mkF m 15 #[.val (.long q0), .second, .val (.long q2), .second, .val (.int p4), .val (.int p5), .val (.long q6), .second, .val (.int p8), .val (.long fo2), .second, .unset, .unset, .unset, .unset, .unset, .unset, .unset, .unset, .unset] [])) _
      refine XS.iload X0.here hx rfl (hb hby at_15) rfl ?_
      show Steps p.tables e below (s₁.setTop (mkF m 17 #[.val (.long q0), .second, .val (.long q2), .second, .val (.int p4), .val (.int p5), .val (.long q6), .second, .val (.int p8), .val (.long fo2), .second, .unset, .unset, .unset, .unset, .unset, .unset, .unset, .unset, .unset] [(.int p8)])) _
      refine XS.iconst X0.here hx rfl (hb hby at_17) ?_
      show Steps p.tables e below (s₁.setTop (mkF m 18 #[.val (.long q0), .second, .val (.long q2), .second, .val (.int p4), .val (.int p5), .val (.long q6), .second, .val (.int p8), .val (.long fo2), .second, .unset, .unset, .unset, .unset, .unset, .unset, .unset, .unset, .unset] [(.int (2 : Int32)), (.int p8)])) _
      refine XS.iand X0.here hx rfl (hb hby at_18) rfl ?_
      show Steps p.tables e below (s₁.setTop (mkF m 19 #[.val (.long q0), .second, .val (.long q2), .second, .val (.int p4), .val (.int p5), .val (.long q6), .second, .val (.int p8), .val (.long fo2), .second, .unset, .unset, .unset, .unset, .unset, .unset, .unset, .unset, .unset] [(.int (p8 &&& (2 : Int32)))])) _
      refine XS.ifNo X0.here hx rfl (hb hby at_19) rfl ((if0 _ _).trans (feq c19).1) ?_
      show Steps p.tables e below (s₁.setTop (mkF m 22 #[.val (.long q0), .second, .val (.long q2), .second, .val (.int p4), .val (.int p5), .val (.long q6), .second, .val (.int p8), .val (.long fo2), .second, .unset, .unset, .unset, .unset, .unset, .unset, .unset, .unset, .unset] [])) _
      refine XS.lload X0.here hx rfl (hb hby at_22) rfl ?_
      show Steps p.tables e below (s₁.setTop (mkF m 24 #[.val (.long q0), .second, .val (.long q2), .second, .val (.int p4), .val (.int p5), .val (.long q6), .second, .val (.int p8), .val (.long fo2), .second, .unset, .unset, .unset, .unset, .unset, .unset, .unset, .unset, .unset] [(.long q6)])) _
      refine XS.goto X0.here hx rfl (pc0 := 24) (pc' := 28) rfl (hb hby at_24) (by decide) (by decide) ?_
      exact k
  have pre4 : ∀ t, Steps p.tables e below (s₁.setTop (mkF m 30 #[.val (.long q0), .second, .val (.long q2), .second, .val (.int p4), .val (.int p5), .val (.long q6), .second, .val (.int p8), .val (.long fo2), .second, .val (.long ls2), .second, .unset, .unset, .unset, .unset, .unset, .unset, .unset] [])) t → Steps p.tables e below (s₁.setTop (entryFrame m #[(.long q0), (.long q2), (.int p4), (.int p5), (.long q6), (.int p8)] maxLocals)) t := by
    intro t k
    refine pre3 t ?_
    show Steps p.tables e below (s₁.setTop (mkF m 28 #[.val (.long q0), .second, .val (.long q2), .second, .val (.int p4), .val (.int p5), .val (.long q6), .second, .val (.int p8), .val (.long fo2), .second, .unset, .unset, .unset, .unset, .unset, .unset, .unset, .unset, .unset] [(.long ls2)])) _
    refine XS.lstore X0.here hx rfl (hb hby at_28) rfl (l' := #[.val (.long q0), .second, .val (.long q2), .second, .val (.int p4), .val (.int p5), .val (.long q6), .second, .val (.int p8), .val (.long fo2), .second, .val (.long ls2), .second, .unset, .unset, .unset, .unset, .unset, .unset, .unset]) rfl ?_
    exact k
  obtain ⟨mb2, pre5⟩ : ∃ (mb2 : Int32), ∀ t, Steps p.tables e below (s₁.setTop (mkF m 45 #[.val (.long q0), .second, .val (.long q2), .second, .val (.int p4), .val (.int p5), .val (.long q6), .second, .val (.int p8), .val (.long fo2), .second, .val (.long ls2), .second, .unset, .unset, .unset, .unset, .unset, .unset, .unset] [(.int mb2)])) t → Steps p.tables e below (s₁.setTop (entryFrame m #[(.long q0), (.long q2), (.int p4), (.int p5), (.long q6), (.int p8)] maxLocals)) t := by
    by_cases c34 : (p8 &&& (4 : Int32)) = 0
    · refine ⟨(p4), fun t k => pre4 t ?_⟩
      show Steps p.tables e below (s₁.setTop (mkF m 30 #[.val (.long q0), .second, .val (.long q2), .second, .val (.int p4), .val (.int p5), .val (.long q6), .second, .val (.int p8), .val (.long fo2), .second, .val (.long ls2), .second, .unset, .unset, .unset, .unset, .unset, .unset, .unset] [])) _
      refine XS.iload X0.here hx rfl (hb hby at_30) rfl ?_
      show Steps p.tables e below (s₁.setTop (mkF m 32 #[.val (.long q0), .second, .val (.long q2), .second, .val (.int p4), .val (.int p5), .val (.long q6), .second, .val (.int p8), .val (.long fo2), .second, .val (.long ls2), .second, .unset, .unset, .unset, .unset, .unset, .unset, .unset] [(.int p8)])) _
      refine XS.iconst X0.here hx rfl (hb hby at_32) ?_
      show Steps p.tables e below (s₁.setTop (mkF m 33 #[.val (.long q0), .second, .val (.long q2), .second, .val (.int p4), .val (.int p5), .val (.long q6), .second, .val (.int p8), .val (.long fo2), .second, .val (.long ls2), .second, .unset, .unset, .unset, .unset, .unset, .unset, .unset] [(.int (4 : Int32)), (.int p8)])) _
      refine XS.iand X0.here hx rfl (hb hby at_33) rfl ?_
      show Steps p.tables e below (s₁.setTop (mkF m 34 #[.val (.long q0), .second, .val (.long q2), .second, .val (.int p4), .val (.int p5), .val (.long q6), .second, .val (.int p8), .val (.long fo2), .second, .val (.long ls2), .second, .unset, .unset, .unset, .unset, .unset, .unset, .unset] [(.int (p8 &&& (4 : Int32)))])) _
      refine XS.ifYes X0.here hx rfl (pc0 := 34) (pc' := 43) rfl (hb hby at_34) rfl ((if0 _ _).trans (teq c34).1) (by decide) (by decide) ?_
      show Steps p.tables e below (s₁.setTop (mkF m 43 #[.val (.long q0), .second, .val (.long q2), .second, .val (.int p4), .val (.int p5), .val (.long q6), .second, .val (.int p8), .val (.long fo2), .second, .val (.long ls2), .second, .unset, .unset, .unset, .unset, .unset, .unset, .unset] [])) _
      refine XS.iload X0.here hx rfl (hb hby at_43) rfl ?_
      exact k
    · refine ⟨((q6.toInt32)), fun t k => pre4 t ?_⟩
      show Steps p.tables e below (s₁.setTop (mkF m 30 #[.val (.long q0), .second, .val (.long q2), .second, .val (.int p4), .val (.int p5), .val (.long q6), .second, .val (.int p8), .val (.long fo2), .second, .val (.long ls2), .second, .unset, .unset, .unset, .unset, .unset, .unset, .unset] [])) _
      refine XS.iload X0.here hx rfl (hb hby at_30) rfl ?_
      show Steps p.tables e below (s₁.setTop (mkF m 32 #[.val (.long q0), .second, .val (.long q2), .second, .val (.int p4), .val (.int p5), .val (.long q6), .second, .val (.int p8), .val (.long fo2), .second, .val (.long ls2), .second, .unset, .unset, .unset, .unset, .unset, .unset, .unset] [(.int p8)])) _
      refine XS.iconst X0.here hx rfl (hb hby at_32) ?_
      show Steps p.tables e below (s₁.setTop (mkF m 33 #[.val (.long q0), .second, .val (.long q2), .second, .val (.int p4), .val (.int p5), .val (.long q6), .second, .val (.int p8), .val (.long fo2), .second, .val (.long ls2), .second, .unset, .unset, .unset, .unset, .unset, .unset, .unset] [(.int (4 : Int32)), (.int p8)])) _
      refine XS.iand X0.here hx rfl (hb hby at_33) rfl ?_
      show Steps p.tables e below (s₁.setTop (mkF m 34 #[.val (.long q0), .second, .val (.long q2), .second, .val (.int p4), .val (.int p5), .val (.long q6), .second, .val (.int p8), .val (.long fo2), .second, .val (.long ls2), .second, .unset, .unset, .unset, .unset, .unset, .unset, .unset] [(.int (p8 &&& (4 : Int32)))])) _
      refine XS.ifNo X0.here hx rfl (hb hby at_34) rfl ((if0 _ _).trans (feq c34).1) ?_
      show Steps p.tables e below (s₁.setTop (mkF m 37 #[.val (.long q0), .second, .val (.long q2), .second, .val (.int p4), .val (.int p5), .val (.long q6), .second, .val (.int p8), .val (.long fo2), .second, .val (.long ls2), .second, .unset, .unset, .unset, .unset, .unset, .unset, .unset] [])) _
      refine XS.lload X0.here hx rfl (hb hby at_37) rfl ?_
      show Steps p.tables e below (s₁.setTop (mkF m 39 #[.val (.long q0), .second, .val (.long q2), .second, .val (.int p4), .val (.int p5), .val (.long q6), .second, .val (.int p8), .val (.long fo2), .second, .val (.long ls2), .second, .unset, .unset, .unset, .unset, .unset, .unset, .unset] [(.long q6)])) _
      refine XS.l2i X0.here hx rfl (hb hby at_39) rfl ?_
      show Steps p.tables e below (s₁.setTop (mkF m 40 #[.val (.long q0), .second, .val (.long q2), .second, .val (.int p4), .val (.int p5), .val (.long q6), .second, .val (.int p8), .val (.long fo2), .second, .val (.long ls2), .second, .unset, .unset, .unset, .unset, .unset, .unset, .unset] [(.int (q6.toInt32))])) _
      refine XS.goto X0.here hx rfl (pc0 := 40) (pc' := 45) rfl (hb hby at_40) (by decide) (by decide) ?_
      exact k
  have pre6 : ∀ t, Steps p.tables e below (s₁.setTop (mkF m 47 #[.val (.long q0), .second, .val (.long q2), .second, .val (.int p4), .val (.int p5), .val (.long q6), .second, .val (.int p8), .val (.long fo2), .second, .val (.long ls2), .second, .val (.int mb2), .unset, .unset, .unset, .unset, .unset, .unset] [])) t → Steps p.tables e below (s₁.setTop (entryFrame m #[(.long q0), (.long q2), (.int p4), (.int p5), (.long q6), (.int p8)] maxLocals)) t := by
    intro t k
    refine pre5 t ?_
    show Steps p.tables e below (s₁.setTop (mkF m 45 #[.val (.long q0), .second, .val (.long q2), .second, .val (.int p4), .val (.int p5), .val (.long q6), .second, .val (.int p8), .val (.long fo2), .second, .val (.long ls2), .second, .unset, .unset, .unset, .unset, .unset, .unset, .unset] [(.int mb2)])) _
    refine XS.istore X0.here hx rfl (hb hby at_45) rfl (l' := #[.val (.long q0), .second, .val (.long q2), .second, .val (.int p4), .val (.int p5), .val (.long q6), .second, .val (.int p8), .val (.long fo2), .second, .val (.long ls2), .second, .val (.int mb2), .unset, .unset, .unset, .unset, .unset, .unset]) rfl ?_
    exact k
  obtain ⟨le2, pre7⟩ : ∃ (le2 : Int32), ∀ t, Steps p.tables e below (s₁.setTop (mkF m 66 #[.val (.long q0), .second, .val (.long q2), .second, .val (.int p4), .val (.int p5), .val (.long q6), .second, .val (.int p8), .val (.long fo2), .second, .val (.long ls2), .second, .val (.int mb2), .unset, .unset, .unset, .unset, .unset, .unset] [(.int le2)])) t → Steps p.tables e below (s₁.setTop (entryFrame m #[(.long q0), (.long q2), (.int p4), (.int p5), (.long q6), (.int p8)] maxLocals)) t := by
    by_cases c52 : (p8 &&& (8 : Int32)) = 0
    · refine ⟨(p5), fun t k => pre6 t ?_⟩
      show Steps p.tables e below (s₁.setTop (mkF m 47 #[.val (.long q0), .second, .val (.long q2), .second, .val (.int p4), .val (.int p5), .val (.long q6), .second, .val (.int p8), .val (.long fo2), .second, .val (.long ls2), .second, .val (.int mb2), .unset, .unset, .unset, .unset, .unset, .unset] [])) _
      refine XS.iload X0.here hx rfl (hb hby at_47) rfl ?_
      show Steps p.tables e below (s₁.setTop (mkF m 49 #[.val (.long q0), .second, .val (.long q2), .second, .val (.int p4), .val (.int p5), .val (.long q6), .second, .val (.int p8), .val (.long fo2), .second, .val (.long ls2), .second, .val (.int mb2), .unset, .unset, .unset, .unset, .unset, .unset] [(.int p8)])) _
      refine XS.bipush X0.here hx rfl (hb hby at_49) ?_
      show Steps p.tables e below (s₁.setTop (mkF m 51 #[.val (.long q0), .second, .val (.long q2), .second, .val (.int p4), .val (.int p5), .val (.long q6), .second, .val (.int p8), .val (.long fo2), .second, .val (.long ls2), .second, .val (.int mb2), .unset, .unset, .unset, .unset, .unset, .unset] [(.int (8 : Int32)), (.int p8)])) _
      refine XS.iand X0.here hx rfl (hb hby at_51) rfl ?_
      show Steps p.tables e below (s₁.setTop (mkF m 52 #[.val (.long q0), .second, .val (.long q2), .second, .val (.int p4), .val (.int p5), .val (.long q6), .second, .val (.int p8), .val (.long fo2), .second, .val (.long ls2), .second, .val (.int mb2), .unset, .unset, .unset, .unset, .unset, .unset] [(.int (p8 &&& (8 : Int32)))])) _
      refine XS.ifYes X0.here hx rfl (pc0 := 52) (pc' := 64) rfl (hb hby at_52) rfl ((if0 _ _).trans (teq c52).1) (by decide) (by decide) ?_
      show Steps p.tables e below (s₁.setTop (mkF m 64 #[.val (.long q0), .second, .val (.long q2), .second, .val (.int p4), .val (.int p5), .val (.long q6), .second, .val (.int p8), .val (.long fo2), .second, .val (.long ls2), .second, .val (.int mb2), .unset, .unset, .unset, .unset, .unset, .unset] [])) _
      refine XS.iload X0.here hx rfl (hb hby at_64) rfl ?_
      exact k
    · refine ⟨((((q6.toUInt64 >>> ((32 : Int32) &&& 0x3f).toInt64.toUInt64).toInt64).toInt32)), fun t k => pre6 t ?_⟩
      show Steps p.tables e below (s₁.setTop (mkF m 47 #[.val (.long q0), .second, .val (.long q2), .second, .val (.int p4), .val (.int p5), .val (.long q6), .second, .val (.int p8), .val (.long fo2), .second, .val (.long ls2), .second, .val (.int mb2), .unset, .unset, .unset, .unset, .unset, .unset] [])) _
      refine XS.iload X0.here hx rfl (hb hby at_47) rfl ?_
      show Steps p.tables e below (s₁.setTop (mkF m 49 #[.val (.long q0), .second, .val (.long q2), .second, .val (.int p4), .val (.int p5), .val (.long q6), .second, .val (.int p8), .val (.long fo2), .second, .val (.long ls2), .second, .val (.int mb2), .unset, .unset, .unset, .unset, .unset, .unset] [(.int p8)])) _
      refine XS.bipush X0.here hx rfl (hb hby at_49) ?_
      show Steps p.tables e below (s₁.setTop (mkF m 51 #[.val (.long q0), .second, .val (.long q2), .second, .val (.int p4), .val (.int p5), .val (.long q6), .second, .val (.int p8), .val (.long fo2), .second, .val (.long ls2), .second, .val (.int mb2), .unset, .unset, .unset, .unset, .unset, .unset] [(.int (8 : Int32)), (.int p8)])) _
      refine XS.iand X0.here hx rfl (hb hby at_51) rfl ?_
      show Steps p.tables e below (s₁.setTop (mkF m 52 #[.val (.long q0), .second, .val (.long q2), .second, .val (.int p4), .val (.int p5), .val (.long q6), .second, .val (.int p8), .val (.long fo2), .second, .val (.long ls2), .second, .val (.int mb2), .unset, .unset, .unset, .unset, .unset, .unset] [(.int (p8 &&& (8 : Int32)))])) _
      refine XS.ifNo X0.here hx rfl (hb hby at_52) rfl ((if0 _ _).trans (feq c52).1) ?_
      show Steps p.tables e below (s₁.setTop (mkF m 55 #[.val (.long q0), .second, .val (.long q2), .second, .val (.int p4), .val (.int p5), .val (.long q6), .second, .val (.int p8), .val (.long fo2), .second, .val (.long ls2), .second, .val (.int mb2), .unset, .unset, .unset, .unset, .unset, .unset] [])) _
      refine XS.lload X0.here hx rfl (hb hby at_55) rfl ?_
      show Steps p.tables e below (s₁.setTop (mkF m 57 #[.val (.long q0), .second, .val (.long q2), .second, .val (.int p4), .val (.int p5), .val (.long q6), .second, .val (.int p8), .val (.long fo2), .second, .val (.long ls2), .second, .val (.int mb2), .unset, .unset, .unset, .unset, .unset, .unset] [(.long q6)])) _
      refine XS.bipush X0.here hx rfl (hb hby at_57) ?_
      show Steps p.tables e below (s₁.setTop (mkF m 59 #[.val (.long q0), .second, .val (.long q2), .second, .val (.int p4), .val (.int p5), .val (.long q6), .second, .val (.int p8), .val (.long fo2), .second, .val (.long ls2), .second, .val (.int mb2), .unset, .unset, .unset, .unset, .unset, .unset] [(.int (32 : Int32)), (.long q6)])) _
      refine XS.lushr X0.here hx rfl (hb hby at_59) rfl ?_
      show Steps p.tables e below (s₁.setTop (mkF m 60 #[.val (.long q0), .second, .val (.long q2), .second, .val (.int p4), .val (.int p5), .val (.long q6), .second, .val (.int p8), .val (.long fo2), .second, .val (.long ls2), .second, .val (.int mb2), .unset, .unset, .unset, .unset, .unset, .unset] [(.long ((q6.toUInt64 >>> ((32 : Int32) &&& 0x3f).toInt64.toUInt64).toInt64))])) _
      refine XS.l2i X0.here hx rfl (hb hby at_60) rfl ?_
      show Steps p.tables e below (s₁.setTop (mkF m 61 #[.val (.long q0), .second, .val (.long q2), .second, .val (.int p4), .val (.int p5), .val (.long q6), .second, .val (.int p8), .val (.long fo2), .second, .val (.long ls2), .second, .val (.int mb2), .unset, .unset, .unset, .unset, .unset, .unset] [(.int (((q6.toUInt64 >>> ((32 : Int32) &&& 0x3f).toInt64.toUInt64).toInt64).toInt32))])) _
      refine XS.goto X0.here hx rfl (pc0 := 61) (pc' := 66) rfl (hb hby at_61) (by decide) (by decide) ?_
      exact k
  obtain ⟨T1, h1, X1, e1, E1, A1, D1, -, st1⟩ := newO X0 hx hZ hown (hw _ (List.mem_of_getElem? (i := 0) rfl)) (hw _ (List.mem_of_getElem? (i := 1) rfl)) (hw _ (List.mem_of_getElem? (i := 2) rfl)) e0 (g := (mkF m 68 #[.val (.long q0), .second, .val (.long q2), .second, .val (.int p4), .val (.int p5), .val (.long q6), .second, .val (.int p8), .val (.long fo2), .second, .val (.long ls2), .second, .val (.int mb2), .val (.int le2), .unset, .unset, .unset, .unset, .unset] [])) rfl (hb hby at_68) (by decide) (by decide)
  obtain ⟨b1, g1⟩ : ∃ z, z = h0.size := ⟨_, rfl⟩
  rw [← g1] at A1 D1 st1
  have g_b1 : n0 ≤ b1 := Nat.le_trans Z0 (Nat.le_of_eq g1.symm)
  have O_1 := O0.ext E1
  have Zs2 := Nat.le_trans Z0 E1.1
  have F_fetchOffset_b1 : Fld Z h1 b1 "com/example/tideline/tideline/session/FetchSession$Sent" "fetchOffset" "J" (.long (0 : Int64)) := D1 (Or.inr (hw _ (List.mem_of_getElem? (i := 15) rfl))) (ty := .long) (by decide)
  have F_logStartOffset_b1 : Fld Z h1 b1 "com/example/tideline/tideline/session/FetchSession$Sent" "logStartOffset" "J" (.long (0 : Int64)) := D1 (Or.inr (hw _ (List.mem_of_getElem? (i := 17) rfl))) (ty := .long) (by decide)
  have F_maxBytes_b1 : Fld Z h1 b1 "com/example/tideline/tideline/session/FetchSession$Sent" "maxBytes" "I" (.int (0 : Int32)) := D1 (Or.inr (hw _ (List.mem_of_getElem? (i := 19) rfl))) (ty := .int) (by decide)
  have F_leaderEpoch_b1 : Fld Z h1 b1 "com/example/tideline/tideline/session/FetchSession$Sent" "leaderEpoch" "I" (.int (0 : Int32)) := D1 (Or.inr (hw _ (List.mem_of_getElem? (i := 21) rfl))) (ty := .int) (by decide)
  obtain ⟨_, _, ⟨T3, L3, k3, n3⟩, -, X3, ⟨Lc3, hQ3, l3, y3, z3⟩, st3⟩ := X1.specialBack hx (y := (⟨"com/example/tideline/tideline/session/FetchSession$Sent", "<init>", "(JJII)V"⟩ : MethodName)) rfl hown (mvT hZ (hw _ (List.mem_of_getElem? (i := 3) rfl))) (mvT hZ (hw _ (List.mem_of_getElem? (i := 4) rfl))) (mvT hZ (hw _ (List.mem_of_getElem? (i := 5) rfl))) (by decide) (backOf (W := 1) (rm1 l Z a0 hw [] b1 q0 q2 p4 p5 h1 n0 Zs2 F_fetchOffset_b1 F_logStartOffset_b1 F_maxBytes_b1 F_leaderEpoch_b1 A1 g_b1) hZ (hw _ (List.mem_of_getElem? (i := 5) rfl)) (hw _ (List.mem_of_getElem? (i := 2) rfl)) (by decide) (by decide)) (g := (mkF m 78 #[.val (.long q0), .second, .val (.long q2), .second, .val (.int p4), .val (.int p5), .val (.long q6), .second, .val (.int p8), .val (.long fo2), .second, .val (.long ls2), .second, .val (.int mb2), .val (.int le2), .unset, .unset, .unset, .unset, .unset] [(.int p5), (.int p4), (.long q2), (.long q0), (.ref b1), (.ref b1)])) rfl (by rw [hml]; rfl) (Steps.refl _) (a := b1) (argsL := [(.long q0), (.long q2), (.int p4), (.int p5)]) (rest := [(.ref b1)]) (lenOf pd_2 rfl) rfl (by show 2 * 0 + _ ≤ _; exact Nat.le_of_eq rfl) (hb hby at_78) (fun _ _ => ⟨rfl, e1, (by decide : 1 + 0 ≤ _), (by decide : 4 + 0 ≤ _)⟩)
  dsimp only [Pt.U, Pt.locs, Pt.cells, Pt.slots] at X3 l3 y3 z3 st3 hQ3
  subst l3 y3 z3
  obtain ⟨rfl, N3q, K3q, E3q, F0_3q, F1_3q, F2_3q, F3_3q⟩ := hQ3
  have N3 := Fr.app N0 N3q
  have O_3 := O_1.keep K3q (allS g_b1 all0)
  have E_b1_3 := A1.keep K3q
  have Zs4 := Nat.le_trans Zs2 K3q.1
  obtain ⟨T5, h5, X5, e5, E5, A5, D5, -, st5⟩ := newO X3 hx hZ hown (hw _ (List.mem_of_getElem? (i := 0) rfl)) (hw _ (List.mem_of_getElem? (i := 1) rfl)) (hw _ (List.mem_of_getElem? (i := 2) rfl)) rfl (g := (mkF m 83 #[.val (.long q0), .second, .val (.long q2), .second, .val (.int p4), .val (.int p5), .val (.long q6), .second, .val (.int p8), .val (.long fo2), .second, .val (.long ls2), .second, .val (.int mb2), .val (.int le2), .val (.ref b1), .unset, .unset, .unset, .unset] [])) rfl (hb hby at_83) (by decide) (by decide)
  obtain ⟨b5, g5⟩ : ∃ z, z = T3.heap.size := ⟨_, rfl⟩
  rw [← g5] at A5 D5 st5
  have ne_b1_b5 : b1 ≠ b5 := Nat.ne_of_lt (Nat.lt_of_lt_of_le E3q.lt (Nat.le_of_eq g5.symm))
  have g_b5 : n0 ≤ b5 := Nat.le_trans Zs4 (Nat.le_of_eq g5.symm)
  have O_5 := O_3.ext E5
  have E_b1_5 := E3q.ext E5
  have F_b1_fetchOffset_5 := F0_3q.ext E5
  have F_b1_logStartOffset_5 := F1_3q.ext E5
  have F_b1_maxBytes_5 := F2_3q.ext E5
  have F_b1_leaderEpoch_5 := F3_3q.ext E5
  have Zs6 := Nat.le_trans Zs4 E5.1
  have F_fetchOffset_b5 : Fld Z h5 b5 "com/example/tideline/tideline/session/FetchSession$Sent" "fetchOffset" "J" (.long (0 : Int64)) := D5 (Or.inr (hw _ (List.mem_of_getElem? (i := 15) rfl))) (ty := .long) (by decide)
  have F_logStartOffset_b5 : Fld Z h5 b5 "com/example/tideline/tideline/session/FetchSession$Sent" "logStartOffset" "J" (.long (0 : Int64)) := D5 (Or.inr (hw _ (List.mem_of_getElem? (i := 17) rfl))) (ty := .long) (by decide)
  have F_maxBytes_b5 : Fld Z h5 b5 "com/example/tideline/tideline/session/FetchSession$Sent" "maxBytes" "I" (.int (0 : Int32)) := D5 (Or.inr (hw _ (List.mem_of_getElem? (i := 19) rfl))) (ty := .int) (by decide)
  have F_leaderEpoch_b5 : Fld Z h5 b5 "com/example/tideline/tideline/session/FetchSession$Sent" "leaderEpoch" "I" (.int (0 : Int32)) := D5 (Or.inr (hw _ (List.mem_of_getElem? (i := 21) rfl))) (ty := .int) (by decide)
  obtain ⟨_, _, ⟨T7, L7, k7, n7⟩, -, X7, ⟨Lc7, hQ7, l7, y7, z7⟩, st7⟩ := X5.specialBack hx (y := (⟨"com/example/tideline/tideline/session/FetchSession$Sent", "<init>", "(JJII)V"⟩ : MethodName)) rfl hown (mvT hZ (hw _ (List.mem_of_getElem? (i := 3) rfl))) (mvT hZ (hw _ (List.mem_of_getElem? (i := 4) rfl))) (mvT hZ (hw _ (List.mem_of_getElem? (i := 5) rfl))) (by decide) (backOf (W := 1) (rm1 l Z a0 hw [] b5 fo2 ls2 mb2 le2 h5 n0 Zs6 F_fetchOffset_b5 F_logStartOffset_b5 F_maxBytes_b5 F_leaderEpoch_b5 A5 g_b5) hZ (hw _ (List.mem_of_getElem? (i := 5) rfl)) (hw _ (List.mem_of_getElem? (i := 2) rfl)) (by decide) (by decide)) (g := (mkF m 95 #[.val (.long q0), .second, .val (.long q2), .second, .val (.int p4), .val (.int p5), .val (.long q6), .second, .val (.int p8), .val (.long fo2), .second, .val (.long ls2), .second, .val (.int mb2), .val (.int le2), .val (.ref b1), .unset, .unset, .unset, .unset] [(.int le2), (.int mb2), (.long ls2), (.long fo2), (.ref b5), (.ref b5)])) rfl (by rw [hml]; rfl) (Steps.refl _) (a := b5) (argsL := [(.long fo2), (.long ls2), (.int mb2), (.int le2)]) (rest := [(.ref b5)]) (lenOf pd_2 rfl) rfl (by show 2 * 0 + _ ≤ _; exact Nat.le_of_eq rfl) (hb hby at_95) (fun _ _ => ⟨rfl, e5, (by decide : 2 + 0 ≤ _), (by decide : 8 + 0 ≤ _)⟩)
  dsimp only [Pt.U, Pt.locs, Pt.cells, Pt.slots] at X7 l7 y7 z7 st7 hQ7
  subst l7 y7 z7
  obtain ⟨rfl, N7q, K7q, E7q, F0_7q, F1_7q, F2_7q, F3_7q⟩ := hQ7
  have N7 := Fr.app N3 N7q
  have O_7 := O_5.keep K7q (allS g_b5 all0)
  have E_b1_7 := E_b1_5.keep K7q
  have F_b1_fetchOffset_7 := F_b1_fetchOffset_5.keep K7q (ninS ne_b1_b5 nin0)
  have F_b1_logStartOffset_7 := F_b1_logStartOffset_5.keep K7q (ninS ne_b1_b5 nin0)
  have F_b1_maxBytes_7 := F_b1_maxBytes_5.keep K7q (ninS ne_b1_b5 nin0)
  have F_b1_leaderEpoch_7 := F_b1_leaderEpoch_5.keep K7q (ninS ne_b1_b5 nin0)
  have E_b5_7 := A5.keep K7q
  have Zs8 := Nat.le_trans Zs6 K7q.1
  have pre8 : ∀ t, Steps p.tables e below (T7.setTop (mkF m 100 #[.val (.long q0), .second, .val (.long q2), .second, .val (.int p4), .val (.int p5), .val (.long q6), .second, .val (.int p8), .val (.long fo2), .second, .val (.long ls2), .second, .val (.int mb2), .val (.int le2), .val (.ref b1), .val (.ref b5), .unset, .unset, .unset] [])) t → Steps p.tables e below (s₁.setTop (entryFrame m #[(.long q0), (.long q2), (.int p4), (.int p5), (.long q6), (.int p8)] maxLocals)) t := by
    intro t k
    refine pre7 t ?_
    show Steps p.tables e below (s₁.setTop (mkF m 66 #[.val (.long q0), .second, .val (.long q2), .second, .val (.int p4), .val (.int p5), .val (.long q6), .second, .val (.int p8), .val (.long fo2), .second, .val (.long ls2), .second, .val (.int mb2), .unset, .unset, .unset, .unset, .unset, .unset] [(.int le2)])) _
    refine XS.istore X0.here hx rfl (hb hby at_66) rfl (l' := #[.val (.long q0), .second, .val (.long q2), .second, .val (.int p4), .val (.int p5), .val (.long q6), .second, .val (.int p8), .val (.long fo2), .second, .val (.long ls2), .second, .val (.int mb2), .val (.int le2), .unset, .unset, .unset, .unset, .unset]) rfl ?_
    show Steps p.tables e below (s₁.setTop (mkF m 68 #[.val (.long q0), .second, .val (.long q2), .second, .val (.int p4), .val (.int p5), .val (.long q6), .second, .val (.int p8), .val (.long fo2), .second, .val (.long ls2), .second, .val (.int mb2), .val (.int le2), .unset, .unset, .unset, .unset, .unset] [])) _
    refine st1 _ ?_
    show Steps p.tables e below (T1.setTop (mkF m 71 #[.val (.long q0), .second, .val (.long q2), .second, .val (.int p4), .val (.int p5), .val (.long q6), .second, .val (.int p8), .val (.long fo2), .second, .val (.long ls2), .second, .val (.int mb2), .val (.int le2), .unset, .unset, .unset, .unset, .unset] [(.ref b1)])) _
    refine XS.dup X1.here hx rfl (hb hby at_71) rfl rfl ?_
    show Steps p.tables e below (T1.setTop (mkF m 72 #[.val (.long q0), .second, .val (.long q2), .second, .val (.int p4), .val (.int p5), .val (.long q6), .second, .val (.int p8), .val (.long fo2), .second, .val (.long ls2), .second, .val (.int mb2), .val (.int le2), .unset, .unset, .unset, .unset, .unset] [(.ref b1), (.ref b1)])) _
    refine XS.lloadN X1.here hx rfl (hb hby at_72) rfl ?_
    show Steps p.tables e below (T1.setTop (mkF m 73 #[.val (.long q0), .second, .val (.long q2), .second, .val (.int p4), .val (.int p5), .val (.long q6), .second, .val (.int p8), .val (.long fo2), .second, .val (.long ls2), .second, .val (.int mb2), .val (.int le2), .unset, .unset, .unset, .unset, .unset] [(.long q0), (.ref b1), (.ref b1)])) _
    refine XS.lloadN X1.here hx rfl (hb hby at_73) rfl ?_
    show Steps p.tables e below (T1.setTop (mkF m 74 #[.val (.long q0), .second, .val (.long q2), .second, .val (.int p4), .val (.int p5), .val (.long q6), .second, .val (.int p8), .val (.long fo2), .second, .val (.long ls2), .second, .val (.int mb2), .val (.int le2), .unset, .unset, .unset, .unset, .unset] [(.long q2), (.long q0), (.ref b1), (.ref b1)])) _
    refine XS.iload X1.here hx rfl (hb hby at_74) rfl ?_
    show Steps p.tables e below (T1.setTop (mkF m 76 #[.val (.long q0), .second, .val (.long q2), .second, .val (.int p4), .val (.int p5), .val (.long q6), .second, .val (.int p8), .val (.long fo2), .second, .val (.long ls2), .second, .val (.int mb2), .val (.int le2), .unset, .unset, .unset, .unset, .unset] [(.int p4), (.long q2), (.long q0), (.ref b1), (.ref b1)])) _
    refine XS.iload X1.here hx rfl (hb hby at_76) rfl ?_
    show Steps p.tables e below (T1.setTop (mkF m 78 #[.val (.long q0), .second, .val (.long q2), .second, .val (.int p4), .val (.int p5), .val (.long q6), .second, .val (.int p8), .val (.long fo2), .second, .val (.long ls2), .second, .val (.int mb2), .val (.int le2), .unset, .unset, .unset, .unset, .unset] [(.int p5), (.int p4), (.long q2), (.long q0), (.ref b1), (.ref b1)])) _
    refine st3.trans ?_
    show Steps p.tables e below (T3.setTop (mkF m 81 #[.val (.long q0), .second, .val (.long q2), .second, .val (.int p4), .val (.int p5), .val (.long q6), .second, .val (.int p8), .val (.long fo2), .second, .val (.long ls2), .second, .val (.int mb2), .val (.int le2), .unset, .unset, .unset, .unset, .unset] [(.ref b1)])) _
    refine XS.astore X3.here hx rfl (hb hby at_81) rfl rfl (l' := #[.val (.long q0), .second, .val (.long q2), .second, .val (.int p4), .val (.int p5), .val (.long q6), .second, .val (.int p8), .val (.long fo2), .second, .val (.long ls2), .second, .val (.int mb2), .val (.int le2), .val (.ref b1), .unset, .unset, .unset, .unset]) rfl ?_
    show Steps p.tables e below (T3.setTop (mkF m 83 #[.val (.long q0), .second, .val (.long q2), .second, .val (.int p4), .val (.int p5), .val (.long q6), .second, .val (.int p8), .val (.long fo2), .second, .val (.long ls2), .second, .val (.int mb2), .val (.int le2), .val (.ref b1), .unset, .unset, .unset, .unset] [])) _
    refine st5 _ ?_
    show Steps p.tables e below (T5.setTop (mkF m 86 #[.val (.long q0), .second, .val (.long q2), .second, .val (.int p4), .val (.int p5), .val (.long q6), .second, .val (.int p8), .val (.long fo2), .second, .val (.long ls2), .second, .val (.int mb2), .val (.int le2), .val (.ref b1), .unset, .unset, .unset, .unset] [(.ref b5)])) _
    refine XS.dup X5.here hx rfl (hb hby at_86) rfl rfl ?_
    show Steps p.tables e below (T5.setTop (mkF m 87 #[.val (.long q0), .second, .val (.long q2), .second, .val (.int p4), .val (.int p5), .val (.long q6), .second, .val (.int p8), .val (.long fo2), .second, .val (.long ls2), .second, .val (.int mb2), .val (.int le2), .val (.ref b1), .unset, .unset, .unset, .unset] [(.ref b5), (.ref b5)])) _
    refine XS.lload X5.here hx rfl (hb hby at_87) rfl ?_
    show Steps p.tables e below (T5.setTop (mkF m 89 #[.val (.long q0), .second, .val (.long q2), .second, .val (.int p4), .val (.int p5), .val (.long q6), .second, .val (.int p8), .val (.long fo2), .second, .val (.long ls2), .second, .val (.int mb2), .val (.int le2), .val (.ref b1), .unset, .unset, .unset, .unset] [(.long fo2), (.ref b5), (.ref b5)])) _
    refine XS.lload X5.here hx rfl (hb hby at_89) rfl ?_
    show Steps p.tables e below (T5.setTop (mkF m 91 #[.val (.long q0), .second, .val (.long q2), .second, .val (.int p4), .val (.int p5), .val (.long q6), .second, .val (.int p8), .val (.long fo2), .second, .val (.long ls2), .second, .val (.int mb2), .val (.int le2), .val (.ref b1), .unset, .unset, .unset, .unset] [(.long ls2), (.long fo2), (.ref b5), (.ref b5)])) _
    refine XS.iload X5.here hx rfl (hb hby at_91) rfl ?_
    show Steps p.tables e below (T5.setTop (mkF m 93 #[.val (.long q0), .second, .val (.long q2), .second, .val (.int p4), .val (.int p5), .val (.long q6), .second, .val (.int p8), .val (.long fo2), .second, .val (.long ls2), .second, .val (.int mb2), .val (.int le2), .val (.ref b1), .unset, .unset, .unset, .unset] [(.int mb2), (.long ls2), (.long fo2), (.ref b5), (.ref b5)])) _
    refine XS.iload X5.here hx rfl (hb hby at_93) rfl ?_
    show Steps p.tables e below (T5.setTop (mkF m 95 #[.val (.long q0), .second, .val (.long q2), .second, .val (.int p4), .val (.int p5), .val (.long q6), .second, .val (.int p8), .val (.long fo2), .second, .val (.long ls2), .second, .val (.int mb2), .val (.int le2), .val (.ref b1), .unset, .unset, .unset, .unset] [(.int le2), (.int mb2), (.long ls2), (.long fo2), (.ref b5), (.ref b5)])) _
    refine st7.trans ?_
    show Steps p.tables e below (T7.setTop (mkF m 98 #[.val (.long q0), .second, .val (.long q2), .second, .val (.int p4), .val (.int p5), .val (.long q6), .second, .val (.int p8), .val (.long fo2), .second, .val (.long ls2), .second, .val (.int mb2), .val (.int le2), .val (.ref b1), .unset, .unset, .unset, .unset] [(.ref b5)])) _
    refine XS.astore X7.here hx rfl (hb hby at_98) rfl rfl (l' := #[.val (.long q0), .second, .val (.long q2), .second, .val (.int p4), .val (.int p5), .val (.long q6), .second, .val (.int p8), .val (.long fo2), .second, .val (.long ls2), .second, .val (.int mb2), .val (.int le2), .val (.ref b1), .val (.ref b5), .unset, .unset, .unset]) rfl ?_
    exact k
  obtain ⟨b17, hm9, pre9⟩ : ∃ (b17 : Int32), (b17 = own_eq q0 q2 p4 p5 fo2 ls2 mb2 le2) ∧ ∀ t, Steps p.tables e below (T7.setTop (mkF m 133 #[.val (.long q0), .second, .val (.long q2), .second, .val (.int p4), .val (.int p5), .val (.long q6), .second, .val (.int p8), .val (.long fo2), .second, .val (.long ls2), .second, .val (.int mb2), .val (.int le2), .val (.ref b1), .val (.ref b5), .unset, .unset, .unset] [(.int b17)])) t → Steps p.tables e below (s₁.setTop (entryFrame m #[(.long q0), (.long q2), (.int p4), (.int p5), (.long q6), (.int p8)] maxLocals)) t := by
    by_cases c104 : q0 = fo2
    · by_cases c111 : q2 = ls2
      · by_cases c118 : p4 = mb2
        · by_cases c125 : p5 = le2
          · refine ⟨((1 : Int32)), (by unfold own_eq; rw [if_pos ⟨c104, c111, c118, c125⟩]), fun t k => pre8 t ?_⟩
            show Steps p.tables e below (T7.setTop (mkF m 100 #[.val (.long q0), .second, .val (.long q2), .second, .val (.int p4), .val (.int p5), .val (.long q6), .second, .val (.int p8), .val (.long fo2), .second, .val (.long ls2), .second, .val (.int mb2), .val (.int le2), .val (.ref b1), .val (.ref b5), .unset, .unset, .unset] [])) _
            refine XS.lloadN X7.here hx rfl (hb hby at_100) rfl ?_
            show Steps p.tables e below (T7.setTop (mkF m 101 #[.val (.long q0), .second, .val (.long q2), .second, .val (.int p4), .val (.int p5), .val (.long q6), .second, .val (.int p8), .val (.long fo2), .second, .val (.long ls2), .second, .val (.int mb2), .val (.int le2), .val (.ref b1), .val (.ref b5), .unset, .unset, .unset] [(.long q0)])) _
            refine XS.lload X7.here hx rfl (hb hby at_101) rfl ?_
            show Steps p.tables e below (T7.setTop (mkF m 103 #[.val (.long q0), .second, .val (.long q2), .second, .val (.int p4), .val (.int p5), .val (.long q6), .second, .val (.int p8), .val (.long fo2), .second, .val (.long ls2), .second, .val (.int mb2), .val (.int le2), .val (.ref b1), .val (.ref b5), .unset, .unset, .unset] [(.long fo2), (.long q0)])) _
            refine XS.lcmp X7.here hx rfl (hb hby at_103) rfl ?_
            show Steps p.tables e below (T7.setTop (mkF m 104 #[.val (.long q0), .second, .val (.long q2), .second, .val (.int p4), .val (.int p5), .val (.long q6), .second, .val (.int p8), .val (.long fo2), .second, .val (.long ls2), .second, .val (.int mb2), .val (.int le2), .val (.ref b1), .val (.ref b5), .unset, .unset, .unset] [(.int (lcmpW q0 fo2))])) _
            refine XS.ifNo X7.here hx rfl (hb hby at_104) rfl ((if0 _ _).trans (teq ((lw_eq _ _).mpr c104)).2) ?_
            show Steps p.tables e below (T7.setTop (mkF m 107 #[.val (.long q0), .second, .val (.long q2), .second, .val (.int p4), .val (.int p5), .val (.long q6), .second, .val (.int p8), .val (.long fo2), .second, .val (.long ls2), .second, .val (.int mb2), .val (.int le2), .val (.ref b1), .val (.ref b5), .unset, .unset, .unset] [])) _
            refine XS.lloadN X7.here hx rfl (hb hby at_107) rfl ?_
            show Steps p.tables e below (T7.setTop (mkF m 108 #[.val (.long q0), .second, .val (.long q2), .second, .val (.int p4), .val (.int p5), .val (.long q6), .second, .val (.int p8), .val (.long fo2), .second, .val (.long ls2), .second, .val (.int mb2), .val (.int le2), .val (.ref b1), .val (.ref b5), .unset, .unset, .unset] [(.long q2)])) _
            refine XS.lload X7.here hx rfl (hb hby at_108) rfl ?_
            show Steps p.tables e below (T7.setTop (mkF m 110 #[.val (.long q0), .second, .val (.long q2), .second, .val (.int p4), .val (.int p5), .val (.long q6), .second, .val (.int p8), .val (.long fo2), .second, .val (.long ls2), .second, .val (.int mb2), .val (.int le2), .val (.ref b1), .val (.ref b5), .unset, .unset, .unset] [(.long ls2), (.long q2)])) _
            refine XS.lcmp X7.here hx rfl (hb hby at_110) rfl ?_
            show Steps p.tables e below (T7.setTop (mkF m 111 #[.val (.long q0), .second, .val (.long q2), .second, .val (.int p4), .val (.int p5), .val (.long q6), .second, .val (.int p8), .val (.long fo2), .second, .val (.long ls2), .second, .val (.int mb2), .val (.int le2), .val (.ref b1), .val (.ref b5), .unset, .unset, .unset] [(.int (lcmpW q2 ls2))])) _
            refine XS.ifNo X7.here hx rfl (hb hby at_111) rfl ((if0 _ _).trans (teq ((lw_eq _ _).mpr c111)).2) ?_
            show Steps p.tables e below (T7.setTop (mkF m 114 #[.val (.long q0), .second, .val (.long q2), .second, .val (.int p4), .val (.int p5), .val (.long q6), .second, .val (.int p8), .val (.long fo2), .second, .val (.long ls2), .second, .val (.int mb2), .val (.int le2), .val (.ref b1), .val (.ref b5), .unset, .unset, .unset] [])) _
            refine XS.iload X7.here hx rfl (hb hby at_114) rfl ?_
            show Steps p.tables e below (T7.setTop (mkF m 116 #[.val (.long q0), .second, .val (.long q2), .second, .val (.int p4), .val (.int p5), .val (.long q6), .second, .val (.int p8), .val (.long fo2), .second, .val (.long ls2), .second, .val (.int mb2), .val (.int le2), .val (.ref b1), .val (.ref b5), .unset, .unset, .unset] [(.int p4)])) _
            refine XS.iload X7.here hx rfl (hb hby at_116) rfl ?_
            show Steps p.tables e below (T7.setTop (mkF m 118 #[.val (.long q0), .second, .val (.long q2), .second, .val (.int p4), .val (.int p5), .val (.long q6), .second, .val (.int p8), .val (.long fo2), .second, .val (.long ls2), .second, .val (.int mb2), .val (.int le2), .val (.ref b1), .val (.ref b5), .unset, .unset, .unset] [(.int mb2), (.int p4)])) _
            refine XS.icmpNo X7.here hx rfl (hb hby at_118) rfl (teq c118).2 ?_
            show Steps p.tables e below (T7.setTop (mkF m 121 #[.val (.long q0), .second, .val (.long q2), .second, .val (.int p4), .val (.int p5), .val (.long q6), .second, .val (.int p8), .val (.long fo2), .second, .val (.long ls2), .second, .val (.int mb2), .val (.int le2), .val (.ref b1), .val (.ref b5), .unset, .unset, .unset] [])) _
            refine XS.iload X7.here hx rfl (hb hby at_121) rfl ?_
            show Steps p.tables e below (T7.setTop (mkF m 123 #[.val (.long q0), .second, .val (.long q2), .second, .val (.int p4), .val (.int p5), .val (.long q6), .second, .val (.int p8), .val (.long fo2), .second, .val (.long ls2), .second, .val (.int mb2), .val (.int le2), .val (.ref b1), .val (.ref b5), .unset, .unset, .unset] [(.int p5)])) _
            refine XS.iload X7.here hx rfl (hb hby at_123) rfl ?_
            show Steps p.tables e below (T7.setTop (mkF m 125 #[.val (.long q0), .second, .val (.long q2), .second, .val (.int p4), .val (.int p5), .val (.long q6), .second, .val (.int p8), .val (.long fo2), .second, .val (.long ls2), .second, .val (.int mb2), .val (.int le2), .val (.ref b1), .val (.ref b5), .unset, .unset, .unset] [(.int le2), (.int p5)])) _
            refine XS.icmpNo X7.here hx rfl (hb hby at_125) rfl (teq c125).2 ?_
            show Steps p.tables e below (T7.setTop (mkF m 128 #[.val (.long q0), .second, .val (.long q2), .second, .val (.int p4), .val (.int p5), .val (.long q6), .second, .val (.int p8), .val (.long fo2), .second, .val (.long ls2), .second, .val (.int mb2), .val (.int le2), .val (.ref b1), .val (.ref b5), .unset, .unset, .unset] [])) _
            refine XS.iconst X7.here hx rfl (hb hby at_128) ?_
            show Steps p.tables e below (T7.setTop (mkF m 129 #[.val (.long q0), .second, .val (.long q2), .second, .val (.int p4), .val (.int p5), .val (.long q6), .second, .val (.int p8), .val (.long fo2), .second, .val (.long ls2), .second, .val (.int mb2), .val (.int le2), .val (.ref b1), .val (.ref b5), .unset, .unset, .unset] [(.int (1 : Int32))])) _
            refine XS.goto X7.here hx rfl (pc0 := 129) (pc' := 133) rfl (hb hby at_129) (by decide) (by decide) ?_
            exact k
          · refine ⟨((0 : Int32)), (by unfold own_eq; rw [if_neg (fun q => c125 q.2.2.2)]), fun t k => pre8 t ?_⟩
            show Steps p.tables e below (T7.setTop (mkF m 100 #[.val (.long q0), .second, .val (.long q2), .second, .val (.int p4), .val (.int p5), .val (.long q6), .second, .val (.int p8), .val (.long fo2), .second, .val (.long ls2), .second, .val (.int mb2), .val (.int le2), .val (.ref b1), .val (.ref b5), .unset, .unset, .unset] [])) _
            refine XS.lloadN X7.here hx rfl (hb hby at_100) rfl ?_
            show Steps p.tables e below (T7.setTop (mkF m 101 #[.val (.long q0), .second, .val (.long q2), .second, .val (.int p4), .val (.int p5), .val (.long q6), .second, .val (.int p8), .val (.long fo2), .second, .val (.long ls2), .second, .val (.int mb2), .val (.int le2), .val (.ref b1), .val (.ref b5), .unset, .unset, .unset] [(.long q0)])) _
            refine XS.lload X7.here hx rfl (hb hby at_101) rfl ?_
            show Steps p.tables e below (T7.setTop (mkF m 103 #[.val (.long q0), .second, .val (.long q2), .second, .val (.int p4), .val (.int p5), .val (.long q6), .second, .val (.int p8), .val (.long fo2), .second, .val (.long ls2), .second, .val (.int mb2), .val (.int le2), .val (.ref b1), .val (.ref b5), .unset, .unset, .unset] [(.long fo2), (.long q0)])) _
            refine XS.lcmp X7.here hx rfl (hb hby at_103) rfl ?_
            show Steps p.tables e below (T7.setTop (mkF m 104 #[.val (.long q0), .second, .val (.long q2), .second, .val (.int p4), .val (.int p5), .val (.long q6), .second, .val (.int p8), .val (.long fo2), .second, .val (.long ls2), .second, .val (.int mb2), .val (.int le2), .val (.ref b1), .val (.ref b5), .unset, .unset, .unset] [(.int (lcmpW q0 fo2))])) _
            refine XS.ifNo X7.here hx rfl (hb hby at_104) rfl ((if0 _ _).trans (teq ((lw_eq _ _).mpr c104)).2) ?_
            show Steps p.tables e below (T7.setTop (mkF m 107 #[.val (.long q0), .second, .val (.long q2), .second, .val (.int p4), .val (.int p5), .val (.long q6), .second, .val (.int p8), .val (.long fo2), .second, .val (.long ls2), .second, .val (.int mb2), .val (.int le2), .val (.ref b1), .val (.ref b5), .unset, .unset, .unset] [])) _
            refine XS.lloadN X7.here hx rfl (hb hby at_107) rfl ?_
            show Steps p.tables e below (T7.setTop (mkF m 108 #[.val (.long q0), .second, .val (.long q2), .second, .val (.int p4), .val (.int p5), .val (.long q6), .second, .val (.int p8), .val (.long fo2), .second, .val (.long ls2), .second, .val (.int mb2), .val (.int le2), .val (.ref b1), .val (.ref b5), .unset, .unset, .unset] [(.long q2)])) _
            refine XS.lload X7.here hx rfl (hb hby at_108) rfl ?_
            show Steps p.tables e below (T7.setTop (mkF m 110 #[.val (.long q0), .second, .val (.long q2), .second, .val (.int p4), .val (.int p5), .val (.long q6), .second, .val (.int p8), .val (.long fo2), .second, .val (.long ls2), .second, .val (.int mb2), .val (.int le2), .val (.ref b1), .val (.ref b5), .unset, .unset, .unset] [(.long ls2), (.long q2)])) _
            refine XS.lcmp X7.here hx rfl (hb hby at_110) rfl ?_
            show Steps p.tables e below (T7.setTop (mkF m 111 #[.val (.long q0), .second, .val (.long q2), .second, .val (.int p4), .val (.int p5), .val (.long q6), .second, .val (.int p8), .val (.long fo2), .second, .val (.long ls2), .second, .val (.int mb2), .val (.int le2), .val (.ref b1), .val (.ref b5), .unset, .unset, .unset] [(.int (lcmpW q2 ls2))])) _
            refine XS.ifNo X7.here hx rfl (hb hby at_111) rfl ((if0 _ _).trans (teq ((lw_eq _ _).mpr c111)).2) ?_
            show Steps p.tables e below (T7.setTop (mkF m 114 #[.val (.long q0), .second, .val (.long q2), .second, .val (.int p4), .val (.int p5), .val (.long q6), .second, .val (.int p8), .val (.long fo2), .second, .val (.long ls2), .second, .val (.int mb2), .val (.int le2), .val (.ref b1), .val (.ref b5), .unset, .unset, .unset] [])) _
            refine XS.iload X7.here hx rfl (hb hby at_114) rfl ?_
            show Steps p.tables e below (T7.setTop (mkF m 116 #[.val (.long q0), .second, .val (.long q2), .second, .val (.int p4), .val (.int p5), .val (.long q6), .second, .val (.int p8), .val (.long fo2), .second, .val (.long ls2), .second, .val (.int mb2), .val (.int le2), .val (.ref b1), .val (.ref b5), .unset, .unset, .unset] [(.int p4)])) _
            refine XS.iload X7.here hx rfl (hb hby at_116) rfl ?_
            show Steps p.tables e below (T7.setTop (mkF m 118 #[.val (.long q0), .second, .val (.long q2), .second, .val (.int p4), .val (.int p5), .val (.long q6), .second, .val (.int p8), .val (.long fo2), .second, .val (.long ls2), .second, .val (.int mb2), .val (.int le2), .val (.ref b1), .val (.ref b5), .unset, .unset, .unset] [(.int mb2), (.int p4)])) _
            refine XS.icmpNo X7.here hx rfl (hb hby at_118) rfl (teq c118).2 ?_
            show Steps p.tables e below (T7.setTop (mkF m 121 #[.val (.long q0), .second, .val (.long q2), .second, .val (.int p4), .val (.int p5), .val (.long q6), .second, .val (.int p8), .val (.long fo2), .second, .val (.long ls2), .second, .val (.int mb2), .val (.int le2), .val (.ref b1), .val (.ref b5), .unset, .unset, .unset] [])) _
            refine XS.iload X7.here hx rfl (hb hby at_121) rfl ?_
            show Steps p.tables e below (T7.setTop (mkF m 123 #[.val (.long q0), .second, .val (.long q2), .second, .val (.int p4), .val (.int p5), .val (.long q6), .second, .val (.int p8), .val (.long fo2), .second, .val (.long ls2), .second, .val (.int mb2), .val (.int le2), .val (.ref b1), .val (.ref b5), .unset, .unset, .unset] [(.int p5)])) _
            refine XS.iload X7.here hx rfl (hb hby at_123) rfl ?_
            show Steps p.tables e below (T7.setTop (mkF m 125 #[.val (.long q0), .second, .val (.long q2), .second, .val (.int p4), .val (.int p5), .val (.long q6), .second, .val (.int p8), .val (.long fo2), .second, .val (.long ls2), .second, .val (.int mb2), .val (.int le2), .val (.ref b1), .val (.ref b5), .unset, .unset, .unset] [(.int le2), (.int p5)])) _
            refine XS.icmpYes X7.here hx rfl (pc0 := 125) (pc' := 132) rfl (hb hby at_125) rfl (feq c125).2 (by decide) (by decide) ?_
            show Steps p.tables e below (T7.setTop (mkF m 132 #[.val (.long q0), .second, .val (.long q2), .second, .val (.int p4), .val (.int p5), .val (.long q6), .second, .val (.int p8), .val (.long fo2), .second, .val (.long ls2), .second, .val (.int mb2), .val (.int le2), .val (.ref b1), .val (.ref b5), .unset, .unset, .unset] [])) _
            refine XS.iconst X7.here hx rfl (hb hby at_132) ?_
            exact k
        · refine ⟨((0 : Int32)), (by unfold own_eq; rw [if_neg (fun q => c118 q.2.2.1)]), fun t k => pre8 t ?_⟩
          show Steps p.tables e below (T7.setTop (mkF m 100 #[.val (.long q0), .second, .val (.long q2), .second, .val (.int p4), .val (.int p5), .val (.long q6), .second, .val (.int p8), .val (.long fo2), .second, .val (.long ls2), .second, .val (.int mb2), .val (.int le2), .val (.ref b1), .val (.ref b5), .unset, .unset, .unset] [])) _
          refine XS.lloadN X7.here hx rfl (hb hby at_100) rfl ?_
          show Steps p.tables e below (T7.setTop (mkF m 101 #[.val (.long q0), .second, .val (.long q2), .second, .val (.int p4), .val (.int p5), .val (.long q6), .second, .val (.int p8), .val (.long fo2), .second, .val (.long ls2), .second, .val (.int mb2), .val (.int le2), .val (.ref b1), .val (.ref b5), .unset, .unset, .unset] [(.long q0)])) _
          refine XS.lload X7.here hx rfl (hb hby at_101) rfl ?_
          show Steps p.tables e below (T7.setTop (mkF m 103 #[.val (.long q0), .second, .val (.long q2), .second, .val (.int p4), .val (.int p5), .val (.long q6), .second, .val (.int p8), .val (.long fo2), .second, .val (.long ls2), .second, .val (.int mb2), .val (.int le2), .val (.ref b1), .val (.ref b5), .unset, .unset, .unset] [(.long fo2), (.long q0)])) _
          refine XS.lcmp X7.here hx rfl (hb hby at_103) rfl ?_
          show Steps p.tables e below (T7.setTop (mkF m 104 #[.val (.long q0), .second, .val (.long q2), .second, .val (.int p4), .val (.int p5), .val (.long q6), .second, .val (.int p8), .val (.long fo2), .second, .val (.long ls2), .second, .val (.int mb2), .val (.int le2), .val (.ref b1), .val (.ref b5), .unset, .unset, .unset] [(.int (lcmpW q0 fo2))])) _
          refine XS.ifNo X7.here hx rfl (hb hby at_104) rfl ((if0 _ _).trans (teq ((lw_eq _ _).mpr c104)).2) ?_
          show Steps p.tables e below (T7.setTop (mkF m 107 #[.val (.long q0), .second, .val (.long q2), .second, .val (.int p4), .val (.int p5), .val (.long q6), .second, .val (.int p8), .val (.long fo2), .second, .val (.long ls2), .second, .val (.int mb2), .val (.int le2), .val (.ref b1), .val (.ref b5), .unset, .unset, .unset] [])) _
          refine XS.lloadN X7.here hx rfl (hb hby at_107) rfl ?_
          show Steps p.tables e below (T7.setTop (mkF m 108 #[.val (.long q0), .second, .val (.long q2), .second, .val (.int p4), .val (.int p5), .val (.long q6), .second, .val (.int p8), .val (.long fo2), .second, .val (.long ls2), .second, .val (.int mb2), .val (.int le2), .val (.ref b1), .val (.ref b5), .unset, .unset, .unset] [(.long q2)])) _
          refine XS.lload X7.here hx rfl (hb hby at_108) rfl ?_
          show Steps p.tables e below (T7.setTop (mkF m 110 #[.val (.long q0), .second, .val (.long q2), .second, .val (.int p4), .val (.int p5), .val (.long q6), .second, .val (.int p8), .val (.long fo2), .second, .val (.long ls2), .second, .val (.int mb2), .val (.int le2), .val (.ref b1), .val (.ref b5), .unset, .unset, .unset] [(.long ls2), (.long q2)])) _
          refine XS.lcmp X7.here hx rfl (hb hby at_110) rfl ?_
          show Steps p.tables e below (T7.setTop (mkF m 111 #[.val (.long q0), .second, .val (.long q2), .second, .val (.int p4), .val (.int p5), .val (.long q6), .second, .val (.int p8), .val (.long fo2), .second, .val (.long ls2), .second, .val (.int mb2), .val (.int le2), .val (.ref b1), .val (.ref b5), .unset, .unset, .unset] [(.int (lcmpW q2 ls2))])) _
          refine XS.ifNo X7.here hx rfl (hb hby at_111) rfl ((if0 _ _).trans (teq ((lw_eq _ _).mpr c111)).2) ?_
          show Steps p.tables e below (T7.setTop (mkF m 114 #[.val (.long q0), .second, .val (.long q2), .second, .val (.int p4), .val (.int p5), .val (.long q6), .second, .val (.int p8), .val (.long fo2), .second, .val (.long ls2), .second, .val (.int mb2), .val (.int le2), .val (.ref b1), .val (.ref b5), .unset, .unset, .unset] [])) _
          refine XS.iload X7.here hx rfl (hb hby at_114) rfl ?_
          show Steps p.tables e below (T7.setTop (mkF m 116 #[.val (.long q0), .second, .val (.long q2), .second, .val (.int p4), .val (.int p5), .val (.long q6), .second, .val (.int p8), .val (.long fo2), .second, .val (.long ls2), .second, .val (.int mb2), .val (.int le2), .val (.ref b1), .val (.ref b5), .unset, .unset, .unset] [(.int p4)])) _
          refine XS.iload X7.here hx rfl (hb hby at_116) rfl ?_
          show Steps p.tables e below (T7.setTop (mkF m 118 #[.val (.long q0), .second, .val (.long q2), .second, .val (.int p4), .val (.int p5), .val (.long q6), .second, .val (.int p8), .val (.long fo2), .second, .val (.long ls2), .second, .val (.int mb2), .val (.int le2), .val (.ref b1), .val (.ref b5), .unset, .unset, .unset] [(.int mb2), (.int p4)])) _
          refine XS.icmpYes X7.here hx rfl (pc0 := 118) (pc' := 132) rfl (hb hby at_118) rfl (feq c118).2 (by decide) (by decide) ?_
          show Steps p.tables e below (T7.setTop (mkF m 132 #[.val (.long q0), .second, .val (.long q2), .second, .val (.int p4), .val (.int p5), .val (.long q6), .second, .val (.int p8), .val (.long fo2), .second, .val (.long ls2), .second, .val (.int mb2), .val (.int le2), .val (.ref b1), .val (.ref b5), .unset, .unset, .unset] [])) _
          refine XS.iconst X7.here hx rfl (hb hby at_132) ?_
          exact k
      · refine ⟨((0 : Int32)), (by unfold own_eq; rw [if_neg (fun q => c111 q.2.1)]), fun t k => pre8 t ?_⟩
        show Steps p.tables e below (T7.setTop (mkF m 100 #[.val (.long q0), .second, .val (.long q2), .second, .val (.int p4), .val (.int p5), .val (.long q6), .second, .val (.int p8), .val (.long fo2), .second, .val (.long ls2), .second, .val (.int mb2), .val (.int le2), .val (.ref b1), .val (.ref b5), .unset, .unset, .unset] [])) _
        refine XS.lloadN X7.here hx rfl (hb hby at_100) rfl ?_
        show Steps p.tables e below (T7.setTop (mkF m 101 #[.val (.long q0), .second, .val (.long q2), .second, .val (.int p4), .val (.int p5), .val (.long q6), .second, .val (.int p8), .val (.long fo2), .second, .val (.long ls2), .second, .val (.int mb2), .val (.int le2), .val (.ref b1), .val (.ref b5), .unset, .unset, .unset] [(.long q0)])) _
        refine XS.lload X7.here hx rfl (hb hby at_101) rfl ?_
        show Steps p.tables e below (T7.setTop (mkF m 103 #[.val (.long q0), .second, .val (.long q2), .second, .val (.int p4), .val (.int p5), .val (.long q6), .second, .val (.int p8), .val (.long fo2), .second, .val (.long ls2), .second, .val (.int mb2), .val (.int le2), .val (.ref b1), .val (.ref b5), .unset, .unset, .unset] [(.long fo2), (.long q0)])) _
        refine XS.lcmp X7.here hx rfl (hb hby at_103) rfl ?_
        show Steps p.tables e below (T7.setTop (mkF m 104 #[.val (.long q0), .second, .val (.long q2), .second, .val (.int p4), .val (.int p5), .val (.long q6), .second, .val (.int p8), .val (.long fo2), .second, .val (.long ls2), .second, .val (.int mb2), .val (.int le2), .val (.ref b1), .val (.ref b5), .unset, .unset, .unset] [(.int (lcmpW q0 fo2))])) _
        refine XS.ifNo X7.here hx rfl (hb hby at_104) rfl ((if0 _ _).trans (teq ((lw_eq _ _).mpr c104)).2) ?_
        show Steps p.tables e below (T7.setTop (mkF m 107 #[.val (.long q0), .second, .val (.long q2), .second, .val (.int p4), .val (.int p5), .val (.long q6), .second, .val (.int p8), .val (.long fo2), .second, .val (.long ls2), .second, .val (.int mb2), .val (.int le2), .val (.ref b1), .val (.ref b5), .unset, .unset, .unset] [])) _
        refine XS.lloadN X7.here hx rfl (hb hby at_107) rfl ?_
        show Steps p.tables e below (T7.setTop (mkF m 108 #[.val (.long q0), .second, .val (.long q2), .second, .val (.int p4), .val (.int p5), .val (.long q6), .second, .val (.int p8), .val (.long fo2), .second, .val (.long ls2), .second, .val (.int mb2), .val (.int le2), .val (.ref b1), .val (.ref b5), .unset, .unset, .unset] [(.long q2)])) _
        refine XS.lload X7.here hx rfl (hb hby at_108) rfl ?_
        show Steps p.tables e below (T7.setTop (mkF m 110 #[.val (.long q0), .second, .val (.long q2), .second, .val (.int p4), .val (.int p5), .val (.long q6), .second, .val (.int p8), .val (.long fo2), .second, .val (.long ls2), .second, .val (.int mb2), .val (.int le2), .val (.ref b1), .val (.ref b5), .unset, .unset, .unset] [(.long ls2), (.long q2)])) _
        refine XS.lcmp X7.here hx rfl (hb hby at_110) rfl ?_
        show Steps p.tables e below (T7.setTop (mkF m 111 #[.val (.long q0), .second, .val (.long q2), .second, .val (.int p4), .val (.int p5), .val (.long q6), .second, .val (.int p8), .val (.long fo2), .second, .val (.long ls2), .second, .val (.int mb2), .val (.int le2), .val (.ref b1), .val (.ref b5), .unset, .unset, .unset] [(.int (lcmpW q2 ls2))])) _
        refine XS.ifYes X7.here hx rfl (pc0 := 111) (pc' := 132) rfl (hb hby at_111) rfl ((if0 _ _).trans (feq (fun q => c111 ((lw_eq _ _).mp q))).2) (by decide) (by decide) ?_
        show Steps p.tables e below (T7.setTop (mkF m 132 #[.val (.long q0), .second, .val (.long q2), .second, .val (.int p4), .val (.int p5), .val (.long q6), .second, .val (.int p8), .val (.long fo2), .second, .val (.long ls2), .second, .val (.int mb2), .val (.int le2), .val (.ref b1), .val (.ref b5), .unset, .unset, .unset] [])) _
        refine XS.iconst X7.here hx rfl (hb hby at_132) ?_
        exact k
    · refine ⟨((0 : Int32)), (by unfold own_eq; rw [if_neg (fun q => c104 q.1)]), fun t k => pre8 t ?_⟩
      show Steps p.tables e below (T7.setTop (mkF m 100 #[.val (.long q0), .second, .val (.long q2), .second, .val (.int p4), .val (.int p5), .val (.long q6), .second, .val (.int p8), .val (.long fo2), .second, .val (.long ls2), .second, .val (.int mb2), .val (.int le2), .val (.ref b1), .val (.ref b5), .unset, .unset, .unset] [])) _
      refine XS.lloadN X7.here hx rfl (hb hby at_100) rfl ?_
      show Steps p.tables e below (T7.setTop (mkF m 101 #[.val (.long q0), .second, .val (.long q2), .second, .val (.int p4), .val (.int p5), .val (.long q6), .second, .val (.int p8), .val (.long fo2), .second, .val (.long ls2), .second, .val (.int mb2), .val (.int le2), .val (.ref b1), .val (.ref b5), .unset, .unset, .unset] [(.long q0)])) _
      refine XS.lload X7.here hx rfl (hb hby at_101) rfl ?_
      show Steps p.tables e below (T7.setTop (mkF m 103 #[.val (.long q0), .second, .val (.long q2), .second, .val (.int p4), .val (.int p5), .val (.long q6), .second, .val (.int p8), .val (.long fo2), .second, .val (.long ls2), .second, .val (.int mb2), .val (.int le2), .val (.ref b1), .val (.ref b5), .unset, .unset, .unset] [(.long fo2), (.long q0)])) _
      refine XS.lcmp X7.here hx rfl (hb hby at_103) rfl ?_
      show Steps p.tables e below (T7.setTop (mkF m 104 #[.val (.long q0), .second, .val (.long q2), .second, .val (.int p4), .val (.int p5), .val (.long q6), .second, .val (.int p8), .val (.long fo2), .second, .val (.long ls2), .second, .val (.int mb2), .val (.int le2), .val (.ref b1), .val (.ref b5), .unset, .unset, .unset] [(.int (lcmpW q0 fo2))])) _
      refine XS.ifYes X7.here hx rfl (pc0 := 104) (pc' := 132) rfl (hb hby at_104) rfl ((if0 _ _).trans (feq (fun q => c104 ((lw_eq _ _).mp q))).2) (by decide) (by decide) ?_
      show Steps p.tables e below (T7.setTop (mkF m 132 #[.val (.long q0), .second, .val (.long q2), .second, .val (.int p4), .val (.int p5), .val (.long q6), .second, .val (.int p8), .val (.long fo2), .second, .val (.long ls2), .second, .val (.int mb2), .val (.int le2), .val (.ref b1), .val (.ref b5), .unset, .unset, .unset] [])) _
      refine XS.iconst X7.here hx rfl (hb hby at_132) ?_
      exact k
  subst hm9
  have pre10 : ∀ t, Steps p.tables e below (T7.setTop (mkF m 143 #[.val (.long q0), .second, .val (.long q2), .second, .val (.int p4), .val (.int p5), .val (.long q6), .second, .val (.int p8), .val (.long fo2), .second, .val (.long ls2), .second, .val (.int mb2), .val (.int le2), .val (.ref b1), .val (.ref b5), .val (.int (own_eq q0 q2 p4 p5 fo2 ls2 mb2 le2)), .val (.int (((p8.toUInt32 >>> ((4 : Int32) &&& 31).toUInt32).toInt32) &&& (3 : Int32))), .unset] [])) t → Steps p.tables e below (s₁.setTop (entryFrame m #[(.long q0), (.long q2), (.int p4), (.int p5), (.long q6), (.int p8)] maxLocals)) t := by
    intro t k
    refine pre9 t ?_
    show Steps p.tables e below (T7.setTop (mkF m 133 #[.val (.long q0), .second, .val (.long q2), .second, .val (.int p4), .val (.int p5), .val (.long q6), .second, .val (.int p8), .val (.long fo2), .second, .val (.long ls2), .second, .val (.int mb2), .val (.int le2), .val (.ref b1), .val (.ref b5), .unset, .unset, .unset] [(.int (own_eq q0 q2 p4 p5 fo2 ls2 mb2 le2))])) _
    refine XS.istore X7.here hx rfl (hb hby at_133) rfl (l' := #[.val (.long q0), .second, .val (.long q2), .second, .val (.int p4), .val (.int p5), .val (.long q6), .second, .val (.int p8), .val (.long fo2), .second, .val (.long ls2), .second, .val (.int mb2), .val (.int le2), .val (.ref b1), .val (.ref b5), .val (.int (own_eq q0 q2 p4 p5 fo2 ls2 mb2 le2)), .unset, .unset]) rfl ?_
    show Steps p.tables e below (T7.setTop (mkF m 135 #[.val (.long q0), .second, .val (.long q2), .second, .val (.int p4), .val (.int p5), .val (.long q6), .second, .val (.int p8), .val (.long fo2), .second, .val (.long ls2), .second, .val (.int mb2), .val (.int le2), .val (.ref b1), .val (.ref b5), .val (.int (own_eq q0 q2 p4 p5 fo2 ls2 mb2 le2)), .unset, .unset] [])) _
    refine XS.iload X7.here hx rfl (hb hby at_135) rfl ?_
    show Steps p.tables e below (T7.setTop (mkF m 137 #[.val (.long q0), .second, .val (.long q2), .second, .val (.int p4), .val (.int p5), .val (.long q6), .second, .val (.int p8), .val (.long fo2), .second, .val (.long ls2), .second, .val (.int mb2), .val (.int le2), .val (.ref b1), .val (.ref b5), .val (.int (own_eq q0 q2 p4 p5 fo2 ls2 mb2 le2)), .unset, .unset] [(.int p8)])) _
    refine XS.iconst X7.here hx rfl (hb hby at_137) ?_
    show Steps p.tables e below (T7.setTop (mkF m 138 #[.val (.long q0), .second, .val (.long q2), .second, .val (.int p4), .val (.int p5), .val (.long q6), .second, .val (.int p8), .val (.long fo2), .second, .val (.long ls2), .second, .val (.int mb2), .val (.int le2), .val (.ref b1), .val (.ref b5), .val (.int (own_eq q0 q2 p4 p5 fo2 ls2 mb2 le2)), .unset, .unset] [(.int (4 : Int32)), (.int p8)])) _
    refine XS.iushr X7.here hx rfl (hb hby at_138) rfl ?_
    show Steps p.tables e below (T7.setTop (mkF m 139 #[.val (.long q0), .second, .val (.long q2), .second, .val (.int p4), .val (.int p5), .val (.long q6), .second, .val (.int p8), .val (.long fo2), .second, .val (.long ls2), .second, .val (.int mb2), .val (.int le2), .val (.ref b1), .val (.ref b5), .val (.int (own_eq q0 q2 p4 p5 fo2 ls2 mb2 le2)), .unset, .unset] [(.int ((p8.toUInt32 >>> ((4 : Int32) &&& 31).toUInt32).toInt32))])) _
    refine XS.iconst X7.here hx rfl (hb hby at_139) ?_
    show Steps p.tables e below (T7.setTop (mkF m 140 #[.val (.long q0), .second, .val (.long q2), .second, .val (.int p4), .val (.int p5), .val (.long q6), .second, .val (.int p8), .val (.long fo2), .second, .val (.long ls2), .second, .val (.int mb2), .val (.int le2), .val (.ref b1), .val (.ref b5), .val (.int (own_eq q0 q2 p4 p5 fo2 ls2 mb2 le2)), .unset, .unset] [(.int (3 : Int32)), (.int ((p8.toUInt32 >>> ((4 : Int32) &&& 31).toUInt32).toInt32))])) _
    refine XS.iand X7.here hx rfl (hb hby at_140) rfl ?_
    show Steps p.tables e below (T7.setTop (mkF m 141 #[.val (.long q0), .second, .val (.long q2), .second, .val (.int p4), .val (.int p5), .val (.long q6), .second, .val (.int p8), .val (.long fo2), .second, .val (.long ls2), .second, .val (.int mb2), .val (.int le2), .val (.ref b1), .val (.ref b5), .val (.int (own_eq q0 q2 p4 p5 fo2 ls2 mb2 le2)), .unset, .unset] [(.int (((p8.toUInt32 >>> ((4 : Int32) &&& 31).toUInt32).toInt32) &&& (3 : Int32)))])) _
    refine XS.istore X7.here hx rfl (hb hby at_141) rfl (l' := #[.val (.long q0), .second, .val (.long q2), .second, .val (.int p4), .val (.int p5), .val (.long q6), .second, .val (.int p8), .val (.long fo2), .second, .val (.long ls2), .second, .val (.int mb2), .val (.int le2), .val (.ref b1), .val (.ref b5), .val (.int (own_eq q0 q2 p4 p5 fo2 ls2 mb2 le2)), .val (.int (((p8.toUInt32 >>> ((4 : Int32) &&& 31).toUInt32).toInt32) &&& (3 : Int32))), .unset]) rfl ?_
    exact k
  obtain ⟨md, emd⟩ : ∃ z, z = (((p8.toUInt32 >>> ((4 : Int32) &&& 31).toUInt32).toInt32) &&& (3 : Int32)) := ⟨_, rfl⟩
  rw [← emd] at pre10
  by_cases c146 : md = 1
  · skip
    obtain ⟨cq9, kq9, q9a, q9b, q9c⟩ := isOf hZ rfl E_b1_7
    obtain ⟨_, _, ⟨T9, L9, k9, n9⟩, -, X9, ⟨Lc9, hQ9, l9, y9, z9⟩, st9⟩ := X7.virtualBack hx (y := (⟨"com/example/tideline/tideline/session/FetchSession$Sent", "equals", "(Ljava/lang/Object;)Z"⟩ : MethodName)) (z := (⟨"com/example/tideline/tideline/session/FetchSession$Sent", "equals", "(Ljava/lang/Object;)Z"⟩ : MethodName)) hown (mvT hZ (hw _ (List.mem_of_getElem? (i := 22) rfl))) (mvT hZ (hw _ (List.mem_of_getElem? (i := 23) rfl))) (notFace_of_selects (args := #[]) (mvT hZ (hw _ (List.mem_of_getElem? (i := 25) rfl)))) (mvT hZ (hw _ (List.mem_of_getElem? (i := 25) rfl))) (mvT hZ (hw _ (List.mem_of_getElem? (i := 24) rfl))) (by decide) (backOf (W := 0) (rm4n l Z a0 hw [] b1 T7.heap n0 Zs8) hZ (hw _ (List.mem_of_getElem? (i := 26) rfl)) (hw _ (List.mem_of_getElem? (i := 2) rfl)) (by decide) (by decide)) q9a q9c (g := (mkF m 152 #[.val (.long q0), .second, .val (.long q2), .second, .val (.int p4), .val (.int p5), .val (.long q6), .second, .val (.int p8), .val (.long fo2), .second, .val (.long ls2), .second, .val (.int mb2), .val (.int le2), .val (.ref b1), .val (.ref b5), .val (.int (own_eq q0 q2 p4 p5 fo2 ls2 mb2 le2)), .val (.int md), .unset] [.null, (.ref b1)])) rfl (by rw [hml]; rfl) (Steps.refl _) (argsL := [.null]) (rest := []) (lenOf pd_3 rfl) rfl (by show 2 * 0 + _ ≤ _; exact Nat.le_of_eq rfl) (hb hby at_152) (fun _ _ => ⟨rfl, rfl, (by decide : 2 + 0 ≤ _), (by decide : 8 + 0 ≤ _)⟩)
    dsimp only [Pt.U, Pt.locs, Pt.cells, Pt.slots] at X9 l9 y9 z9 st9 hQ9
    subst l9 y9 z9
    obtain ⟨rfl, N9q, e9q⟩ := hQ9
    have N9 := Fr.app N7 N9q
    have pre11 : ∀ t, Steps p.tables e below (T9.setTop (mkF m 155 #[.val (.long q0), .second, .val (.long q2), .second, .val (.int p4), .val (.int p5), .val (.long q6), .second, .val (.int p8), .val (.long fo2), .second, .val (.long ls2), .second, .val (.int mb2), .val (.int le2), .val (.ref b1), .val (.ref b5), .val (.int (own_eq q0 q2 p4 p5 fo2 ls2 mb2 le2)), .val (.int md), .unset] [(.int (0 : Int32))])) t → Steps p.tables e below (s₁.setTop (entryFrame m #[(.long q0), (.long q2), (.int p4), (.int p5), (.long q6), (.int p8)] maxLocals)) t := by
      intro t k
      refine pre10 t ?_
      show Steps p.tables e below (T7.setTop (mkF m 143 #[.val (.long q0), .second, .val (.long q2), .second, .val (.int p4), .val (.int p5), .val (.long q6), .second, .val (.int p8), .val (.long fo2), .second, .val (.long ls2), .second, .val (.int mb2), .val (.int le2), .val (.ref b1), .val (.ref b5), .val (.int (own_eq q0 q2 p4 p5 fo2 ls2 mb2 le2)), .val (.int md), .unset] [])) _
      refine XS.iload X7.here hx rfl (hb hby at_143) rfl ?_
      show Steps p.tables e below (T7.setTop (mkF m 145 #[.val (.long q0), .second, .val (.long q2), .second, .val (.int p4), .val (.int p5), .val (.long q6), .second, .val (.int p8), .val (.long fo2), .second, .val (.long ls2), .second, .val (.int mb2), .val (.int le2), .val (.ref b1), .val (.ref b5), .val (.int (own_eq q0 q2 p4 p5 fo2 ls2 mb2 le2)), .val (.int md), .unset] [(.int md)])) _
      refine XS.iconst X7.here hx rfl (hb hby at_145) ?_
      show Steps p.tables e below (T7.setTop (mkF m 146 #[.val (.long q0), .second, .val (.long q2), .second, .val (.int p4), .val (.int p5), .val (.long q6), .second, .val (.int p8), .val (.long fo2), .second, .val (.long ls2), .second, .val (.int mb2), .val (.int le2), .val (.ref b1), .val (.ref b5), .val (.int (own_eq q0 q2 p4 p5 fo2 ls2 mb2 le2)), .val (.int md), .unset] [(.int (1 : Int32)), (.int md)])) _
      refine XS.icmpNo X7.here hx rfl (hb hby at_146) rfl (teq c146).2 ?_
      show Steps p.tables e below (T7.setTop (mkF m 149 #[.val (.long q0), .second, .val (.long q2), .second, .val (.int p4), .val (.int p5), .val (.long q6), .second, .val (.int p8), .val (.long fo2), .second, .val (.long ls2), .second, .val (.int mb2), .val (.int le2), .val (.ref b1), .val (.ref b5), .val (.int (own_eq q0 q2 p4 p5 fo2 ls2 mb2 le2)), .val (.int md), .unset] [])) _
      refine XS.aload X7.here hx rfl (hb hby at_149) rfl rfl ?_
      show Steps p.tables e below (T7.setTop (mkF m 151 #[.val (.long q0), .second, .val (.long q2), .second, .val (.int p4), .val (.int p5), .val (.long q6), .second, .val (.int p8), .val (.long fo2), .second, .val (.long ls2), .second, .val (.int mb2), .val (.int le2), .val (.ref b1), .val (.ref b5), .val (.int (own_eq q0 q2 p4 p5 fo2 ls2 mb2 le2)), .val (.int md), .unset] [(.ref b1)])) _
      refine XS.aconstNull X7.here hx rfl (hb hby at_151) ?_
      show Steps p.tables e below (T7.setTop (mkF m 152 #[.val (.long q0), .second, .val (.long q2), .second, .val (.int p4), .val (.int p5), .val (.long q6), .second, .val (.int p8), .val (.long fo2), .second, .val (.long ls2), .second, .val (.int mb2), .val (.int le2), .val (.ref b1), .val (.ref b5), .val (.int (own_eq q0 q2 p4 p5 fo2 ls2 mb2 le2)), .val (.int md), .unset] [.null, (.ref b1)])) _
      refine st9.trans ?_
      exact k
    obtain ⟨cq10, kq10, q10a, q10b, q10c⟩ := isOf hZ e9q E_b1_7
    obtain ⟨_, _, ⟨T10, L10, k10, n10⟩, -, X10, ⟨Lc10, hQ10, l10, y10, z10⟩, st10⟩ := X9.virtualBack hx (y := (⟨"com/example/tideline/tideline/session/FetchSession$Sent", "equals", "(Ljava/lang/Object;)Z"⟩ : MethodName)) (z := (⟨"com/example/tideline/tideline/session/FetchSession$Sent", "equals", "(Ljava/lang/Object;)Z"⟩ : MethodName)) hown (mvT hZ (hw _ (List.mem_of_getElem? (i := 22) rfl))) (mvT hZ (hw _ (List.mem_of_getElem? (i := 23) rfl))) (notFace_of_selects (args := #[]) (mvT hZ (hw _ (List.mem_of_getElem? (i := 25) rfl)))) (mvT hZ (hw _ (List.mem_of_getElem? (i := 25) rfl))) (mvT hZ (hw _ (List.mem_of_getElem? (i := 24) rfl))) (by decide) (backOf (W := 0) (rm4 l Z a0 hw [] b1 b1 q0 q2 p4 p5 q0 q2 p4 p5 T7.heap n0 Zs8 F_b1_fetchOffset_7 F_b1_logStartOffset_7 F_b1_maxBytes_7 F_b1_leaderEpoch_7 F_b1_fetchOffset_7 F_b1_logStartOffset_7 F_b1_maxBytes_7 F_b1_leaderEpoch_7 E_b1_7) hZ (hw _ (List.mem_of_getElem? (i := 26) rfl)) (hw _ (List.mem_of_getElem? (i := 2) rfl)) (by decide) (by decide)) q10a q10c (g := (mkF m 162 #[.val (.long q0), .second, .val (.long q2), .second, .val (.int p4), .val (.int p5), .val (.long q6), .second, .val (.int p8), .val (.long fo2), .second, .val (.long ls2), .second, .val (.int mb2), .val (.int le2), .val (.ref b1), .val (.ref b5), .val (.int (own_eq q0 q2 p4 p5 fo2 ls2 mb2 le2)), .val (.int md), .unset] [(.ref b1), (.ref b1)])) rfl (by rw [hml]; rfl) (Steps.refl _) (argsL := [(.ref b1)]) (rest := []) (lenOf pd_3 rfl) rfl (by show 2 * 0 + _ ≤ _; exact Nat.le_of_eq rfl) (hb hby at_162) (fun _ _ => ⟨rfl, e9q, (by decide : 2 + 0 ≤ _), (by decide : 8 + 0 ≤ _)⟩)
    dsimp only [Pt.U, Pt.locs, Pt.cells, Pt.slots] at X10 l10 y10 z10 st10 hQ10
    subst l10 y10 z10
    obtain ⟨rfl, N10q, e10q⟩ := hQ10
    have N10 := Fr.app N9 N10q
    obtain ⟨fs, hr, hrun, hended, hW, hsame⟩ := X10.leave (v := some (.int (1 : Int32))) (fun h => by rw [Bd.returns] at h; cases h)
    refine ⟨_, _, pre11 _ ?_, hrun, hended, _, _, rfl, ?_, ⟨_, rfl⟩, hW, hsame.mono (by decide) (by decide)⟩
    · show Steps p.tables e below (T9.setTop (mkF m 155 #[.val (.long q0), .second, .val (.long q2), .second, .val (.int p4), .val (.int p5), .val (.long q6), .second, .val (.int p8), .val (.long fo2), .second, .val (.long ls2), .second, .val (.int mb2), .val (.int le2), .val (.ref b1), .val (.ref b5), .val (.int (own_eq q0 q2 p4 p5 fo2 ls2 mb2 le2)), .val (.int md), .unset] [(.int (0 : Int32))])) _
      refine XS.ifNo X9.here hx rfl (hb hby at_155) rfl ((if0 _ _).trans (teq (rfl : (0 : Int32) = (0 : Int32))).2) ?_
      show Steps p.tables e below (T9.setTop (mkF m 158 #[.val (.long q0), .second, .val (.long q2), .second, .val (.int p4), .val (.int p5), .val (.long q6), .second, .val (.int p8), .val (.long fo2), .second, .val (.long ls2), .second, .val (.int mb2), .val (.int le2), .val (.ref b1), .val (.ref b5), .val (.int (own_eq q0 q2 p4 p5 fo2 ls2 mb2 le2)), .val (.int md), .unset] [])) _
      refine XS.aload X9.here hx rfl (hb hby at_158) rfl rfl ?_
      show Steps p.tables e below (T9.setTop (mkF m 160 #[.val (.long q0), .second, .val (.long q2), .second, .val (.int p4), .val (.int p5), .val (.long q6), .second, .val (.int p8), .val (.long fo2), .second, .val (.long ls2), .second, .val (.int mb2), .val (.int le2), .val (.ref b1), .val (.ref b5), .val (.int (own_eq q0 q2 p4 p5 fo2 ls2 mb2 le2)), .val (.int md), .unset] [(.ref b1)])) _
      refine XS.aload X9.here hx rfl (hb hby at_160) rfl rfl ?_
      show Steps p.tables e below (T9.setTop (mkF m 162 #[.val (.long q0), .second, .val (.long q2), .second, .val (.int p4), .val (.int p5), .val (.long q6), .second, .val (.int p8), .val (.long fo2), .second, .val (.long ls2), .second, .val (.int mb2), .val (.int le2), .val (.ref b1), .val (.ref b5), .val (.int (own_eq q0 q2 p4 p5 fo2 ls2 mb2 le2)), .val (.int md), .unset] [(.ref b1), (.ref b1)])) _
      refine st10.trans ?_
      show Steps p.tables e below (T10.setTop (mkF m 165 #[.val (.long q0), .second, .val (.long q2), .second, .val (.int p4), .val (.int p5), .val (.long q6), .second, .val (.int p8), .val (.long fo2), .second, .val (.long ls2), .second, .val (.int mb2), .val (.int le2), .val (.ref b1), .val (.ref b5), .val (.int (own_eq q0 q2 p4 p5 fo2 ls2 mb2 le2)), .val (.int md), .unset] [(.int (own_eq q0 q2 p4 p5 q0 q2 p4 p5))])) _
      refine XS.ifNo X10.here hx rfl (hb hby at_165) rfl ((if0 _ _).trans (feq (own_eq_self q0 q2 p4 p5)).1) ?_
      show Steps p.tables e below (T10.setTop (mkF m 168 #[.val (.long q0), .second, .val (.long q2), .second, .val (.int p4), .val (.int p5), .val (.long q6), .second, .val (.int p8), .val (.long fo2), .second, .val (.long ls2), .second, .val (.int mb2), .val (.int le2), .val (.ref b1), .val (.ref b5), .val (.int (own_eq q0 q2 p4 p5 fo2 ls2 mb2 le2)), .val (.int md), .unset] [])) _
      refine XS.iconst X10.here hx rfl (hb hby at_168) ?_
      show Steps p.tables e below (T10.setTop (mkF m 169 #[.val (.long q0), .second, .val (.long q2), .second, .val (.int p4), .val (.int p5), .val (.long q6), .second, .val (.int p8), .val (.long fo2), .second, .val (.long ls2), .second, .val (.int mb2), .val (.int le2), .val (.ref b1), .val (.ref b5), .val (.int (own_eq q0 q2 p4 p5 fo2 ls2 mb2 le2)), .val (.int md), .unset] [(.int (1 : Int32))])) _
      refine XS.goto X10.here hx rfl (pc0 := 169) (pc' := 173) rfl (hb hby at_169) (by decide) (by decide) ?_
      show Steps p.tables e below (T10.setTop (mkF m 173 #[.val (.long q0), .second, .val (.long q2), .second, .val (.int p4), .val (.int p5), .val (.long q6), .second, .val (.int p8), .val (.long fo2), .second, .val (.long ls2), .second, .val (.int mb2), .val (.int le2), .val (.ref b1), .val (.ref b5), .val (.int (own_eq q0 q2 p4 p5 fo2 ls2 mb2 le2)), .val (.int md), .unset] [(.int (1 : Int32))])) _
      exact retN X10 hx (t := .boolean) Bd.returns (by simp) (hb hby at_173) hr
    · show Q0 Z q0 q2 p4 p5 q6 p8 ca cl h0 n0 _ T10.heap _
      rw [e10q]
      exact ⟨rfl, N10⟩
  · skip
    by_cases c177 : md = 2
    · skip
      obtain ⟨_, _, ⟨T11, L11, k11, n11⟩, -, X11, ⟨Lc11, hQ11, l11, y11, z11⟩, st11⟩ := Jvm.LawKit.callS X7 hx (y := (⟨"java/lang/Long", "valueOf", "(J)Ljava/lang/Long;"⟩ : MethodName)) hown (mvT hZ (hw _ (List.mem_of_getElem? (i := 29) rfl))) (mvT hZ (hw _ (List.mem_of_getElem? (i := 30) rfl))) (mvT hZ (hw _ (List.mem_of_getElem? (i := 31) rfl))) (mvT hZ (hw _ (List.mem_of_getElem? (i := 32) rfl))) (by decide) (backOf (W := 0) (rm5 l Z a0 hw [] q0 ca cl T7.heap n0 Zs8 (SC.ext O_7.2) (Ar.ext O_7.2) Sz (fun j hj => by obtain ⟨a, q1, q2⟩ := Hc j hj; exact ⟨a, q1, q2.ext O_7.2⟩)) hZ (hw _ (List.mem_of_getElem? (i := 32) rfl)) (hw _ (List.mem_of_getElem? (i := 31) rfl)) (by decide) (by decide)) (g := (mkF m 181 #[.val (.long q0), .second, .val (.long q2), .second, .val (.int p4), .val (.int p5), .val (.long q6), .second, .val (.int p8), .val (.long fo2), .second, .val (.long ls2), .second, .val (.int mb2), .val (.int le2), .val (.ref b1), .val (.ref b5), .val (.int (own_eq q0 q2 p4 p5 fo2 ls2 mb2 le2)), .val (.int md), .unset] [(.long q0)])) rfl (by rw [hml]; rfl) (argsL := [(.long q0)]) (rest := []) (lenOf pd_4 rfl) rfl (by show 2 * 0 + _ ≤ _; exact Nat.le_of_eq rfl) (hb hby at_181) (fun _ _ => ⟨rfl, rfl, (by decide : 2 + 1 ≤ _), (by decide : 8 + 1 ≤ _)⟩)
      dsimp only [Pt.U, Pt.locs, Pt.cells, Pt.slots] at X11 l11 y11 z11 st11 hQ11
      subst l11 y11 z11
      obtain ⟨ai, rfl, N11q, K11q, E11q⟩ := hQ11
      have N11 := Fr.app N7 N11q
      have O_11 := O_7.keep K11q all0
      have E_b1_11 := E_b1_7.keep K11q
      have F_b1_fetchOffset_11 := F_b1_fetchOffset_7.keep K11q nin0
      have F_b1_logStartOffset_11 := F_b1_logStartOffset_7.keep K11q nin0
      have F_b1_maxBytes_11 := F_b1_maxBytes_7.keep K11q nin0
      have F_b1_leaderEpoch_11 := F_b1_leaderEpoch_7.keep K11q nin0
      have E_b5_11 := E7q.keep K11q
      have F_b5_fetchOffset_11 := F0_7q.keep K11q nin0
      have F_b5_logStartOffset_11 := F1_7q.keep K11q nin0
      have F_b5_maxBytes_11 := F2_7q.keep K11q nin0
      have F_b5_leaderEpoch_11 := F3_7q.keep K11q nin0
      have Zs12 := Nat.le_trans Zs8 K11q.1
      have pre12 : ∀ t, Steps p.tables e below (T11.setTop (mkF m 186 #[.val (.long q0), .second, .val (.long q2), .second, .val (.int p4), .val (.int p5), .val (.long q6), .second, .val (.int p8), .val (.long fo2), .second, .val (.long ls2), .second, .val (.int mb2), .val (.int le2), .val (.ref b1), .val (.ref b5), .val (.int (own_eq q0 q2 p4 p5 fo2 ls2 mb2 le2)), .val (.int md), .val (.ref ai)] [])) t → Steps p.tables e below (s₁.setTop (entryFrame m #[(.long q0), (.long q2), (.int p4), (.int p5), (.long q6), (.int p8)] maxLocals)) t := by
        intro t k
        refine pre10 t ?_
        show Steps p.tables e below (T7.setTop (mkF m 143 #[.val (.long q0), .second, .val (.long q2), .second, .val (.int p4), .val (.int p5), .val (.long q6), .second, .val (.int p8), .val (.long fo2), .second, .val (.long ls2), .second, .val (.int mb2), .val (.int le2), .val (.ref b1), .val (.ref b5), .val (.int (own_eq q0 q2 p4 p5 fo2 ls2 mb2 le2)), .val (.int md), .unset] [])) _
        refine XS.iload X7.here hx rfl (hb hby at_143) rfl ?_
        show Steps p.tables e below (T7.setTop (mkF m 145 #[.val (.long q0), .second, .val (.long q2), .second, .val (.int p4), .val (.int p5), .val (.long q6), .second, .val (.int p8), .val (.long fo2), .second, .val (.long ls2), .second, .val (.int mb2), .val (.int le2), .val (.ref b1), .val (.ref b5), .val (.int (own_eq q0 q2 p4 p5 fo2 ls2 mb2 le2)), .val (.int md), .unset] [(.int md)])) _
        refine XS.iconst X7.here hx rfl (hb hby at_145) ?_
        show Steps p.tables e below (T7.setTop (mkF m 146 #[.val (.long q0), .second, .val (.long q2), .second, .val (.int p4), .val (.int p5), .val (.long q6), .second, .val (.int p8), .val (.long fo2), .second, .val (.long ls2), .second, .val (.int mb2), .val (.int le2), .val (.ref b1), .val (.ref b5), .val (.int (own_eq q0 q2 p4 p5 fo2 ls2 mb2 le2)), .val (.int md), .unset] [(.int (1 : Int32)), (.int md)])) _
        refine XS.icmpYes X7.here hx rfl (pc0 := 146) (pc' := 174) rfl (hb hby at_146) rfl (feq c146).2 (by decide) (by decide) ?_
        show Steps p.tables e below (T7.setTop (mkF m 174 #[.val (.long q0), .second, .val (.long q2), .second, .val (.int p4), .val (.int p5), .val (.long q6), .second, .val (.int p8), .val (.long fo2), .second, .val (.long ls2), .second, .val (.int mb2), .val (.int le2), .val (.ref b1), .val (.ref b5), .val (.int (own_eq q0 q2 p4 p5 fo2 ls2 mb2 le2)), .val (.int md), .unset] [])) _
        refine XS.iload X7.here hx rfl (hb hby at_174) rfl ?_
        show Steps p.tables e below (T7.setTop (mkF m 176 #[.val (.long q0), .second, .val (.long q2), .second, .val (.int p4), .val (.int p5), .val (.long q6), .second, .val (.int p8), .val (.long fo2), .second, .val (.long ls2), .second, .val (.int mb2), .val (.int le2), .val (.ref b1), .val (.ref b5), .val (.int (own_eq q0 q2 p4 p5 fo2 ls2 mb2 le2)), .val (.int md), .unset] [(.int md)])) _
        refine XS.iconst X7.here hx rfl (hb hby at_176) ?_
        show Steps p.tables e below (T7.setTop (mkF m 177 #[.val (.long q0), .second, .val (.long q2), .second, .val (.int p4), .val (.int p5), .val (.long q6), .second, .val (.int p8), .val (.long fo2), .second, .val (.long ls2), .second, .val (.int mb2), .val (.int le2), .val (.ref b1), .val (.ref b5), .val (.int (own_eq q0 q2 p4 p5 fo2 ls2 mb2 le2)), .val (.int md), .unset] [(.int (2 : Int32)), (.int md)])) _
        refine XS.icmpNo X7.here hx rfl (hb hby at_177) rfl (teq c177).2 ?_
        show Steps p.tables e below (T7.setTop (mkF m 180 #[.val (.long q0), .second, .val (.long q2), .second, .val (.int p4), .val (.int p5), .val (.long q6), .second, .val (.int p8), .val (.long fo2), .second, .val (.long ls2), .second, .val (.int mb2), .val (.int le2), .val (.ref b1), .val (.ref b5), .val (.int (own_eq q0 q2 p4 p5 fo2 ls2 mb2 le2)), .val (.int md), .unset] [])) _
        refine XS.lloadN X7.here hx rfl (hb hby at_180) rfl ?_
        show Steps p.tables e below (T7.setTop (mkF m 181 #[.val (.long q0), .second, .val (.long q2), .second, .val (.int p4), .val (.int p5), .val (.long q6), .second, .val (.int p8), .val (.long fo2), .second, .val (.long ls2), .second, .val (.int mb2), .val (.int le2), .val (.ref b1), .val (.ref b5), .val (.int (own_eq q0 q2 p4 p5 fo2 ls2 mb2 le2)), .val (.int md), .unset] [(.long q0)])) _
        refine st11 _ ?_
        show Steps p.tables e below (T11.setTop (mkF m 184 #[.val (.long q0), .second, .val (.long q2), .second, .val (.int p4), .val (.int p5), .val (.long q6), .second, .val (.int p8), .val (.long fo2), .second, .val (.long ls2), .second, .val (.int mb2), .val (.int le2), .val (.ref b1), .val (.ref b5), .val (.int (own_eq q0 q2 p4 p5 fo2 ls2 mb2 le2)), .val (.int md), .unset] [(.ref ai)])) _
        refine XS.astore X11.here hx rfl (hb hby at_184) rfl rfl (l' := #[.val (.long q0), .second, .val (.long q2), .second, .val (.int p4), .val (.int p5), .val (.long q6), .second, .val (.int p8), .val (.long fo2), .second, .val (.long ls2), .second, .val (.int mb2), .val (.int le2), .val (.ref b1), .val (.ref b5), .val (.int (own_eq q0 q2 p4 p5 fo2 ls2 mb2 le2)), .val (.int md), .val (.ref ai)]) rfl ?_
        exact k
      obtain ⟨cq13, kq13, q13a, q13b, q13c⟩ := isOf hZ rfl E_b1_11
      obtain ⟨_, _, ⟨T13, L13, k13, n13⟩, -, X13, ⟨Lc13, hQ13, l13, y13, z13⟩, st13⟩ := X11.virtualBack hx (y := (⟨"com/example/tideline/tideline/session/FetchSession$Sent", "equals", "(Ljava/lang/Object;)Z"⟩ : MethodName)) (z := (⟨"com/example/tideline/tideline/session/FetchSession$Sent", "equals", "(Ljava/lang/Object;)Z"⟩ : MethodName)) hown (mvT hZ (hw _ (List.mem_of_getElem? (i := 22) rfl))) (mvT hZ (hw _ (List.mem_of_getElem? (i := 23) rfl))) (notFace_of_selects (args := #[]) (mvT hZ (hw _ (List.mem_of_getElem? (i := 25) rfl)))) (mvT hZ (hw _ (List.mem_of_getElem? (i := 25) rfl))) (mvT hZ (hw _ (List.mem_of_getElem? (i := 24) rfl))) (by decide) (backOf (W := 0) (rm4i l Z a0 hw [] b1 ai T11.heap n0 Zs12 E11q) hZ (hw _ (List.mem_of_getElem? (i := 26) rfl)) (hw _ (List.mem_of_getElem? (i := 2) rfl)) (by decide) (by decide)) q13a q13c (g := (mkF m 190 #[.val (.long q0), .second, .val (.long q2), .second, .val (.int p4), .val (.int p5), .val (.long q6), .second, .val (.int p8), .val (.long fo2), .second, .val (.long ls2), .second, .val (.int mb2), .val (.int le2), .val (.ref b1), .val (.ref b5), .val (.int (own_eq q0 q2 p4 p5 fo2 ls2 mb2 le2)), .val (.int md), .val (.ref ai)] [(.ref ai), (.ref b1)])) rfl (by rw [hml]; rfl) (Steps.refl _) (argsL := [(.ref ai)]) (rest := []) (lenOf pd_3 rfl) rfl (by show 2 * 0 + _ ≤ _; exact Nat.le_of_eq rfl) (hb hby at_190) (fun _ _ => ⟨rfl, rfl, (by decide : 3 + 0 ≤ _), (by decide : 9 + 0 ≤ _)⟩)
      dsimp only [Pt.U, Pt.locs, Pt.cells, Pt.slots] at X13 l13 y13 z13 st13 hQ13
      subst l13 y13 z13
      obtain ⟨rfl, N13q, e13q⟩ := hQ13
      have N13 := Fr.app N11 N13q
      obtain ⟨fs, hr, hrun, hended, hW, hsame⟩ := X13.leave (v := some (.int (1 : Int32))) (fun h => by rw [Bd.returns] at h; cases h)
      refine ⟨_, _, pre12 _ ?_, hrun, hended, _, _, rfl, ?_, ⟨_, rfl⟩, hW, hsame.mono (by decide) (by decide)⟩
      · show Steps p.tables e below (T11.setTop (mkF m 186 #[.val (.long q0), .second, .val (.long q2), .second, .val (.int p4), .val (.int p5), .val (.long q6), .second, .val (.int p8), .val (.long fo2), .second, .val (.long ls2), .second, .val (.int mb2), .val (.int le2), .val (.ref b1), .val (.ref b5), .val (.int (own_eq q0 q2 p4 p5 fo2 ls2 mb2 le2)), .val (.int md), .val (.ref ai)] [])) _
        refine XS.aload X11.here hx rfl (hb hby at_186) rfl rfl ?_
        show Steps p.tables e below (T11.setTop (mkF m 188 #[.val (.long q0), .second, .val (.long q2), .second, .val (.int p4), .val (.int p5), .val (.long q6), .second, .val (.int p8), .val (.long fo2), .second, .val (.long ls2), .second, .val (.int mb2), .val (.int le2), .val (.ref b1), .val (.ref b5), .val (.int (own_eq q0 q2 p4 p5 fo2 ls2 mb2 le2)), .val (.int md), .val (.ref ai)] [(.ref b1)])) _
        refine XS.aload X11.here hx rfl (hb hby at_188) rfl rfl ?_
        show Steps p.tables e below (T11.setTop (mkF m 190 #[.val (.long q0), .second, .val (.long q2), .second, .val (.int p4), .val (.int p5), .val (.long q6), .second, .val (.int p8), .val (.long fo2), .second, .val (.long ls2), .second, .val (.int mb2), .val (.int le2), .val (.ref b1), .val (.ref b5), .val (.int (own_eq q0 q2 p4 p5 fo2 ls2 mb2 le2)), .val (.int md), .val (.ref ai)] [(.ref ai), (.ref b1)])) _
        refine st13.trans ?_
        show Steps p.tables e below (T13.setTop (mkF m 193 #[.val (.long q0), .second, .val (.long q2), .second, .val (.int p4), .val (.int p5), .val (.long q6), .second, .val (.int p8), .val (.long fo2), .second, .val (.long ls2), .second, .val (.int mb2), .val (.int le2), .val (.ref b1), .val (.ref b5), .val (.int (own_eq q0 q2 p4 p5 fo2 ls2 mb2 le2)), .val (.int md), .val (.ref ai)] [(.int (0 : Int32))])) _
        refine XS.ifNo X13.here hx rfl (hb hby at_193) rfl ((if0 _ _).trans (teq (rfl : (0 : Int32) = (0 : Int32))).2) ?_
        show Steps p.tables e below (T13.setTop (mkF m 196 #[.val (.long q0), .second, .val (.long q2), .second, .val (.int p4), .val (.int p5), .val (.long q6), .second, .val (.int p8), .val (.long fo2), .second, .val (.long ls2), .second, .val (.int mb2), .val (.int le2), .val (.ref b1), .val (.ref b5), .val (.int (own_eq q0 q2 p4 p5 fo2 ls2 mb2 le2)), .val (.int md), .val (.ref ai)] [])) _
        refine XS.iconst X13.here hx rfl (hb hby at_196) ?_
        show Steps p.tables e below (T13.setTop (mkF m 197 #[.val (.long q0), .second, .val (.long q2), .second, .val (.int p4), .val (.int p5), .val (.long q6), .second, .val (.int p8), .val (.long fo2), .second, .val (.long ls2), .second, .val (.int mb2), .val (.int le2), .val (.ref b1), .val (.ref b5), .val (.int (own_eq q0 q2 p4 p5 fo2 ls2 mb2 le2)), .val (.int md), .val (.ref ai)] [(.int (1 : Int32))])) _
        refine XS.goto X13.here hx rfl (pc0 := 197) (pc' := 201) rfl (hb hby at_197) (by decide) (by decide) ?_
        show Steps p.tables e below (T13.setTop (mkF m 201 #[.val (.long q0), .second, .val (.long q2), .second, .val (.int p4), .val (.int p5), .val (.long q6), .second, .val (.int p8), .val (.long fo2), .second, .val (.long ls2), .second, .val (.int mb2), .val (.int le2), .val (.ref b1), .val (.ref b5), .val (.int (own_eq q0 q2 p4 p5 fo2 ls2 mb2 le2)), .val (.int md), .val (.ref ai)] [(.int (1 : Int32))])) _
        exact retN X13 hx (t := .boolean) Bd.returns (by simp) (hb hby at_201) hr
      · show Q0 Z q0 q2 p4 p5 q6 p8 ca cl h0 n0 _ T13.heap _
        rw [e13q]
        exact ⟨rfl, N13⟩
    · skip
      obtain ⟨cq14, kq14, q14a, q14b, q14c⟩ := isOf hZ rfl E_b1_7
      obtain ⟨_, _, ⟨T14, L14, k14, n14⟩, -, X14, ⟨Lc14, hQ14, l14, y14, z14⟩, st14⟩ := X7.virtualBack hx (y := (⟨"com/example/tideline/tideline/session/FetchSession$Sent", "equals", "(Ljava/lang/Object;)Z"⟩ : MethodName)) (z := (⟨"com/example/tideline/tideline/session/FetchSession$Sent", "equals", "(Ljava/lang/Object;)Z"⟩ : MethodName)) hown (mvT hZ (hw _ (List.mem_of_getElem? (i := 22) rfl))) (mvT hZ (hw _ (List.mem_of_getElem? (i := 23) rfl))) (notFace_of_selects (args := #[]) (mvT hZ (hw _ (List.mem_of_getElem? (i := 25) rfl)))) (mvT hZ (hw _ (List.mem_of_getElem? (i := 25) rfl))) (mvT hZ (hw _ (List.mem_of_getElem? (i := 24) rfl))) (by decide) (backOf (W := 0) (rm4 l Z a0 hw [] b1 b5 q0 q2 p4 p5 fo2 ls2 mb2 le2 T7.heap n0 Zs8 F_b1_fetchOffset_7 F_b1_logStartOffset_7 F_b1_maxBytes_7 F_b1_leaderEpoch_7 F0_7q F1_7q F2_7q F3_7q E7q) hZ (hw _ (List.mem_of_getElem? (i := 26) rfl)) (hw _ (List.mem_of_getElem? (i := 2) rfl)) (by decide) (by decide)) q14a q14c (g := (mkF m 206 #[.val (.long q0), .second, .val (.long q2), .second, .val (.int p4), .val (.int p5), .val (.long q6), .second, .val (.int p8), .val (.long fo2), .second, .val (.long ls2), .second, .val (.int mb2), .val (.int le2), .val (.ref b1), .val (.ref b5), .val (.int (own_eq q0 q2 p4 p5 fo2 ls2 mb2 le2)), .val (.int md), .unset] [(.ref b5), (.ref b1)])) rfl (by rw [hml]; rfl) (Steps.refl _) (argsL := [(.ref b5)]) (rest := []) (lenOf pd_3 rfl) rfl (by show 2 * 0 + _ ≤ _; exact Nat.le_of_eq rfl) (hb hby at_206) (fun _ _ => ⟨rfl, rfl, (by decide : 2 + 0 ≤ _), (by decide : 8 + 0 ≤ _)⟩)
      dsimp only [Pt.U, Pt.locs, Pt.cells, Pt.slots] at X14 l14 y14 z14 st14 hQ14
      subst l14 y14 z14
      obtain ⟨rfl, N14q, e14q⟩ := hQ14
      have N14 := Fr.app N7 N14q
      have pre13 : ∀ t, Steps p.tables e below (T14.setTop (mkF m 211 #[.val (.long q0), .second, .val (.long q2), .second, .val (.int p4), .val (.int p5), .val (.long q6), .second, .val (.int p8), .val (.long fo2), .second, .val (.long ls2), .second, .val (.int mb2), .val (.int le2), .val (.ref b1), .val (.ref b5), .val (.int (own_eq q0 q2 p4 p5 fo2 ls2 mb2 le2)), .val (.int md), .unset] [(.int (own_eq q0 q2 p4 p5 fo2 ls2 mb2 le2)), (.int (own_eq fo2 ls2 mb2 le2 q0 q2 p4 p5))])) t → Steps p.tables e below (s₁.setTop (entryFrame m #[(.long q0), (.long q2), (.int p4), (.int p5), (.long q6), (.int p8)] maxLocals)) t := by
        intro t k
        refine pre10 t ?_
        show Steps p.tables e below (T7.setTop (mkF m 143 #[.val (.long q0), .second, .val (.long q2), .second, .val (.int p4), .val (.int p5), .val (.long q6), .second, .val (.int p8), .val (.long fo2), .second, .val (.long ls2), .second, .val (.int mb2), .val (.int le2), .val (.ref b1), .val (.ref b5), .val (.int (own_eq q0 q2 p4 p5 fo2 ls2 mb2 le2)), .val (.int md), .unset] [])) _
        refine XS.iload X7.here hx rfl (hb hby at_143) rfl ?_
        show Steps p.tables e below (T7.setTop (mkF m 145 #[.val (.long q0), .second, .val (.long q2), .second, .val (.int p4), .val (.int p5), .val (.long q6), .second, .val (.int p8), .val (.long fo2), .second, .val (.long ls2), .second, .val (.int mb2), .val (.int le2), .val (.ref b1), .val (.ref b5), .val (.int (own_eq q0 q2 p4 p5 fo2 ls2 mb2 le2)), .val (.int md), .unset] [(.int md)])) _
        refine XS.iconst X7.here hx rfl (hb hby at_145) ?_
        show Steps p.tables e below (T7.setTop (mkF m 146 #[.val (.long q0), .second, .val (.long q2), .second, .val (.int p4), .val (.int p5), .val (.long q6), .second, .val (.int p8), .val (.long fo2), .second, .val (.long ls2), .second, .val (.int mb2), .val (.int le2), .val (.ref b1), .val (.ref b5), .val (.int (own_eq q0 q2 p4 p5 fo2 ls2 mb2 le2)), .val (.int md), .unset] [(.int (1 : Int32)), (.int md)])) _
        refine XS.icmpYes X7.here hx rfl (pc0 := 146) (pc' := 174) rfl (hb hby at_146) rfl (feq c146).2 (by decide) (by decide) ?_
        show Steps p.tables e below (T7.setTop (mkF m 174 #[.val (.long q0), .second, .val (.long q2), .second, .val (.int p4), .val (.int p5), .val (.long q6), .second, .val (.int p8), .val (.long fo2), .second, .val (.long ls2), .second, .val (.int mb2), .val (.int le2), .val (.ref b1), .val (.ref b5), .val (.int (own_eq q0 q2 p4 p5 fo2 ls2 mb2 le2)), .val (.int md), .unset] [])) _
        refine XS.iload X7.here hx rfl (hb hby at_174) rfl ?_
        show Steps p.tables e below (T7.setTop (mkF m 176 #[.val (.long q0), .second, .val (.long q2), .second, .val (.int p4), .val (.int p5), .val (.long q6), .second, .val (.int p8), .val (.long fo2), .second, .val (.long ls2), .second, .val (.int mb2), .val (.int le2), .val (.ref b1), .val (.ref b5), .val (.int (own_eq q0 q2 p4 p5 fo2 ls2 mb2 le2)), .val (.int md), .unset] [(.int md)])) _
        refine XS.iconst X7.here hx rfl (hb hby at_176) ?_
        show Steps p.tables e below (T7.setTop (mkF m 177 #[.val (.long q0), .second, .val (.long q2), .second, .val (.int p4), .val (.int p5), .val (.long q6), .second, .val (.int p8), .val (.long fo2), .second, .val (.long ls2), .second, .val (.int mb2), .val (.int le2), .val (.ref b1), .val (.ref b5), .val (.int (own_eq q0 q2 p4 p5 fo2 ls2 mb2 le2)), .val (.int md), .unset] [(.int (2 : Int32)), (.int md)])) _
        refine XS.icmpYes X7.here hx rfl (pc0 := 177) (pc' := 202) rfl (hb hby at_177) rfl (feq c177).2 (by decide) (by decide) ?_
        show Steps p.tables e below (T7.setTop (mkF m 202 #[.val (.long q0), .second, .val (.long q2), .second, .val (.int p4), .val (.int p5), .val (.long q6), .second, .val (.int p8), .val (.long fo2), .second, .val (.long ls2), .second, .val (.int mb2), .val (.int le2), .val (.ref b1), .val (.ref b5), .val (.int (own_eq q0 q2 p4 p5 fo2 ls2 mb2 le2)), .val (.int md), .unset] [])) _
        refine XS.aload X7.here hx rfl (hb hby at_202) rfl rfl ?_
        show Steps p.tables e below (T7.setTop (mkF m 204 #[.val (.long q0), .second, .val (.long q2), .second, .val (.int p4), .val (.int p5), .val (.long q6), .second, .val (.int p8), .val (.long fo2), .second, .val (.long ls2), .second, .val (.int mb2), .val (.int le2), .val (.ref b1), .val (.ref b5), .val (.int (own_eq q0 q2 p4 p5 fo2 ls2 mb2 le2)), .val (.int md), .unset] [(.ref b1)])) _
        refine XS.aload X7.here hx rfl (hb hby at_204) rfl rfl ?_
        show Steps p.tables e below (T7.setTop (mkF m 206 #[.val (.long q0), .second, .val (.long q2), .second, .val (.int p4), .val (.int p5), .val (.long q6), .second, .val (.int p8), .val (.long fo2), .second, .val (.long ls2), .second, .val (.int mb2), .val (.int le2), .val (.ref b1), .val (.ref b5), .val (.int (own_eq q0 q2 p4 p5 fo2 ls2 mb2 le2)), .val (.int md), .unset] [(.ref b5), (.ref b1)])) _
        refine st14.trans ?_
        show Steps p.tables e below (T14.setTop (mkF m 209 #[.val (.long q0), .second, .val (.long q2), .second, .val (.int p4), .val (.int p5), .val (.long q6), .second, .val (.int p8), .val (.long fo2), .second, .val (.long ls2), .second, .val (.int mb2), .val (.int le2), .val (.ref b1), .val (.ref b5), .val (.int (own_eq q0 q2 p4 p5 fo2 ls2 mb2 le2)), .val (.int md), .unset] [(.int (own_eq fo2 ls2 mb2 le2 q0 q2 p4 p5))])) _
        refine XS.iload X14.here hx rfl (hb hby at_209) rfl ?_
        exact k
      obtain ⟨cq15, kq15, q15a, q15b, q15c⟩ := isOf hZ e14q E7q
      obtain ⟨_, _, ⟨T15, L15, k15, n15⟩, -, X15, ⟨Lc15, hQ15, l15, y15, z15⟩, st15⟩ := X14.virtualBack hx (y := (⟨"com/example/tideline/tideline/session/FetchSession$Sent", "equals", "(Ljava/lang/Object;)Z"⟩ : MethodName)) (z := (⟨"com/example/tideline/tideline/session/FetchSession$Sent", "equals", "(Ljava/lang/Object;)Z"⟩ : MethodName)) hown (mvT hZ (hw _ (List.mem_of_getElem? (i := 22) rfl))) (mvT hZ (hw _ (List.mem_of_getElem? (i := 23) rfl))) (notFace_of_selects (args := #[]) (mvT hZ (hw _ (List.mem_of_getElem? (i := 25) rfl)))) (mvT hZ (hw _ (List.mem_of_getElem? (i := 25) rfl))) (mvT hZ (hw _ (List.mem_of_getElem? (i := 24) rfl))) (by decide) (backOf (W := 0) (rm4 l Z a0 hw [] b5 b1 fo2 ls2 mb2 le2 q0 q2 p4 p5 T7.heap n0 Zs8 F0_7q F1_7q F2_7q F3_7q F_b1_fetchOffset_7 F_b1_logStartOffset_7 F_b1_maxBytes_7 F_b1_leaderEpoch_7 E_b1_7) hZ (hw _ (List.mem_of_getElem? (i := 26) rfl)) (hw _ (List.mem_of_getElem? (i := 2) rfl)) (by decide) (by decide)) q15a q15c (g := (mkF m 218 #[.val (.long q0), .second, .val (.long q2), .second, .val (.int p4), .val (.int p5), .val (.long q6), .second, .val (.int p8), .val (.long fo2), .second, .val (.long ls2), .second, .val (.int mb2), .val (.int le2), .val (.ref b1), .val (.ref b5), .val (.int (own_eq q0 q2 p4 p5 fo2 ls2 mb2 le2)), .val (.int md), .unset] [(.ref b1), (.ref b5)])) rfl (by rw [hml]; rfl) (Steps.refl _) (argsL := [(.ref b1)]) (rest := []) (lenOf pd_3 rfl) rfl (by show 2 * 0 + _ ≤ _; exact Nat.le_of_eq rfl) (hb hby at_218) (fun _ _ => ⟨rfl, e14q, (by decide : 2 + 0 ≤ _), (by decide : 8 + 0 ≤ _)⟩)
      dsimp only [Pt.U, Pt.locs, Pt.cells, Pt.slots] at X15 l15 y15 z15 st15 hQ15
      subst l15 y15 z15
      obtain ⟨rfl, N15q, e15q⟩ := hQ15
      have N15 := Fr.app N14 N15q
      have pre14 : ∀ t, Steps p.tables e below (T15.setTop (mkF m 223 #[.val (.long q0), .second, .val (.long q2), .second, .val (.int p4), .val (.int p5), .val (.long q6), .second, .val (.int p8), .val (.long fo2), .second, .val (.long ls2), .second, .val (.int mb2), .val (.int le2), .val (.ref b1), .val (.ref b5), .val (.int (own_eq q0 q2 p4 p5 fo2 ls2 mb2 le2)), .val (.int md), .unset] [(.int (own_eq q0 q2 p4 p5 fo2 ls2 mb2 le2)), (.int (own_eq q0 q2 p4 p5 fo2 ls2 mb2 le2))])) t → Steps p.tables e below (s₁.setTop (entryFrame m #[(.long q0), (.long q2), (.int p4), (.int p5), (.long q6), (.int p8)] maxLocals)) t := by
        intro t k
        refine pre13 t ?_
        show Steps p.tables e below (T14.setTop (mkF m 211 #[.val (.long q0), .second, .val (.long q2), .second, .val (.int p4), .val (.int p5), .val (.long q6), .second, .val (.int p8), .val (.long fo2), .second, .val (.long ls2), .second, .val (.int mb2), .val (.int le2), .val (.ref b1), .val (.ref b5), .val (.int (own_eq q0 q2 p4 p5 fo2 ls2 mb2 le2)), .val (.int md), .unset] [(.int (own_eq q0 q2 p4 p5 fo2 ls2 mb2 le2)), (.int (own_eq fo2 ls2 mb2 le2 q0 q2 p4 p5))])) _
        refine XS.icmpNo X14.here hx rfl (hb hby at_211) rfl (teq (own_eq_comm fo2 ls2 mb2 le2 q0 q2 p4 p5)).2 ?_
        show Steps p.tables e below (T14.setTop (mkF m 214 #[.val (.long q0), .second, .val (.long q2), .second, .val (.int p4), .val (.int p5), .val (.long q6), .second, .val (.int p8), .val (.long fo2), .second, .val (.long ls2), .second, .val (.int mb2), .val (.int le2), .val (.ref b1), .val (.ref b5), .val (.int (own_eq q0 q2 p4 p5 fo2 ls2 mb2 le2)), .val (.int md), .unset] [])) _
        refine XS.aload X14.here hx rfl (hb hby at_214) rfl rfl ?_
        show Steps p.tables e below (T14.setTop (mkF m 216 #[.val (.long q0), .second, .val (.long q2), .second, .val (.int p4), .val (.int p5), .val (.long q6), .second, .val (.int p8), .val (.long fo2), .second, .val (.long ls2), .second, .val (.int mb2), .val (.int le2), .val (.ref b1), .val (.ref b5), .val (.int (own_eq q0 q2 p4 p5 fo2 ls2 mb2 le2)), .val (.int md), .unset] [(.ref b5)])) _
        refine XS.aload X14.here hx rfl (hb hby at_216) rfl rfl ?_
        show Steps p.tables e below (T14.setTop (mkF m 218 #[.val (.long q0), .second, .val (.long q2), .second, .val (.int p4), .val (.int p5), .val (.long q6), .second, .val (.int p8), .val (.long fo2), .second, .val (.long ls2), .second, .val (.int mb2), .val (.int le2), .val (.ref b1), .val (.ref b5), .val (.int (own_eq q0 q2 p4 p5 fo2 ls2 mb2 le2)), .val (.int md), .unset] [(.ref b1), (.ref b5)])) _
        refine st15.trans ?_
        show Steps p.tables e below (T15.setTop (mkF m 221 #[.val (.long q0), .second, .val (.long q2), .second, .val (.int p4), .val (.int p5), .val (.long q6), .second, .val (.int p8), .val (.long fo2), .second, .val (.long ls2), .second, .val (.int mb2), .val (.int le2), .val (.ref b1), .val (.ref b5), .val (.int (own_eq q0 q2 p4 p5 fo2 ls2 mb2 le2)), .val (.int md), .unset] [(.int (own_eq q0 q2 p4 p5 fo2 ls2 mb2 le2))])) _
        refine XS.iload X15.here hx rfl (hb hby at_221) rfl ?_
        exact k
      obtain ⟨fs, hr, hrun, hended, hW, hsame⟩ := X15.leave (v := some (.int (1 : Int32))) (fun h => by rw [Bd.returns] at h; cases h)
      refine ⟨_, _, pre14 _ ?_, hrun, hended, _, _, rfl, ?_, ⟨_, rfl⟩, hW, hsame.mono (by decide) (by decide)⟩
      · show Steps p.tables e below (T15.setTop (mkF m 223 #[.val (.long q0), .second, .val (.long q2), .second, .val (.int p4), .val (.int p5), .val (.long q6), .second, .val (.int p8), .val (.long fo2), .second, .val (.long ls2), .second, .val (.int mb2), .val (.int le2), .val (.ref b1), .val (.ref b5), .val (.int (own_eq q0 q2 p4 p5 fo2 ls2 mb2 le2)), .val (.int md), .unset] [(.int (own_eq q0 q2 p4 p5 fo2 ls2 mb2 le2)), (.int (own_eq q0 q2 p4 p5 fo2 ls2 mb2 le2))])) _
        refine XS.icmpNo X15.here hx rfl (hb hby at_223) rfl (teq (rfl : own_eq q0 q2 p4 p5 fo2 ls2 mb2 le2 = own_eq q0 q2 p4 p5 fo2 ls2 mb2 le2)).2 ?_
        show Steps p.tables e below (T15.setTop (mkF m 226 #[.val (.long q0), .second, .val (.long q2), .second, .val (.int p4), .val (.int p5), .val (.long q6), .second, .val (.int p8), .val (.long fo2), .second, .val (.long ls2), .second, .val (.int mb2), .val (.int le2), .val (.ref b1), .val (.ref b5), .val (.int (own_eq q0 q2 p4 p5 fo2 ls2 mb2 le2)), .val (.int md), .unset] [])) _
        refine XS.iconst X15.here hx rfl (hb hby at_226) ?_
        show Steps p.tables e below (T15.setTop (mkF m 227 #[.val (.long q0), .second, .val (.long q2), .second, .val (.int p4), .val (.int p5), .val (.long q6), .second, .val (.int p8), .val (.long fo2), .second, .val (.long ls2), .second, .val (.int mb2), .val (.int le2), .val (.ref b1), .val (.ref b5), .val (.int (own_eq q0 q2 p4 p5 fo2 ls2 mb2 le2)), .val (.int md), .unset] [(.int (1 : Int32))])) _
        refine XS.goto X15.here hx rfl (pc0 := 227) (pc' := 231) rfl (hb hby at_227) (by decide) (by decide) ?_
        show Steps p.tables e below (T15.setTop (mkF m 231 #[.val (.long q0), .second, .val (.long q2), .second, .val (.int p4), .val (.int p5), .val (.long q6), .second, .val (.int p8), .val (.long fo2), .second, .val (.long ls2), .second, .val (.int mb2), .val (.int le2), .val (.ref b1), .val (.ref b5), .val (.int (own_eq q0 q2 p4 p5 fo2 ls2 mb2 le2)), .val (.int md), .unset] [(.int (1 : Int32))])) _
        exact retN X15 hx (t := .boolean) Bd.returns (by simp) (hb hby at_231) hr
      · show Q0 Z q0 q2 p4 p5 q6 p8 ca cl h0 n0 _ T15.heap _
        rw [e15q]
        exact ⟨rfl, N15⟩
set_option maxRecDepth 65536 in
set_option maxHeartbeats 40000000 in
theorem comes_1 {Post : Tables → Env → Array Value → State → Outcome → State → Prop} (hpost : ∀ tb e args s v u, (limb_1_1.after args s (.returned v) u = true ∧ limb_1_2.after args s (.returned v) u = true ∧ True) → FrameEnd s (.returned v) u (Jvm.fieldLocs frame_1_writes args s ++ Jvm.arrayLocs frame_1_arrays args s ++ Jvm.staticLocs frame_1_statics s) 16 128 → Post tb e args s (.returned v) u) :
    ArmFor flags0 classFile x code maxLocals ret World_1 tables_1 room_1 Calls_1 rest_1 Pre_1 Post := by
  intro l hfl _ _ p e ha hc hk s m args below hf hA hF happ hP
  obtain ⟨hcalls, hrest, hpre⟩ := hP
  obtain ⟨-, -, -, hnamed, -, -, -, hat⟩ := (Spec.applies_iff hf).mp happ
  obtain ⟨hg, hn⟩ := and_e (Cond.before_iff.mp (show (Jvm.Cond.and given_1 narrow_1).before args s = true from hpre))
  obtain ⟨gv1, gv2⟩ := and_e hg
  obtain ⟨gv3, gv4⟩ := and_e gv2
  obtain ⟨gv5, gv6⟩ := and_e gv4
  obtain ⟨gv7, gv8⟩ := and_e gv6
  obtain ⟨gv9, gv10⟩ := and_e gv8
  obtain ⟨gv11, gv12⟩ := and_e gv10
  obtain ⟨w0, w1, w2, w3, w4, w5, rfl⟩ : ∃ w0 w1 w2 w3 w4 w5 : Value, args = #[w0, w1, w2, w3, w4, w5] := by
    have hs : args.size = 6 := by simpa [Cond.value, given_1] using gv1
    obtain ⟨L⟩ := args
    match L, hs with
    | [w0, w1, w2, w3, w4, w5], _ => exact ⟨w0, w1, w2, w3, w4, w5, rfl⟩
  have hw := fun d (hd : d ∈ tables_1) => atoms_spec (ws := Jvm.Cond.code x code maxLocals ret :: tables_1) hat d (List.mem_cons_of_mem _ hd)
  have hfit : Fit s := fun {y c} hc i hi => by
    obtain ⟨ha, rfl⟩ := Array.getElem?_eq_some_iff.mp hc
    have q := List.all_eq_true.mp ((Array.all_eq_true_iff_forall_mem.mp hF) _ (Array.getElem_mem ha)) i (List.mem_range.mpr hi)
    simpa [Array.getElem?_eq_getElem hi] using q
  obtain ⟨hsets, hown0⟩ := atoms_of _ (rest_1_c_eq ▸ (show rest_1_c.before _ s = true from hrest))
  have hr0 := Cond.before_iff.mp hown0
  obtain ⟨i0, ei0⟩ := isL_v gv3
  obtain rfl : w0 = (.long i0) := Option.some.inj ei0
  obtain ⟨i1, ei1⟩ := isL_v gv5
  obtain rfl : w1 = (.long i1) := Option.some.inj ei1
  obtain ⟨i2, ei2⟩ := is_v gv7
  obtain rfl : w2 = (.int i2) := Option.some.inj ei2
  obtain ⟨i3, ei3⟩ := is_v gv9
  obtain rfl : w3 = (.int i3) := Option.some.inj ei3
  obtain ⟨i4, ei4⟩ := isL_v gv11
  obtain rfl : w4 = (.long i4) := Option.some.inj ei4
  obtain ⟨i5, ei5⟩ := is_v gv12
  obtain rfl : w5 = (.int i5) := Option.some.inj ei5
  obtain ⟨ca, ec⟩ := arr_v (Cond.before_iff.mp (hsets _ (List.mem_of_getElem? (i := 2) rfl)))
  have SC : Sta s s.heap "java/lang/Long$LongCache" "cache" "[Ljava/lang/Long;" (.ref ca) := Sta.start ec (Or.inl (hsets _ (List.mem_of_getElem? (i := 1) rfl)))
  obtain ⟨ca', cl, q1, hcl, harr, hvm⟩ := Jvm.Free.IntBox.arrayOf_fwd (hsets _ (List.mem_of_getElem? (i := 2) rfl)) ec
  obtain rfl : ca = ca' := Value.ref.inj q1
  obtain ⟨hlt, hsz⟩ := Jvm.Free.IntBox.length_fwd (hsets _ (List.mem_of_getElem? (i := 4) rfl)) ec hcl harr hvm
  have hsz' : cl.slots.size = 256 := by
    have q := congrArg Int32.toInt hsz
    rw [len_toInt hlt] at q
    have q2 : (256 : Int32).toInt = 256 := by decide
    omega
  have hall := Cond.all_elim ec (Jvm.Free.IntBox.arrayAt_of hcl harr hvm) (Cond.before_iff.mp (hsets _ (List.mem_of_getElem? (i := 5) rfl)))
  have Hc : ∀ j, j < 256 → ∃ a, cl.slots[j]? = some (.ref a) ∧ Exa s s.heap a "java/lang/Long" := fun j hj => by
    obtain ⟨hx1, -⟩ := and_e (hall j (by omega))
    obtain ⟨a, ea⟩ := exa_v hx1
    refine ⟨a, ?_, exa_at ea hx1⟩
    have e2 := (elem_in ea ec (Term.index_eval j) hcl).2
    have e3 : j.toInt32.toNatClampNeg = j := by rw [Int32.toNatClampNeg, len_toInt (by omega)]; simp
    rw [e3] at e2
    exact e2
  obtain ⟨n, o, h1, h2, h3, _, L, rfl, ⟨rfl, N⟩, hq⟩ := rm0 l s _ hw tables_1 i0 i1 i2 i3 i4 i5 ca cl s.heap s.heap.size (Nat.le_refl _) SC ⟨hcl, harr, hvm⟩ hsz' Hc (Old.start s) p e ha hc hk s m _ below hf ((Spec.applies_iff_loose hf).mp happ).1 ⟨rfl, State.Warmed39.refl s, rfl⟩ trivial
  refine ⟨n, _, h1, h2, h3, hpost _ _ _ _ _ _ ⟨Cond.after_iff.mpr rfl, Cond.after_iff.mpr (eq_i res_at (Term.int_eval (1)) rfl), trivial⟩ ⟨hq.1, hq.2.1, (hq.2.2.sift fun y hy => Or.inr (N y hy)).mono (by decide) (by decide)⟩⟩
theorem main_1_1 : Claimed_1_1 := comes_1 fun _ _ _ _ _ _ h hF => ⟨h.1, hF⟩
theorem main_1_2 : Claimed_1_2 := comes_1 fun _ _ _ _ _ _ h hF => ⟨h.2.1, hF⟩
end Jvm.Pilot.@@N@@
namespace Jvm.Pilot.@@N@@
open Jvm Jvm.ClassFile Sem Op Lib Jvm.Free Jvm.Stand Jvm.Pilot.@@N@@.Jvm.D
/-! MADE BY PROGRAM (witnessworld.py) out of the Statement's table words and the real class files: 17 classes; the members and pool entries that the words name. The judged class is class 1, her method 1. -/
namespace start1
open Jvm.ClassFile
def u (s : String) : CpInfo := .utf8 (stringToUtf16 s)
/-- a pool by its gaps: so many unusable entries, then the entry; so many at the end -/
def gap : Nat → List CpInfo → List CpInfo
  | 0, r => r
  | n + 1, r => .unusable :: gap n r
def poolList (es : List (Nat × CpInfo)) (last : Nat) : List CpInfo := es.foldr (fun e r => gap e.1 (e.2 :: r)) (gap last [])
def pool (es : List (Nat × CpInfo)) (last : Nat) : Array CpInfo := ⟨poolList es last⟩
def fileOf (pool : Array CpInfo) (this : Nat) (attrs : Array Attribute := #[]) (ms : Array MethodInfo := #[]) (fl : Nat := 33) (sup : Nat := 0) (ifs : Array Nat := #[]) (fds : Array FieldInfo := #[]) : ClassFile where
  minorVersion := 0
  majorVersion := 65
  constantPool := pool
  accessFlags := fl
  thisClass := this
  superClass := sup
  interfaces := ifs
  fields := fds
  methods := ms
  attributes := attrs
def plain (name : String) (sup : Option ClassId) : Class where
  name := name
  kind := .ordinary
  loader := none
  accessFlags := 33
  super := sup
  interfaces := #[]
  cf := none
  fields := #[]
  methods := #[]
  instanceTypes := #[]
  staticTypes := #[]
  resolved := #[]
  callSites := []
  init := .initialized
  statics := none
  mirror := none

def pool0 : Array CpInfo := pool [(5, u "<init>"), (0, u "()V"), (1, .class_ 10), (1, u "java/lang/Object")] 113

def k0c0 : Code := { maxStack := 0, maxLocals := 1, code := object_method_1_code, exceptionTable := #[], attributes := #[] }
def k0m0 : Method := { name := "<init>", desc := "()V", sig := { parameters := [], returnType := none }, accessFlags := 1, code := some k0c0 }
/-- java/lang/Object -/
def k0 : Class := { plain "java/lang/Object" none with
  accessFlags := 33
  interfaces := #[]
  cf := some (fileOf pool0 8 #[] #[{ accessFlags := 1, nameIndex := 5, descriptorIndex := 6, attributes := #[] }] 33 0 #[] #[])
  fields := #[]
  methods := #[k0m0]
  instanceTypes := #[]
  staticTypes := #[]
  resolved := Array.replicate 124 none
  statics := none }

def pool1 : Array CpInfo := pool [(2, .class_ 4), (1, u "java/lang/Object"), (0, u "<init>"), (0, u "()V"), (0, .class_ 8), (0, u "com/example/tideline/tideline/session/FetchSession$Sent"), (0, .methodref 7 10), (0, .nameAndType 5 11), (0, u "(JJII)V"), (0, .methodref 7 13), (0, .nameAndType 14 15), (0, u "equals"), (0, u "(Ljava/lang/Object;)Z"), (0, .methodref 17 18), (0, .class_ 19), (0, .nameAndType 20 21), (0, u "java/lang/Long"), (0, u "valueOf"), (0, u "(J)Ljava/lang/Long;"), (0, .class_ 23), (0, u "com/example/tideline/tideline/session/SentEqualsPinLaw"), (2, u "law"), (0, u "(JJIIJI)Z")] 7

def k1m0 : Method := { name := "<init>", desc := "()V", sig := { parameters := [], returnType := none }, accessFlags := 1, code := none }
def k1c1 : Code := { maxStack := 8, maxLocals := 20, code := code, exceptionTable := #[], attributes := #[] }
def k1m1 : Method := { name := "law", desc := "(JJIIJI)Z", sig := { parameters := [.long, .long, .int, .int, .long, .int], returnType := some .boolean }, accessFlags := 9, code := some k1c1 }
/-- com/example/tideline/tideline/session/SentEqualsPinLaw -/
def k1 : Class := { plain "com/example/tideline/tideline/session/SentEqualsPinLaw" (some 0) with
  accessFlags := 49
  interfaces := #[]
  cf := some (fileOf pool1 22 #[] #[{ accessFlags := 1, nameIndex := 5, descriptorIndex := 6, attributes := #[] }, { accessFlags := 9, nameIndex := 26, descriptorIndex := 27, attributes := #[] }] 49 2 #[] #[])
  fields := #[]
  methods := #[k1m0, k1m1]
  instanceTypes := #[]
  staticTypes := #[]
  resolved := Array.replicate 35 none
  statics := none }

def pool2 : Array CpInfo := pool [(1, .methodref 2 3), (0, .class_ 4), (0, .nameAndType 5 6), (0, u "java/lang/Object"), (0, u "<init>"), (0, u "()V"), (0, .class_ 8), (0, u "java/lang/Record")] 13

def k2c0 : Code := { maxStack := 1, maxLocals := 1, code := jdk_30_method_1_code, exceptionTable := #[], attributes := #[] }
def k2m0 : Method := { name := "<init>", desc := "()V", sig := { parameters := [], returnType := none }, accessFlags := 4, code := some k2c0 }
/-- java/lang/Record -/
def k2 : Class := { plain "java/lang/Record" (some 0) with
  accessFlags := 1057
  interfaces := #[]
  cf := some (fileOf pool2 7 #[] #[{ accessFlags := 4, nameIndex := 5, descriptorIndex := 6, attributes := #[] }] 1057 2 #[] #[])
  fields := #[]
  methods := #[k2m0]
  instanceTypes := #[]
  staticTypes := #[]
  resolved := Array.replicate 22 none
  statics := none }

def pool3 : Array CpInfo := pool [(1, .methodref 2 3), (0, .class_ 4), (0, .nameAndType 5 6), (0, u "java/lang/Record"), (0, u "<init>"), (0, u "()V"), (0, .fieldref 8 9), (0, .class_ 10), (0, .nameAndType 11 12), (0, u "com/example/tideline/tideline/session/FetchSession$Sent"), (0, u "fetchOffset"), (0, u "J"), (0, .fieldref 8 14), (0, .nameAndType 15 12), (0, u "logStartOffset"), (0, .fieldref 8 17), (0, .nameAndType 18 19), (0, u "maxBytes"), (0, u "I"), (0, .fieldref 8 21), (0, .nameAndType 22 19), (0, u "leaderEpoch"), (12, u "(JJII)V"), (3, u "equals"), (0, u "(Ljava/lang/Object;)Z"), (7, .class_ 49), (0, u "com/example/tideline/tideline/session/FetchSession")] 22

def k3c0 : Code := { maxStack := 3, maxLocals := 7, code := prog_250_method_1_code, exceptionTable := #[], attributes := #[] }
def k3m0 : Method := { name := "<init>", desc := "(JJII)V", sig := { parameters := [.long, .long, .int, .int], returnType := none }, accessFlags := 1, code := some k3c0 }
def k3c1 : Code := { maxStack := 4, maxLocals := 3, code := prog_250_method_2_code, exceptionTable := #[], attributes := #[] }
def k3m1 : Method := { name := "equals", desc := "(Ljava/lang/Object;)Z", sig := { parameters := [(.object "java/lang/Object")], returnType := some .boolean }, accessFlags := 1, code := some k3c1 }
/-- com/example/tideline/tideline/session/FetchSession$Sent -/
def k3 : Class := { plain "com/example/tideline/tideline/session/FetchSession$Sent" (some 2) with
  accessFlags := 49
  interfaces := #[]
  cf := some (fileOf pool3 8 #[.nestHost 48] #[{ accessFlags := 1, nameIndex := 5, descriptorIndex := 35, attributes := #[] }, { accessFlags := 1, nameIndex := 39, descriptorIndex := 40, attributes := #[] }] 49 2 #[] #[{ accessFlags := 18, nameIndex := 11, descriptorIndex := 12, attributes := #[] }, { accessFlags := 18, nameIndex := 15, descriptorIndex := 12, attributes := #[] }, { accessFlags := 18, nameIndex := 18, descriptorIndex := 19, attributes := #[] }, { accessFlags := 18, nameIndex := 22, descriptorIndex := 19, attributes := #[] }])
  fields := #[{ name := "fetchOffset", type := .long, accessFlags := 18, slot := 0, constantValue := 0 }, { name := "logStartOffset", type := .long, accessFlags := 18, slot := 1, constantValue := 0 }, { name := "maxBytes", type := .int, accessFlags := 18, slot := 2, constantValue := 0 }, { name := "leaderEpoch", type := .int, accessFlags := 18, slot := 3, constantValue := 0 }]
  methods := #[k3m0, k3m1]
  instanceTypes := #[.long, .long, .int, .int]
  staticTypes := #[]
  resolved := Array.replicate 72 none
  statics := none }

def pool4 : Array CpInfo := pool [(1, .class_ 2), (0, u "java/io/Serializable"), (0, .class_ 4), (0, u "java/lang/Object")] 2

/-- java/io/Serializable -/
def k4 : Class := { plain "java/io/Serializable" (some 0) with
  accessFlags := 1537
  interfaces := #[]
  cf := some (fileOf pool4 1 #[] #[] 1537 3 #[] #[])
  fields := #[]
  methods := #[]
  instanceTypes := #[]
  staticTypes := #[]
  resolved := Array.replicate 7 none
  statics := none }

def pool5 : Array CpInfo := pool [(1, .methodref 2 3), (0, .class_ 4), (0, .nameAndType 5 6), (0, u "java/lang/Object"), (0, u "<init>"), (0, u "()V"), (1, .class_ 10), (1, u "java/lang/Number"), (2, .class_ 14), (0, u "java/io/Serializable"), (0, u "serialVersionUID"), (0, u "J")] 20

def k5c0 : Code := { maxStack := 1, maxLocals := 1, code := jdk_18_method_1_code, exceptionTable := #[], attributes := #[] }
def k5m0 : Method := { name := "<init>", desc := "()V", sig := { parameters := [], returnType := none }, accessFlags := 1, code := some k5c0 }
/-- java/lang/Number -/
def k5 : Class := { plain "java/lang/Number" (some 0) with
  accessFlags := 1057
  interfaces := #[4]
  cf := some (fileOf pool5 8 #[] #[{ accessFlags := 1, nameIndex := 5, descriptorIndex := 6, attributes := #[] }] 1057 2 #[13] #[{ accessFlags := 26, nameIndex := 15, descriptorIndex := 16, attributes := #[] }])
  fields := #[{ name := "serialVersionUID", type := .long, accessFlags := 26, slot := 0, constantValue := 0 }]
  methods := #[k5m0]
  instanceTypes := #[]
  staticTypes := #[.long]
  resolved := Array.replicate 37 none
  statics := none }

def pool6 : Array CpInfo := pool [(1, .class_ 2), (0, u "java/lang/Comparable"), (0, .class_ 4), (0, u "java/lang/Object")] 7

/-- java/lang/Comparable -/
def k6 : Class := { plain "java/lang/Comparable" (some 0) with
  accessFlags := 1537
  interfaces := #[]
  cf := some (fileOf pool6 1 #[] #[] 1537 3 #[] #[])
  fields := #[]
  methods := #[]
  instanceTypes := #[]
  staticTypes := #[]
  resolved := Array.replicate 12 none
  statics := none }

def pool7 : Array CpInfo := pool [(1, .class_ 2), (0, u "java/lang/constant/Constable"), (0, .class_ 4), (0, u "java/lang/Object")] 6

/-- java/lang/constant/Constable -/
def k7 : Class := { plain "java/lang/constant/Constable" (some 0) with
  accessFlags := 1537
  interfaces := #[]
  cf := some (fileOf pool7 1 #[] #[] 1537 3 #[] #[])
  fields := #[]
  methods := #[]
  instanceTypes := #[]
  staticTypes := #[]
  resolved := Array.replicate 11 none
  statics := none }

def pool8 : Array CpInfo := pool [(1, .class_ 2), (0, u "java/lang/constant/ConstantDesc"), (0, .class_ 4), (0, u "java/lang/Object")] 32

/-- java/lang/constant/ConstantDesc -/
def k8 : Class := { plain "java/lang/constant/ConstantDesc" (some 0) with
  accessFlags := 1537
  interfaces := #[]
  cf := some (fileOf pool8 1 #[] #[] 1537 3 #[] #[])
  fields := #[]
  methods := #[]
  instanceTypes := #[]
  staticTypes := #[]
  resolved := Array.replicate 37 none
  statics := none }

def pool9 : Array CpInfo := pool [(1, .class_ 2), (0, u "java/lang/Long"), (55, .nameAndType 59 60), (0, u "<init>"), (0, u "()V"), (24, u "valueOf"), (143, u "(J)Ljava/lang/Long;"), (0, .long 18446744073709551488), (1, .long 127), (1, .fieldref 235 236), (0, .class_ 237), (0, .nameAndType 238 239), (0, u "java/lang/Long$LongCache"), (0, u "cache"), (0, u "[Ljava/lang/Long;"), (0, .methodref 1 241), (0, .nameAndType 59 242), (0, u "(J)V"), (27, .methodref 271 58), (0, .class_ 272), (0, u "java/lang/Number"), (0, .fieldref 1 274), (0, .nameAndType 275 276), (0, u "value"), (0, u "J"), (84, u "TYPE"), (0, u "Ljava/lang/Class;"), (0, .class_ 364), (0, u "java/lang/Comparable"), (0, .class_ 366), (0, u "java/lang/constant/Constable"), (0, .class_ 368), (0, u "java/lang/constant/ConstantDesc"), (0, u "MIN_VALUE"), (1, u "MAX_VALUE"), (4, u "SIZE"), (0, u "I"), (1, u "BYTES"), (1, u "serialVersionUID")] 142

def k9c0 : Code := { maxStack := 4, maxLocals := 3, code := jdk_35_method_24_code, exceptionTable := #[], attributes := #[] }
def k9m0 : Method := { name := "valueOf", desc := "(J)Ljava/lang/Long;", sig := { parameters := [.long], returnType := some (.object "java/lang/Long") }, accessFlags := 9, code := some k9c0 }
def k9c1 : Code := { maxStack := 3, maxLocals := 3, code := jdk_35_method_26_code, exceptionTable := #[], attributes := #[] }
def k9m1 : Method := { name := "<init>", desc := "(J)V", sig := { parameters := [.long], returnType := none }, accessFlags := 1, code := some k9c1 }
/-- java/lang/Long -/
def k9 : Class := { plain "java/lang/Long" (some 5) with
  accessFlags := 49
  interfaces := #[6, 7, 8]
  cf := some (fileOf pool9 1 #[.nestMembers #[235]] #[{ accessFlags := 9, nameIndex := 85, descriptorIndex := 229, attributes := #[] }, { accessFlags := 1, nameIndex := 59, descriptorIndex := 242, attributes := #[] }] 49 271 #[363, 365, 367] #[{ accessFlags := 25, nameIndex := 369, descriptorIndex := 276, attributes := #[] }, { accessFlags := 25, nameIndex := 371, descriptorIndex := 276, attributes := #[] }, { accessFlags := 25, nameIndex := 361, descriptorIndex := 362, attributes := #[] }, { accessFlags := 18, nameIndex := 275, descriptorIndex := 276, attributes := #[] }, { accessFlags := 25, nameIndex := 376, descriptorIndex := 377, attributes := #[] }, { accessFlags := 25, nameIndex := 379, descriptorIndex := 377, attributes := #[] }, { accessFlags := 26, nameIndex := 381, descriptorIndex := 276, attributes := #[] }])
  fields := #[{ name := "MIN_VALUE", type := .long, accessFlags := 25, slot := 0, constantValue := 0 }, { name := "MAX_VALUE", type := .long, accessFlags := 25, slot := 1, constantValue := 0 }, { name := "TYPE", type := (.object "java/lang/Class"), accessFlags := 25, slot := 2, constantValue := 0 }, { name := "value", type := .long, accessFlags := 18, slot := 0, constantValue := 0 }, { name := "SIZE", type := .int, accessFlags := 25, slot := 3, constantValue := 0 }, { name := "BYTES", type := .int, accessFlags := 25, slot := 4, constantValue := 0 }, { name := "serialVersionUID", type := .long, accessFlags := 26, slot := 5, constantValue := 0 }]
  methods := #[k9m0, k9m1]
  instanceTypes := #[.long]
  staticTypes := #[.long, .long, (.object "java/lang/Class"), .int, .int, .long]
  resolved := Array.replicate 524 none
  statics := none }

def pool10 : Array CpInfo := pool [(2, .class_ 4), (1, u "java/lang/Object"), (0, u "<init>"), (0, u "()V"), (0, .class_ 8), (0, u "java/lang/Long"), (7, .class_ 18), (1, u "java/lang/Long$LongCache"), (0, u "$assertionsDisabled"), (0, u "Z"), (8, u "archivedCache"), (0, u "[Ljava/lang/Long;"), (7, u "cache")] 24

def k10m0 : Method := { name := "<init>", desc := "()V", sig := { parameters := [], returnType := none }, accessFlags := 2, code := none }
/-- java/lang/Long$LongCache -/
def k10 : Class := { plain "java/lang/Long$LongCache" (some 0) with
  accessFlags := 48
  interfaces := #[]
  cf := some (fileOf pool10 16 #[.nestHost 7] #[{ accessFlags := 2, nameIndex := 5, descriptorIndex := 6, attributes := #[] }] 48 2 #[] #[{ accessFlags := 24, nameIndex := 38, descriptorIndex := 30, attributes := #[] }, { accessFlags := 8, nameIndex := 29, descriptorIndex := 30, attributes := #[] }, { accessFlags := 4120, nameIndex := 19, descriptorIndex := 20, attributes := #[] }])
  fields := #[{ name := "cache", type := (.array (.object "java/lang/Long")), accessFlags := 24, slot := 0, constantValue := 0 }, { name := "archivedCache", type := (.array (.object "java/lang/Long")), accessFlags := 8, slot := 1, constantValue := 0 }, { name := "$assertionsDisabled", type := .boolean, accessFlags := 4120, slot := 2, constantValue := 0 }]
  methods := #[k10m0]
  instanceTypes := #[]
  staticTypes := #[(.array (.object "java/lang/Long")), (.array (.object "java/lang/Long")), .boolean]
  resolved := Array.replicate 63 none
  statics := some 0 }

def pool11 : Array CpInfo := pool [(1, u "java/lang/Cloneable"), (0, .class_ 1), (0, u "java/lang/Object"), (0, .class_ 3)] 3

/-- java/lang/Cloneable -/
def k11 : Class := { plain "java/lang/Cloneable" (some 0) with
  accessFlags := 1537
  interfaces := #[]
  cf := some (fileOf pool11 2 #[] #[] 1537 4 #[] #[])
  fields := #[]
  methods := #[]
  instanceTypes := #[]
  staticTypes := #[]
  resolved := Array.replicate 8 none
  statics := none }

/-- the primitive byte -/
def k12 : Class := { plain "byte" none with kind := .primitive 'B', accessFlags := 0x411 }
/-- [B -/
def k13 : Class := { plain "[B" (some 0) with kind := .array 12 .byte, interfaces := #[11, 4], accessFlags := 1041 }

/-- the primitive int -/
def k14 : Class := { plain "int" none with kind := .primitive 'I', accessFlags := 0x411 }
/-- [I -/
def k15 : Class := { plain "[I" (some 0) with kind := .array 14 .int, interfaces := #[11, 4], accessFlags := 1041 }

/-- [Ljava/lang/Long; -/
def k16 : Class := { plain "[Ljava/lang/Long;" (some 0) with kind := .array 9 (.object "java/lang/Long"), interfaces := #[11, 4], accessFlags := 1041 }

def heap : Heap := #[{ cls := 10, slots := #[.ref 1, .null, .int 0], vm := .statics 10 },
  { cls := 16, slots := #[.ref 2, .ref 3, .ref 4, .ref 5, .ref 6, .ref 7, .ref 8, .ref 9, .ref 10, .ref 11, .ref 12, .ref 13, .ref 14, .ref 15, .ref 16, .ref 17, .ref 18, .ref 19, .ref 20, .ref 21, .ref 22, .ref 23, .ref 24, .ref 25, .ref 26, .ref 27, .ref 28, .ref 29, .ref 30, .ref 31, .ref 32, .ref 33, .ref 34, .ref 35, .ref 36, .ref 37, .ref 38, .ref 39, .ref 40, .ref 41, .ref 42, .ref 43, .ref 44, .ref 45, .ref 46, .ref 47, .ref 48, .ref 49, .ref 50, .ref 51, .ref 52, .ref 53, .ref 54, .ref 55, .ref 56, .ref 57, .ref 58, .ref 59, .ref 60, .ref 61, .ref 62, .ref 63, .ref 64, .ref 65, .ref 66, .ref 67, .ref 68, .ref 69, .ref 70, .ref 71, .ref 72, .ref 73, .ref 74, .ref 75, .ref 76, .ref 77, .ref 78, .ref 79, .ref 80, .ref 81, .ref 82, .ref 83, .ref 84, .ref 85, .ref 86, .ref 87, .ref 88, .ref 89, .ref 90, .ref 91, .ref 92, .ref 93, .ref 94, .ref 95, .ref 96, .ref 97, .ref 98, .ref 99, .ref 100, .ref 101, .ref 102, .ref 103, .ref 104, .ref 105, .ref 106, .ref 107, .ref 108, .ref 109, .ref 110, .ref 111, .ref 112, .ref 113, .ref 114, .ref 115, .ref 116, .ref 117, .ref 118, .ref 119, .ref 120, .ref 121, .ref 122, .ref 123, .ref 124, .ref 125, .ref 126, .ref 127, .ref 128, .ref 129, .ref 130, .ref 131, .ref 132, .ref 133, .ref 134, .ref 135, .ref 136, .ref 137, .ref 138, .ref 139, .ref 140, .ref 141, .ref 142, .ref 143, .ref 144, .ref 145, .ref 146, .ref 147, .ref 148, .ref 149, .ref 150, .ref 151, .ref 152, .ref 153, .ref 154, .ref 155, .ref 156, .ref 157, .ref 158, .ref 159, .ref 160, .ref 161, .ref 162, .ref 163, .ref 164, .ref 165, .ref 166, .ref 167, .ref 168, .ref 169, .ref 170, .ref 171, .ref 172, .ref 173, .ref 174, .ref 175, .ref 176, .ref 177, .ref 178, .ref 179, .ref 180, .ref 181, .ref 182, .ref 183, .ref 184, .ref 185, .ref 186, .ref 187, .ref 188, .ref 189, .ref 190, .ref 191, .ref 192, .ref 193, .ref 194, .ref 195, .ref 196, .ref 197, .ref 198, .ref 199, .ref 200, .ref 201, .ref 202, .ref 203, .ref 204, .ref 205, .ref 206, .ref 207, .ref 208, .ref 209, .ref 210, .ref 211, .ref 212, .ref 213, .ref 214, .ref 215, .ref 216, .ref 217, .ref 218, .ref 219, .ref 220, .ref 221, .ref 222, .ref 223, .ref 224, .ref 225, .ref 226, .ref 227, .ref 228, .ref 229, .ref 230, .ref 231, .ref 232, .ref 233, .ref 234, .ref 235, .ref 236, .ref 237, .ref 238, .ref 239, .ref 240, .ref 241, .ref 242, .ref 243, .ref 244, .ref 245, .ref 246, .ref 247, .ref 248, .ref 249, .ref 250, .ref 251, .ref 252, .ref 253, .ref 254, .ref 255, .ref 256, .ref 257], vm := .none },
  { cls := 9, slots := #[.long (-128)], vm := .none },
  { cls := 9, slots := #[.long (-127)], vm := .none },
  { cls := 9, slots := #[.long (-126)], vm := .none },
  { cls := 9, slots := #[.long (-125)], vm := .none },
  { cls := 9, slots := #[.long (-124)], vm := .none },
  { cls := 9, slots := #[.long (-123)], vm := .none },
  { cls := 9, slots := #[.long (-122)], vm := .none },
  { cls := 9, slots := #[.long (-121)], vm := .none },
  { cls := 9, slots := #[.long (-120)], vm := .none },
  { cls := 9, slots := #[.long (-119)], vm := .none },
  { cls := 9, slots := #[.long (-118)], vm := .none },
  { cls := 9, slots := #[.long (-117)], vm := .none },
  { cls := 9, slots := #[.long (-116)], vm := .none },
  { cls := 9, slots := #[.long (-115)], vm := .none },
  { cls := 9, slots := #[.long (-114)], vm := .none },
  { cls := 9, slots := #[.long (-113)], vm := .none },
  { cls := 9, slots := #[.long (-112)], vm := .none },
  { cls := 9, slots := #[.long (-111)], vm := .none },
  { cls := 9, slots := #[.long (-110)], vm := .none },
  { cls := 9, slots := #[.long (-109)], vm := .none },
  { cls := 9, slots := #[.long (-108)], vm := .none },
  { cls := 9, slots := #[.long (-107)], vm := .none },
  { cls := 9, slots := #[.long (-106)], vm := .none },
  { cls := 9, slots := #[.long (-105)], vm := .none },
  { cls := 9, slots := #[.long (-104)], vm := .none },
  { cls := 9, slots := #[.long (-103)], vm := .none },
  { cls := 9, slots := #[.long (-102)], vm := .none },
  { cls := 9, slots := #[.long (-101)], vm := .none },
  { cls := 9, slots := #[.long (-100)], vm := .none },
  { cls := 9, slots := #[.long (-99)], vm := .none },
  { cls := 9, slots := #[.long (-98)], vm := .none },
  { cls := 9, slots := #[.long (-97)], vm := .none },
  { cls := 9, slots := #[.long (-96)], vm := .none },
  { cls := 9, slots := #[.long (-95)], vm := .none },
  { cls := 9, slots := #[.long (-94)], vm := .none },
  { cls := 9, slots := #[.long (-93)], vm := .none },
  { cls := 9, slots := #[.long (-92)], vm := .none },
  { cls := 9, slots := #[.long (-91)], vm := .none },
  { cls := 9, slots := #[.long (-90)], vm := .none },
  { cls := 9, slots := #[.long (-89)], vm := .none },
  { cls := 9, slots := #[.long (-88)], vm := .none },
  { cls := 9, slots := #[.long (-87)], vm := .none },
  { cls := 9, slots := #[.long (-86)], vm := .none },
  { cls := 9, slots := #[.long (-85)], vm := .none },
  { cls := 9, slots := #[.long (-84)], vm := .none },
  { cls := 9, slots := #[.long (-83)], vm := .none },
  { cls := 9, slots := #[.long (-82)], vm := .none },
  { cls := 9, slots := #[.long (-81)], vm := .none },
  { cls := 9, slots := #[.long (-80)], vm := .none },
  { cls := 9, slots := #[.long (-79)], vm := .none },
  { cls := 9, slots := #[.long (-78)], vm := .none },
  { cls := 9, slots := #[.long (-77)], vm := .none },
  { cls := 9, slots := #[.long (-76)], vm := .none },
  { cls := 9, slots := #[.long (-75)], vm := .none },
  { cls := 9, slots := #[.long (-74)], vm := .none },
  { cls := 9, slots := #[.long (-73)], vm := .none },
  { cls := 9, slots := #[.long (-72)], vm := .none },
  { cls := 9, slots := #[.long (-71)], vm := .none },
  { cls := 9, slots := #[.long (-70)], vm := .none },
  { cls := 9, slots := #[.long (-69)], vm := .none },
  { cls := 9, slots := #[.long (-68)], vm := .none },
  { cls := 9, slots := #[.long (-67)], vm := .none },
  { cls := 9, slots := #[.long (-66)], vm := .none },
  { cls := 9, slots := #[.long (-65)], vm := .none },
  { cls := 9, slots := #[.long (-64)], vm := .none },
  { cls := 9, slots := #[.long (-63)], vm := .none },
  { cls := 9, slots := #[.long (-62)], vm := .none },
  { cls := 9, slots := #[.long (-61)], vm := .none },
  { cls := 9, slots := #[.long (-60)], vm := .none },
  { cls := 9, slots := #[.long (-59)], vm := .none },
  { cls := 9, slots := #[.long (-58)], vm := .none },
  { cls := 9, slots := #[.long (-57)], vm := .none },
  { cls := 9, slots := #[.long (-56)], vm := .none },
  { cls := 9, slots := #[.long (-55)], vm := .none },
  { cls := 9, slots := #[.long (-54)], vm := .none },
  { cls := 9, slots := #[.long (-53)], vm := .none },
  { cls := 9, slots := #[.long (-52)], vm := .none },
  { cls := 9, slots := #[.long (-51)], vm := .none },
  { cls := 9, slots := #[.long (-50)], vm := .none },
  { cls := 9, slots := #[.long (-49)], vm := .none },
  { cls := 9, slots := #[.long (-48)], vm := .none },
  { cls := 9, slots := #[.long (-47)], vm := .none },
  { cls := 9, slots := #[.long (-46)], vm := .none },
  { cls := 9, slots := #[.long (-45)], vm := .none },
  { cls := 9, slots := #[.long (-44)], vm := .none },
  { cls := 9, slots := #[.long (-43)], vm := .none },
  { cls := 9, slots := #[.long (-42)], vm := .none },
  { cls := 9, slots := #[.long (-41)], vm := .none },
  { cls := 9, slots := #[.long (-40)], vm := .none },
  { cls := 9, slots := #[.long (-39)], vm := .none },
  { cls := 9, slots := #[.long (-38)], vm := .none },
  { cls := 9, slots := #[.long (-37)], vm := .none },
  { cls := 9, slots := #[.long (-36)], vm := .none },
  { cls := 9, slots := #[.long (-35)], vm := .none },
  { cls := 9, slots := #[.long (-34)], vm := .none },
  { cls := 9, slots := #[.long (-33)], vm := .none },
  { cls := 9, slots := #[.long (-32)], vm := .none },
  { cls := 9, slots := #[.long (-31)], vm := .none },
  { cls := 9, slots := #[.long (-30)], vm := .none },
  { cls := 9, slots := #[.long (-29)], vm := .none },
  { cls := 9, slots := #[.long (-28)], vm := .none },
  { cls := 9, slots := #[.long (-27)], vm := .none },
  { cls := 9, slots := #[.long (-26)], vm := .none },
  { cls := 9, slots := #[.long (-25)], vm := .none },
  { cls := 9, slots := #[.long (-24)], vm := .none },
  { cls := 9, slots := #[.long (-23)], vm := .none },
  { cls := 9, slots := #[.long (-22)], vm := .none },
  { cls := 9, slots := #[.long (-21)], vm := .none },
  { cls := 9, slots := #[.long (-20)], vm := .none },
  { cls := 9, slots := #[.long (-19)], vm := .none },
  { cls := 9, slots := #[.long (-18)], vm := .none },
  { cls := 9, slots := #[.long (-17)], vm := .none },
  { cls := 9, slots := #[.long (-16)], vm := .none },
  { cls := 9, slots := #[.long (-15)], vm := .none },
  { cls := 9, slots := #[.long (-14)], vm := .none },
  { cls := 9, slots := #[.long (-13)], vm := .none },
  { cls := 9, slots := #[.long (-12)], vm := .none },
  { cls := 9, slots := #[.long (-11)], vm := .none },
  { cls := 9, slots := #[.long (-10)], vm := .none },
  { cls := 9, slots := #[.long (-9)], vm := .none },
  { cls := 9, slots := #[.long (-8)], vm := .none },
  { cls := 9, slots := #[.long (-7)], vm := .none },
  { cls := 9, slots := #[.long (-6)], vm := .none },
  { cls := 9, slots := #[.long (-5)], vm := .none },
  { cls := 9, slots := #[.long (-4)], vm := .none },
  { cls := 9, slots := #[.long (-3)], vm := .none },
  { cls := 9, slots := #[.long (-2)], vm := .none },
  { cls := 9, slots := #[.long (-1)], vm := .none },
  { cls := 9, slots := #[.long 0], vm := .none },
  { cls := 9, slots := #[.long 1], vm := .none },
  { cls := 9, slots := #[.long 2], vm := .none },
  { cls := 9, slots := #[.long 3], vm := .none },
  { cls := 9, slots := #[.long 4], vm := .none },
  { cls := 9, slots := #[.long 5], vm := .none },
  { cls := 9, slots := #[.long 6], vm := .none },
  { cls := 9, slots := #[.long 7], vm := .none },
  { cls := 9, slots := #[.long 8], vm := .none },
  { cls := 9, slots := #[.long 9], vm := .none },
  { cls := 9, slots := #[.long 10], vm := .none },
  { cls := 9, slots := #[.long 11], vm := .none },
  { cls := 9, slots := #[.long 12], vm := .none },
  { cls := 9, slots := #[.long 13], vm := .none },
  { cls := 9, slots := #[.long 14], vm := .none },
  { cls := 9, slots := #[.long 15], vm := .none },
  { cls := 9, slots := #[.long 16], vm := .none },
  { cls := 9, slots := #[.long 17], vm := .none },
  { cls := 9, slots := #[.long 18], vm := .none },
  { cls := 9, slots := #[.long 19], vm := .none },
  { cls := 9, slots := #[.long 20], vm := .none },
  { cls := 9, slots := #[.long 21], vm := .none },
  { cls := 9, slots := #[.long 22], vm := .none },
  { cls := 9, slots := #[.long 23], vm := .none },
  { cls := 9, slots := #[.long 24], vm := .none },
  { cls := 9, slots := #[.long 25], vm := .none },
  { cls := 9, slots := #[.long 26], vm := .none },
  { cls := 9, slots := #[.long 27], vm := .none },
  { cls := 9, slots := #[.long 28], vm := .none },
  { cls := 9, slots := #[.long 29], vm := .none },
  { cls := 9, slots := #[.long 30], vm := .none },
  { cls := 9, slots := #[.long 31], vm := .none },
  { cls := 9, slots := #[.long 32], vm := .none },
  { cls := 9, slots := #[.long 33], vm := .none },
  { cls := 9, slots := #[.long 34], vm := .none },
  { cls := 9, slots := #[.long 35], vm := .none },
  { cls := 9, slots := #[.long 36], vm := .none },
  { cls := 9, slots := #[.long 37], vm := .none },
  { cls := 9, slots := #[.long 38], vm := .none },
  { cls := 9, slots := #[.long 39], vm := .none },
  { cls := 9, slots := #[.long 40], vm := .none },
  { cls := 9, slots := #[.long 41], vm := .none },
  { cls := 9, slots := #[.long 42], vm := .none },
  { cls := 9, slots := #[.long 43], vm := .none },
  { cls := 9, slots := #[.long 44], vm := .none },
  { cls := 9, slots := #[.long 45], vm := .none },
  { cls := 9, slots := #[.long 46], vm := .none },
  { cls := 9, slots := #[.long 47], vm := .none },
  { cls := 9, slots := #[.long 48], vm := .none },
  { cls := 9, slots := #[.long 49], vm := .none },
  { cls := 9, slots := #[.long 50], vm := .none },
  { cls := 9, slots := #[.long 51], vm := .none },
  { cls := 9, slots := #[.long 52], vm := .none },
  { cls := 9, slots := #[.long 53], vm := .none },
  { cls := 9, slots := #[.long 54], vm := .none },
  { cls := 9, slots := #[.long 55], vm := .none },
  { cls := 9, slots := #[.long 56], vm := .none },
  { cls := 9, slots := #[.long 57], vm := .none },
  { cls := 9, slots := #[.long 58], vm := .none },
  { cls := 9, slots := #[.long 59], vm := .none },
  { cls := 9, slots := #[.long 60], vm := .none },
  { cls := 9, slots := #[.long 61], vm := .none },
  { cls := 9, slots := #[.long 62], vm := .none },
  { cls := 9, slots := #[.long 63], vm := .none },
  { cls := 9, slots := #[.long 64], vm := .none },
  { cls := 9, slots := #[.long 65], vm := .none },
  { cls := 9, slots := #[.long 66], vm := .none },
  { cls := 9, slots := #[.long 67], vm := .none },
  { cls := 9, slots := #[.long 68], vm := .none },
  { cls := 9, slots := #[.long 69], vm := .none },
  { cls := 9, slots := #[.long 70], vm := .none },
  { cls := 9, slots := #[.long 71], vm := .none },
  { cls := 9, slots := #[.long 72], vm := .none },
  { cls := 9, slots := #[.long 73], vm := .none },
  { cls := 9, slots := #[.long 74], vm := .none },
  { cls := 9, slots := #[.long 75], vm := .none },
  { cls := 9, slots := #[.long 76], vm := .none },
  { cls := 9, slots := #[.long 77], vm := .none },
  { cls := 9, slots := #[.long 78], vm := .none },
  { cls := 9, slots := #[.long 79], vm := .none },
  { cls := 9, slots := #[.long 80], vm := .none },
  { cls := 9, slots := #[.long 81], vm := .none },
  { cls := 9, slots := #[.long 82], vm := .none },
  { cls := 9, slots := #[.long 83], vm := .none },
  { cls := 9, slots := #[.long 84], vm := .none },
  { cls := 9, slots := #[.long 85], vm := .none },
  { cls := 9, slots := #[.long 86], vm := .none },
  { cls := 9, slots := #[.long 87], vm := .none },
  { cls := 9, slots := #[.long 88], vm := .none },
  { cls := 9, slots := #[.long 89], vm := .none },
  { cls := 9, slots := #[.long 90], vm := .none },
  { cls := 9, slots := #[.long 91], vm := .none },
  { cls := 9, slots := #[.long 92], vm := .none },
  { cls := 9, slots := #[.long 93], vm := .none },
  { cls := 9, slots := #[.long 94], vm := .none },
  { cls := 9, slots := #[.long 95], vm := .none },
  { cls := 9, slots := #[.long 96], vm := .none },
  { cls := 9, slots := #[.long 97], vm := .none },
  { cls := 9, slots := #[.long 98], vm := .none },
  { cls := 9, slots := #[.long 99], vm := .none },
  { cls := 9, slots := #[.long 100], vm := .none },
  { cls := 9, slots := #[.long 101], vm := .none },
  { cls := 9, slots := #[.long 102], vm := .none },
  { cls := 9, slots := #[.long 103], vm := .none },
  { cls := 9, slots := #[.long 104], vm := .none },
  { cls := 9, slots := #[.long 105], vm := .none },
  { cls := 9, slots := #[.long 106], vm := .none },
  { cls := 9, slots := #[.long 107], vm := .none },
  { cls := 9, slots := #[.long 108], vm := .none },
  { cls := 9, slots := #[.long 109], vm := .none },
  { cls := 9, slots := #[.long 110], vm := .none },
  { cls := 9, slots := #[.long 111], vm := .none },
  { cls := 9, slots := #[.long 112], vm := .none },
  { cls := 9, slots := #[.long 113], vm := .none },
  { cls := 9, slots := #[.long 114], vm := .none },
  { cls := 9, slots := #[.long 115], vm := .none },
  { cls := 9, slots := #[.long 116], vm := .none },
  { cls := 9, slots := #[.long 117], vm := .none },
  { cls := 9, slots := #[.long 118], vm := .none },
  { cls := 9, slots := #[.long 119], vm := .none },
  { cls := 9, slots := #[.long 120], vm := .none },
  { cls := 9, slots := #[.long 121], vm := .none },
  { cls := 9, slots := #[.long 122], vm := .none },
  { cls := 9, slots := #[.long 123], vm := .none },
  { cls := 9, slots := #[.long 124], vm := .none },
  { cls := 9, slots := #[.long 125], vm := .none },
  { cls := 9, slots := #[.long 126], vm := .none },
  { cls := 9, slots := #[.long 127], vm := .none }]
def classes : Array Class := #[k0, k1, k2, k3, k4, k5, k6, k7, k8, k9, k10, k11, k12, k13, k14, k15, k16]
def interned : List (Array UInt16 × Addr) := []
def slotsUsed : Nat := 515
def theMethod : MethodId := ⟨1, 1⟩
def args0 : Array Value := #[.long 5, .long 6, .int 7, .int 8, .long 9, .int 0]
def aboutOver (below : List Frame) : State where
  vm := { classes := classes, interned := interned.toArray }
  heap := heap
  slotsUsed := slotsUsed
  threads := #[{ frames := .invoking theMethod args0 :: below }]
def below0 : List Frame := [.native { method := ⟨0, 0⟩, args := #[] }]
def about1 : State := aboutOver below0
def p0 : Program := .bare "" "" ""
def e0 : Env := launch0.env 0 0 0
theorem w_frames : about1.frames = Frame.invoking theMethod args0 :: below0 := rfl
set_option maxRecDepth 65536 in
theorem w_args : argsFit about1.vm theMethod args0 = true := by decide +kernel
set_option maxRecDepth 65536 in
theorem w_heap : heapFits about1 = true := by decide +kernel
set_option maxRecDepth 65536 in
theorem w_runnable : about1.curStatus? = some .runnable := by decide +kernel
set_option maxRecDepth 65536 in
theorem w_alone : about1.alone = true := by decide +kernel
set_option maxRecDepth 65536 in
theorem w_named : about1.methodNamed? x = some theMethod := by decide +kernel
set_option maxRecDepth 65536 in
theorem w_hears : about1.hears theMethod below0 = true := by decide +kernel
set_option maxRecDepth 65536 in
theorem w_ripe : about1.ripe theMethod args0 below0 = true := by decide +kernel
theorem w_running : about1.status = .running := rfl
set_option maxRecDepth 65536 in
theorem w_room : about1.hasRoom e0.platform room_1 = true :=
  launch0.hasRoom_least _ room_1 (by decide +kernel) (by decide +kernel) (by decide +kernel) (by decide +kernel) (by decide +kernel) (by decide +kernel)
theorem allAtoms_all (ts : List Jvm.Cond) (a : Array Jvm.Value) (st : Jvm.State) : (allAtoms ts).before a st = ts.all (fun c => c.before a st) := by
  induction ts with
  | nil => rfl
  | cons c t ih =>
    show (Jvm.Cond.and c (allAtoms t)).before a st = _
    rw [Jvm.Cond.before_and, ih, List.all_cons]
def words1 : List Jvm.Cond := Jvm.Cond.code x code maxLocals ret :: tables_1
/-- a 'code' word, met by the world's own term for the bytes: nothing is compared byte by byte -/
theorem code_word {y : MethodName} {bytes : ByteArray} {mx : Nat} {rt : Option FieldType} {a : Array Value} {s : State} {m : MethodId} {meth : Method} {c : Code} (h1 : s.methodNamed? y = some m) (h2 : s.vm.method? m = some meth) (h3 : meth.code = some c) (h4 : c.code = bytes)
    (h5 : (c.maxLocals == mx && c.exceptionTable.isEmpty && decide (c.maxStack ≤ mostOperands) && decide (meth.sig.returnType = rt) && !meth.locks && decide (parseMethodDescriptor y.desc = some meth.sig)) = true) : (Jvm.Cond.code y bytes mx rt).before a s = true := by
  simp only [Bool.and_eq_true, beq_iff_eq, Bool.not_eq_true', decide_eq_true_eq] at h5
  obtain ⟨⟨⟨⟨⟨g1, g2⟩, g3⟩, g4⟩, g5⟩, g6⟩ := h5
  simp [Cond.before, Cond.holds, Cond.value, h1, h2, h3, h4, g1, g2, g3, g4, g5, g6]
def isCode : Jvm.Cond → Bool
  | .code _ _ _ _ => true
  | _ => false
theorem all_split {L : List Jvm.Cond} {P : Jvm.Cond → Bool} (h1 : L.all (fun c => isCode c || P c) = true) (h2 : ∀ c ∈ L.filter isCode, P c = true) : L.all P = true := by
  refine List.all_eq_true.mpr fun c hc => ?_
  have h := List.all_eq_true.mp h1 c hc
  rcases Bool.eq_false_or_eq_true (isCode c) with hi | hi
  · exact h2 c (List.mem_filter.mpr ⟨hc, hi⟩)
  · simpa [hi] using h
set_option maxRecDepth 65536 in
theorem w_c0 : (Jvm.Cond.code x code maxLocals ret).before args0 about1 = true := code_word (m := ⟨1, 1⟩) (meth := k1m1) (c := k1c1) (by decide +kernel) rfl rfl rfl (by decide +kernel)
set_option maxRecDepth 65536 in
theorem w_c1 : (Jvm.Cond.code ({ cls := "com/example/tideline/tideline/session/FetchSession$Sent", name := "<init>", desc := "(JJII)V" } : Jvm.MethodName) prog_250_method_1_code (7 : Nat) (Option.none : Option Jvm.ClassFile.FieldType)).before args0 about1 = true := code_word (m := ⟨3, 0⟩) (meth := k3m0) (c := k3c0) (by decide +kernel) rfl rfl rfl (by decide +kernel)
set_option maxRecDepth 65536 in
theorem w_c2 : (Jvm.Cond.code ({ cls := "java/lang/Record", name := "<init>", desc := "()V" } : Jvm.MethodName) jdk_30_method_1_code (1 : Nat) (Option.none : Option Jvm.ClassFile.FieldType)).before args0 about1 = true := code_word (m := ⟨2, 0⟩) (meth := k2m0) (c := k2c0) (by decide +kernel) rfl rfl rfl (by decide +kernel)
set_option maxRecDepth 65536 in
theorem w_c3 : (Jvm.Cond.code ({ cls := "java/lang/Object", name := "<init>", desc := "()V" } : Jvm.MethodName) object_method_1_code (1 : Nat) (Option.none : Option Jvm.ClassFile.FieldType)).before args0 about1 = true := code_word (m := ⟨0, 0⟩) (meth := k0m0) (c := k0c0) (by decide +kernel) rfl rfl rfl (by decide +kernel)
set_option maxRecDepth 65536 in
theorem w_c4 : (Jvm.Cond.code ({ cls := "com/example/tideline/tideline/session/FetchSession$Sent", name := "equals", desc := "(Ljava/lang/Object;)Z" } : Jvm.MethodName) prog_250_method_2_code (3 : Nat) (Option.some Jvm.ClassFile.FieldType.boolean)).before args0 about1 = true := code_word (m := ⟨3, 1⟩) (meth := k3m1) (c := k3c1) (by decide +kernel) rfl rfl rfl (by decide +kernel)
set_option maxRecDepth 65536 in
theorem w_c5 : (Jvm.Cond.code ({ cls := "java/lang/Long", name := "valueOf", desc := "(J)Ljava/lang/Long;" } : Jvm.MethodName) jdk_35_method_24_code (3 : Nat) (Option.some (Jvm.ClassFile.FieldType.object "java/lang/Long"))).before args0 about1 = true := code_word (m := ⟨9, 0⟩) (meth := k9m0) (c := k9c0) (by decide +kernel) rfl rfl rfl (by decide +kernel)
set_option maxRecDepth 65536 in
theorem w_c6 : (Jvm.Cond.code ({ cls := "java/lang/Long", name := "<init>", desc := "(J)V" } : Jvm.MethodName) jdk_35_method_26_code (3 : Nat) (Option.none : Option Jvm.ClassFile.FieldType)).before args0 about1 = true := code_word (m := ⟨9, 1⟩) (meth := k9m1) (c := k9c1) (by decide +kernel) rfl rfl rfl (by decide +kernel)
set_option maxRecDepth 65536 in
theorem w_c7 : (Jvm.Cond.code ({ cls := "java/lang/Number", name := "<init>", desc := "()V" } : Jvm.MethodName) jdk_18_method_1_code (1 : Nat) (Option.none : Option Jvm.ClassFile.FieldType)).before args0 about1 = true := code_word (m := ⟨5, 0⟩) (meth := k5m0) (c := k5c0) (by decide +kernel) rfl rfl rfl (by decide +kernel)
def codes1 : List Jvm.Cond := [Jvm.Cond.code x code maxLocals ret, Jvm.Cond.code ({ cls := "com/example/tideline/tideline/session/FetchSession$Sent", name := "<init>", desc := "(JJII)V" } : Jvm.MethodName) prog_250_method_1_code (7 : Nat) (Option.none : Option Jvm.ClassFile.FieldType), Jvm.Cond.code ({ cls := "java/lang/Record", name := "<init>", desc := "()V" } : Jvm.MethodName) jdk_30_method_1_code (1 : Nat) (Option.none : Option Jvm.ClassFile.FieldType), Jvm.Cond.code ({ cls := "java/lang/Object", name := "<init>", desc := "()V" } : Jvm.MethodName) object_method_1_code (1 : Nat) (Option.none : Option Jvm.ClassFile.FieldType), Jvm.Cond.code ({ cls := "com/example/tideline/tideline/session/FetchSession$Sent", name := "equals", desc := "(Ljava/lang/Object;)Z" } : Jvm.MethodName) prog_250_method_2_code (3 : Nat) (Option.some Jvm.ClassFile.FieldType.boolean), Jvm.Cond.code ({ cls := "java/lang/Long", name := "valueOf", desc := "(J)Ljava/lang/Long;" } : Jvm.MethodName) jdk_35_method_24_code (3 : Nat) (Option.some (Jvm.ClassFile.FieldType.object "java/lang/Long")), Jvm.Cond.code ({ cls := "java/lang/Long", name := "<init>", desc := "(J)V" } : Jvm.MethodName) jdk_35_method_26_code (3 : Nat) (Option.none : Option Jvm.ClassFile.FieldType), Jvm.Cond.code ({ cls := "java/lang/Number", name := "<init>", desc := "()V" } : Jvm.MethodName) jdk_18_method_1_code (1 : Nat) (Option.none : Option Jvm.ClassFile.FieldType)]
set_option maxRecDepth 65536 in
theorem codes_eq : words1.filter isCode = codes1 := rfl
theorem w_codes : ∀ c ∈ words1.filter isCode, c.before args0 about1 = true := by
  rw [codes_eq]
  intro c hc
  simp only [codes1, List.mem_cons, List.not_mem_nil, or_false] at hc
  rcases hc with rfl | rfl | rfl | rfl | rfl | rfl | rfl | rfl
  · exact w_c0
  · exact w_c1
  · exact w_c2
  · exact w_c3
  · exact w_c4
  · exact w_c5
  · exact w_c6
  · exact w_c7
set_option maxRecDepth 65536 in
theorem w_t1 : (words1.take 24).all (fun c => isCode c || c.before args0 about1) = true := by decide +kernel
set_option maxRecDepth 65536 in
theorem w_t2 : ((words1.drop 24).take 24).all (fun c => isCode c || c.before args0 about1) = true := by decide +kernel
set_option maxRecDepth 65536 in
theorem w_t3 : ((words1.drop 24).drop 24).all (fun c => isCode c || c.before args0 about1) = true := by decide +kernel
theorem w_tables : (allAtoms (Jvm.Cond.code x code maxLocals ret :: tables_1)).before args0 about1 = true := by
  rw [allAtoms_all]
  show words1.all (fun c => c.before args0 about1) = true
  refine all_split ?_ w_codes
  rw [← List.take_append_drop 24 words1, List.all_append, w_t1, ← List.take_append_drop 24 (words1.drop 24), List.all_append, w_t2, w_t3]
  rfl
set_option maxRecDepth 65536 in
theorem w_rest : rest_1_c.before args0 about1 = true := by decide +kernel
set_option maxRecDepth 65536 in
theorem w_case : (Jvm.Cond.and given_1 narrow_1).before args0 about1 = true := by decide +kernel
theorem w_applies : (headSpec (Jvm.Cond.code x code maxLocals ret :: tables_1) room_1).applies x e0.platform about1 = true :=
  (Spec.applies_iff w_frames).mpr ⟨w_running, w_runnable, w_alone, w_named, w_hears, w_ripe, w_room, w_tables⟩
theorem atStart : AtStart classFile x code maxLocals ret World_1 tables_1 room_1 Calls_1 rest_1 Pre_1 launch0 p0 e0 about1 theMethod args0 below0 :=
  ⟨lists_1, trivial, launch0.admits_env _ _ _, launch0.least_env, fairChoices_fair.cas, fairChoices_fair.clock, w_frames, w_args, w_heap, w_applies, trivial, w_rest, w_case⟩
end start1
theorem witness_1 : WitnessClaimed_1 := ⟨start1.p0, start1.e0, start1.about1, start1.theMethod, start1.args0, start1.below0, start1.atStart⟩
end Jvm.Pilot.@@N@@
