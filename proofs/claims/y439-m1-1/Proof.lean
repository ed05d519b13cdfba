import JvmDerived
import JvmDerived.Pilot.@@N@@Statement
import JvmDerived.Pilot.@@N@@Code
set_option linter.unusedVariables false
set_option linter.unusedSimpArgs false
@@BLOCK:NumsL.lean.txt@@
namespace Jvm.RoadKit
open Sem ClassFile Op Lib Jvm.Stand Jvm.Free Jvm.LawKit
section New
variable {p : Program} {l : Launch} {e : Env} {R : Room} {s : State} {m : MethodId} {args : Array Value} {below : List Frame} {meth : Method} {c : Code} {T : State} {locs : List Loc} {cells slots : Nat}
theorem retI (X : Stand p l e R s m args below meth c T locs cells slots) (hx : p.tables.exec = Jvm.exec) {pc : Nat} {Ls : Array Slot} {z : Int32} {rest : List Value} (hret : meth.sig.returnType = some .int) (hd : decode c.code pc = .ok (.ireturn, 1)) {fs : List Frame}
    (hl : ∀ (f : JFrame) (acts : List Action), f.method = m → f.locked = none → f.entered = [] → (doReturn e (T.setTop f) acts (some (.int z))).1 = T.setFrames fs) : Steps p.tables e below (T.setTop (mkF m pc Ls (.int z :: rest))) (T.setFrames fs) :=
  retOut X hx hret rfl (Or.inl ⟨rfl, Or.inl rfl, z, rfl⟩) hd hl
end New
end Jvm.RoadKit
namespace Jvm.Pilot.@@N@@
open Jvm Jvm.ClassFile Sem Op Lib Jvm.Free Jvm.Stand Jvm.LawKit Jvm.RoadKit Bundle Jvm.Pilot.@@N@@.Jvm.D
theorem d1_0 : decode method_2_code 0 = .ok (.iload_n 0, 1) := by decide +kernel
theorem d1_1 : decode method_2_code 1 = .ok (.iconst 3, 1) := by decide +kernel
theorem d1_2 : decode method_2_code 2 = .ok (.iand, 1) := by decide +kernel
theorem d1_3 : decode method_2_code 3 = .ok (.istore 4, 2) := by decide +kernel
theorem d1_5 : decode method_2_code 5 = .ok (.iload 4, 2) := by decide +kernel
theorem d1_7 : decode method_2_code 7 = .ok (.ifCond .ne 5, 3) := by decide +kernel
theorem d1_10 : decode method_2_code 10 = .ok (.iload_n 1, 1) := by decide +kernel
theorem d1_11 : decode method_2_code 11 = .ok (.ireturn, 1) := by decide +kernel
theorem d1_12 : decode method_2_code 12 = .ok (.iload 4, 2) := by decide +kernel
theorem d1_14 : decode method_2_code 14 = .ok (.iconst 1, 1) := by decide +kernel
theorem d1_15 : decode method_2_code 15 = .ok (.if_icmp .ne 5, 3) := by decide +kernel
theorem d1_18 : decode method_2_code 18 = .ok (.iload_n 2, 1) := by decide +kernel
theorem d1_19 : decode method_2_code 19 = .ok (.ireturn, 1) := by decide +kernel
theorem d1_20 : decode method_2_code 20 = .ok (.iload_n 3, 1) := by decide +kernel
theorem d1_21 : decode method_2_code 21 = .ok (.ireturn, 1) := by decide +kernel
theorem d2_0 : decode prog_43_method_1_code 0 = .ok (.aload_n 0, 1) := by decide +kernel
theorem d2_1 : decode prog_43_method_1_code 1 = .ok (.invokespecial 1, 3) := by decide +kernel
theorem d2_4 : decode prog_43_method_1_code 4 = .ok (.aload_n 0, 1) := by decide +kernel
theorem d2_5 : decode prog_43_method_1_code 5 = .ok (.aload_n 1, 1) := by decide +kernel
theorem d2_6 : decode prog_43_method_1_code 6 = .ok (.putfield 7, 3) := by decide +kernel
theorem d2_9 : decode prog_43_method_1_code 9 = .ok (.return_, 1) := by decide +kernel
theorem d4_0 : decode prog_43_method_2_code 0 = .ok (.aload_n 0, 1) := by decide +kernel
theorem d4_1 : decode prog_43_method_2_code 1 = .ok (.getfield 7, 3) := by decide +kernel
theorem d4_4 : decode prog_43_method_2_code 4 = .ok (.astore_n 2, 1) := by decide +kernel
theorem d4_5 : decode prog_43_method_2_code 5 = .ok (.aload_n 2, 1) := by decide +kernel
theorem d4_6 : decode prog_43_method_2_code 6 = .ok (.arraylength, 1) := by decide +kernel
theorem d4_7 : decode prog_43_method_2_code 7 = .ok (.istore_n 3, 1) := by decide +kernel
theorem d4_8 : decode prog_43_method_2_code 8 = .ok (.iconst 0, 1) := by decide +kernel
theorem d4_9 : decode prog_43_method_2_code 9 = .ok (.istore 4, 2) := by decide +kernel
theorem d4_11 : decode prog_43_method_2_code 11 = .ok (.iload 4, 2) := by decide +kernel
theorem d4_13 : decode prog_43_method_2_code 13 = .ok (.iload_n 3, 1) := by decide +kernel
theorem d4_14 : decode prog_43_method_2_code 14 = .ok (.if_icmp .ge 26, 3) := by decide +kernel
theorem d4_17 : decode prog_43_method_2_code 17 = .ok (.aload_n 2, 1) := by decide +kernel
theorem d4_18 : decode prog_43_method_2_code 18 = .ok (.iload 4, 2) := by decide +kernel
theorem d4_20 : decode prog_43_method_2_code 20 = .ok (.baload, 1) := by decide +kernel
theorem d4_21 : decode prog_43_method_2_code 21 = .ok (.istore 5, 2) := by decide +kernel
theorem d4_23 : decode prog_43_method_2_code 23 = .ok (.iload_n 1, 1) := by decide +kernel
theorem d4_24 : decode prog_43_method_2_code 24 = .ok (.iload 5, 2) := by decide +kernel
theorem d4_26 : decode prog_43_method_2_code 26 = .ok (.if_icmp .ne 8, 3) := by decide +kernel
theorem d4_29 : decode prog_43_method_2_code 29 = .ok (.aload_n 0, 1) := by decide +kernel
theorem d4_30 : decode prog_43_method_2_code 30 = .ok (.iload_n 1, 1) := by decide +kernel
theorem d4_31 : decode prog_43_method_2_code 31 = .ok (.putfield 13, 3) := by decide +kernel
theorem d4_34 : decode prog_43_method_2_code 34 = .ok (.iinc 4 1, 3) := by decide +kernel
theorem d4_37 : decode prog_43_method_2_code 37 = .ok (.goto (-26), 3) := by decide +kernel
theorem d4_40 : decode prog_43_method_2_code 40 = .ok (.aload_n 0, 1) := by decide +kernel
theorem d4_41 : decode prog_43_method_2_code 41 = .ok (.getfield 13, 3) := by decide +kernel
theorem d4_44 : decode prog_43_method_2_code 44 = .ok (.ifCond .ne 7, 3) := by decide +kernel
theorem d4_47 : decode prog_43_method_2_code 47 = .ok (.iconst 1, 1) := by decide +kernel
theorem d4_48 : decode prog_43_method_2_code 48 = .ok (.goto 4, 3) := by decide +kernel
theorem d4_51 : decode prog_43_method_2_code 51 = .ok (.iconst 0, 1) := by decide +kernel
theorem d4_52 : decode prog_43_method_2_code 52 = .ok (.ireturn, 1) := by decide +kernel
theorem d5_0 : decode prog_43_method_4_code 0 = .ok (.aload_n 0, 1) := by decide +kernel
theorem d5_1 : decode prog_43_method_4_code 1 = .ok (.getfield 13, 3) := by decide +kernel
theorem d5_4 : decode prog_43_method_4_code 4 = .ok (.ireturn, 1) := by decide +kernel
theorem d6_0 : decode method_3_code 0 = .ok (.iload_n 1, 1) := by decide +kernel
theorem d6_1 : decode method_3_code 1 = .ok (.iconst 1, 1) := by decide +kernel
theorem d6_2 : decode method_3_code 2 = .ok (.if_icmp .lt 8, 3) := by decide +kernel
theorem d6_5 : decode method_3_code 5 = .ok (.iload_n 0, 1) := by decide +kernel
theorem d6_6 : decode method_3_code 6 = .ok (.iload_n 2, 1) := by decide +kernel
theorem d6_7 : decode method_3_code 7 = .ok (.if_icmp .eq 13, 3) := by decide +kernel
theorem d6_10 : decode method_3_code 10 = .ok (.iload_n 1, 1) := by decide +kernel
theorem d6_11 : decode method_3_code 11 = .ok (.iconst 2, 1) := by decide +kernel
theorem d6_12 : decode method_3_code 12 = .ok (.if_icmp .lt 12, 3) := by decide +kernel
theorem d6_15 : decode method_3_code 15 = .ok (.iload_n 0, 1) := by decide +kernel
theorem d6_16 : decode method_3_code 16 = .ok (.iload_n 3, 1) := by decide +kernel
theorem d6_17 : decode method_3_code 17 = .ok (.if_icmp .ne 7, 3) := by decide +kernel
theorem d6_20 : decode method_3_code 20 = .ok (.iconst 1, 1) := by decide +kernel
theorem d6_21 : decode method_3_code 21 = .ok (.goto 4, 3) := by decide +kernel
theorem d6_24 : decode method_3_code 24 = .ok (.iconst 0, 1) := by decide +kernel
theorem d6_25 : decode method_3_code 25 = .ok (.ireturn, 1) := by decide +kernel
theorem pd_0 : parseMethodDescriptor "(IBBB)B" = some ⟨[.int, .byte, .byte, .byte], some .byte⟩ := by decide +kernel
theorem pd_1 : parseMethodDescriptor "([B)V" = some ⟨[(.array .byte)], none⟩ := by decide +kernel
theorem pd_2 : parseMethodDescriptor "(B)Z" = some ⟨[.byte], some .boolean⟩ := by decide +kernel
theorem pd_3 : parseMethodDescriptor "()B" = some ⟨[], some .byte⟩ := by decide +kernel
theorem pd_4 : parseMethodDescriptor "(BIBB)Z" = some ⟨[.byte, .int, .byte, .byte], some .boolean⟩ := by decide +kernel
theorem own_nb (x : Int32) : nar .byte (nar .byte x) = nar .byte x := by
  show (x.toInt8.toInt32).toInt8.toInt32 = x.toInt8.toInt32
  rw [Int8.toInt8_toInt32]
theorem own_n0 : nar .byte 0 = 0 := rfl
def own_pick (k a b x : Int32) : Int32 := if k &&& 3 = 0 then a else if k &&& 3 = 1 then b else x
theorem own_pickb {k a b x : Int32} (ha : nar .byte a = a) (hb : nar .byte b = b) (hx : nar .byte x = x) : nar .byte (own_pick k a b x) = own_pick k a b x := by
  unfold own_pick
  split
  · exact ha
  · split
    · exact hb
    · exact hx
def own_st (vs : List Int32) (t s : Int32) : Int32 := match vs with
  | [] => s
  | x :: r => own_st r t (if t = x then t else s)
theorem own_stb {t : Int32} (ht : nar .byte t = t) : ∀ (vs : List Int32) {s : Int32}, nar .byte s = s → nar .byte (own_st vs t s) = own_st vs t s
  | [], _, hs => hs
  | x :: r, s, hs => own_stb ht r (by split <;> assumption)
def own_z (e : Int32) : Int32 := if e = 0 then 1 else 0
def own_in (t len a b : Int32) : Int32 := if (¬ len < 1 ∧ t = a) ∨ (¬ len < 2 ∧ t = b) then 1 else 0
theorem own_l0 (t a b s : Int32) : (if own_in t 0 a b = 0 then s else t) = own_st [] t s := by simp [own_in, own_st]
theorem own_l1 (t a b s : Int32) : (if own_in t 1 a b = 0 then s else t) = own_st [a] t s := by
  by_cases h : t = a <;> simp [own_in, own_st, h]
theorem own_l2 (t a b s : Int32) : (if own_in t 2 a b = 0 then s else t) = own_st [a, b] t s := by
  by_cases h : t = a <;> by_cases h2 : t = b <;> simp [own_in, own_st, h, h2]
theorem own_len (x : Int32) : (x &&& (3 : Int32)) % (3 : Int32) = 0 ∨ (x &&& (3 : Int32)) % (3 : Int32) = 1 ∨ (x &&& (3 : Int32)) % (3 : Int32) = 2 := by
  have hm : (x &&& 3).toInt = x.toInt % 2 ^ 2 := Jvm.Kit.i32_mask x 3 (k := 2) (by decide) (by decide)
  have h0 : 0 ≤ (x &&& 3).toInt := by omega
  have hr : ((x &&& 3) % 3).toInt = (x &&& 3).toInt % (3 : Int32).toInt := Jvm.Kit.i32_rem_nonneg h0
  have c0 : (0 : Int32).toInt = 0 := by decide
  have c1 : (1 : Int32).toInt = 1 := by decide
  have c2 : (2 : Int32).toInt = 2 := by decide
  have c3 : (3 : Int32).toInt = 3 := by decide
  rw [c3] at hr
  rw [← Int32.toInt_inj, ← Int32.toInt_inj, ← Int32.toInt_inj]
  omega
theorem ef_1 (m : MethodId) (p1 : Int32) (p2 : Int32) (p3 : Int32) (p4 : Int32) : entryFrame m #[(.int p1), (.int p2), (.int p3), (.int p4)] 5 = (mkF m 0 #[.val (.int p1), .val (.int p2), .val (.int p3), .val (.int p4), .unset] []) := by first | (simp [entryFrame, mkF, argsToLocals, Value.category]; done) | rfl
theorem pn_1 : plainName "com/example/governor/governor/server/StopAtBeginsPinLaw" = true := by first | (simp [plainName, overriddenIn]; done) | decide +kernel
theorem ef_2 (m : MethodId) (a1 : Addr) (ta : Addr) : entryFrame m #[(.ref a1), (.ref ta)] 2 = (mkF m 0 #[.val (.ref a1), .val (.ref ta)] []) := by first | (simp [entryFrame, mkF, argsToLocals, Value.category]; done) | rfl
theorem pn_2 : plainName "com/example/governor/governor/server/MessageScanner$StopAt" = true := by first | (simp [plainName, overriddenIn]; done) | decide +kernel
theorem ef_5 (m : MethodId) (a1 : Addr) : entryFrame m #[(.ref a1)] 1 = (mkF m 0 #[.val (.ref a1)] []) := by first | (simp [entryFrame, mkF, argsToLocals, Value.category]; done) | rfl
theorem pn_5 : plainName "com/example/governor/governor/server/MessageScanner$StopAt" = true := by first | (simp [plainName, overriddenIn]; done) | decide +kernel
theorem ef_6 (m : MethodId) (p1 : Int32) (p2 : Int32) (p3 : Int32) (p4 : Int32) : entryFrame m #[(.int p1), (.int p2), (.int p3), (.int p4)] 4 = (mkF m 0 #[.val (.int p1), .val (.int p2), .val (.int p3), .val (.int p4)] []) := by first | (simp [entryFrame, mkF, argsToLocals, Value.category]; done) | rfl
theorem pn_6 : plainName "com/example/governor/governor/server/StopAtBeginsPinLaw" = true := by first | (simp [plainName, overriddenIn]; done) | decide +kernel
theorem ef_4 (m : MethodId) (a1 : Addr) (p1 : Int32) : entryFrame m #[(.ref a1), (.int p1)] 6 = (mkF m 0 #[.val (.ref a1), .val (.int p1), .unset, .unset, .unset, .unset] []) := by first | (simp [entryFrame, mkF, argsToLocals, Value.category]; done) | rfl
theorem pn_4 : plainName "com/example/governor/governor/server/MessageScanner$StopAt" = true := by first | (simp [plainName, overriddenIn]; done) | decide +kernel
theorem ef_0 (m : MethodId) (p0 : Int32) (p1 : Int32) (p2 : Int32) (p3 : Int32) (p4 : Int32) : entryFrame m #[(.int p0), (.int p1), (.int p2), (.int p3), (.int p4)] maxLocals = (mkF m 0 #[.val (.int p0), .val (.int p1), .val (.int p2), .val (.int p3), .val (.int p4), .unset, .unset, .unset, .unset, .unset, .unset, .unset, .unset, .unset, .unset, .unset, .unset, .unset] []) := by first | (simp [entryFrame, mkF, argsToLocals, Value.category, maxLocals]; done) | rfl
theorem pn_0 : plainName "com/example/governor/governor/server/StopAtBeginsPinLaw" = true := by first | (simp [plainName, overriddenIn]; done) | decide +kernel
def Q1 (Z : State) (p1 p2 p3 p4 : Int32) (h0 : Heap) (n0 : Nat) (v : Option Value) (h : Heap) (L : List Loc) : Prop := v = some (.int (own_pick p1 p2 p3 p4)) ∧ Fr n0 L ∧ h = h0
set_option maxRecDepth 65536 in
set_option maxHeartbeats 40000000 in
theorem rm1 (l : Launch) (Z : State) (a0 : Array Value) (hw : ∀ d ∈ tables_1, d.before a0 Z = true) (ws : List Jvm.Cond) (p1 p2 p3 p4 : Int32) (h0 : Heap) (n0 : Nat) (Z0 : n0 ≤ h0.size) (h2 : nar .byte p2 = p2) (h3 : nar .byte p3 = p3) (h4 : nar .byte p4 = p4) :
    MetFree l (⟨"com/example/governor/governor/server/StopAtBeginsPinLaw", "pick", "(IBBB)B"⟩ : MethodName) (head1 (Jvm.Cond.code (⟨"com/example/governor/governor/server/StopAtBeginsPinLaw", "pick", "(IBBB)B"⟩ : MethodName) method_2_code 5 (some .byte) :: ws) ({ frames := 0, cells := 0, slots := 0, locals := 0 } : Room)) (fun a U => a = #[(.int p1), (.int p2), (.int p3), (.int p4)] ∧ Z.Warmed39 U.vm ∧ U.heap = h0) (fun _ _ _ _ _ => True) (fun _ U o U' => ∃ v L, o = .returned v ∧ Q1 Z p1 p2 p3 p4 h0 n0 v U'.heap L ∧ FrameEnd U o U' L ({ frames := 0, cells := 0, slots := 0, locals := 0 } : Room).cells ({ frames := 0, cells := 0, slots := 0, locals := 0 } : Room).slots) := by
  refine MetFree.of_bodySF (plainFor_of_name pn_1) hisR ?_
  intro p e s m args below meth c s₁ Bd hml0 hP hK
  obtain ⟨rfl, hZ, hh⟩ := hP
  have hx := Bd.exec
  have hby := Bd.bytes
  have hml : c.maxLocals = 5 := hml0
  have hown : s.vm.findClass "com/example/governor/governor/server/StopAtBeginsPinLaw" = some m.cls := findClass_of_methodNamed Bd.named
  have hnm := (name_of_methodNamed Bd.named Bd.method).1
  have X0 : Stand p l e ({ frames := 0, cells := 0, slots := 0, locals := 0 } : Room) s m #[(.int p1), (.int p2), (.int p3), (.int p4)] below meth c s₁ [] 0 0 := Stand.of_body Bd
  have e0 : s₁.heap = h0 := by rw [← hh, Bd.state]; rfl
  have N0 := Fr.nil n0
  have pre0 : ∀ t, Steps p.tables e below (s₁.setTop (mkF m 0 #[.val (.int p1), .val (.int p2), .val (.int p3), .val (.int p4), .unset] [])) t → Steps p.tables e below (s₁.setTop (entryFrame m #[(.int p1), (.int p2), (.int p3), (.int p4)] 5)) t := fun t k => castTop (ef_1 m p1 p2 p3 p4) k
  have pre1 : ∀ t, Steps p.tables e below (s₁.setTop (mkF m 5 #[.val (.int p1), .val (.int p2), .val (.int p3), .val (.int p4), .val (.int (p1 &&& (3 : Int32)))] [])) t → Steps p.tables e below (s₁.setTop (entryFrame m #[(.int p1), (.int p2), (.int p3), (.int p4)] 5)) t := by
    intro t k
    refine pre0 t ?_
    show Steps p.tables e below (s₁.setTop (mkF m 0 #[.val (.int p1), .val (.int p2), .val (.int p3), .val (.int p4), .unset] [])) _
    refine XS.iloadN X0.here hx rfl (hb hby d1_0) rfl ?_
    show Steps p.tables e below (s₁.setTop (mkF m 1 #[.val (.int p1), .val (.int p2), .val (.int p3), .val (.int p4), .unset] [(.int p1)])) _
    refine XS.iconst X0.here hx rfl (hb hby d1_1) ?_
    show Steps p.tables e below (s₁.setTop (mkF m 2 #[.val (.int p1), .val (.int p2), .val (.int p3), .val (.int p4), .unset] [(.int (3 : Int32)), (.int p1)])) _
    refine XS.iand X0.here hx rfl (hb hby d1_2) rfl ?_
    show Steps p.tables e below (s₁.setTop (mkF m 3 #[.val (.int p1), .val (.int p2), .val (.int p3), .val (.int p4), .unset] [(.int (p1 &&& (3 : Int32)))])) _
    refine XS.istore X0.here hx rfl (hb hby d1_3) rfl (l' := #[.val (.int p1), .val (.int p2), .val (.int p3), .val (.int p4), .val (.int (p1 &&& (3 : Int32)))]) rfl ?_
    exact k
  by_cases c7 : (p1 &&& (3 : Int32)) = 0
  · skip
    obtain ⟨fs, hr, hrun, hended, hW, hsame⟩ := X0.leave (v := some (.int (nar .byte p2))) (fun h => by rw [Bd.returns] at h; cases h)
    refine ⟨_, _, pre1 _ ?_, hrun, hended, _, _, rfl, ?_, ⟨_, rfl⟩, hW, hsame.mono (by decide) (by decide)⟩
    · show Steps p.tables e below (s₁.setTop (mkF m 5 #[.val (.int p1), .val (.int p2), .val (.int p3), .val (.int p4), .val (.int (p1 &&& (3 : Int32)))] [])) _
      refine XS.iload X0.here hx rfl (hb hby d1_5) rfl ?_
      show Steps p.tables e below (s₁.setTop (mkF m 7 #[.val (.int p1), .val (.int p2), .val (.int p3), .val (.int p4), .val (.int (p1 &&& (3 : Int32)))] [(.int (p1 &&& (3 : Int32)))])) _
      refine XS.ifNo X0.here hx rfl (hb hby d1_7) rfl ((if0 _ _).trans (teq c7).2) ?_
      show Steps p.tables e below (s₁.setTop (mkF m 10 #[.val (.int p1), .val (.int p2), .val (.int p3), .val (.int p4), .val (.int (p1 &&& (3 : Int32)))] [])) _
      refine XS.iloadN X0.here hx rfl (hb hby d1_10) rfl ?_
      show Steps p.tables e below (s₁.setTop (mkF m 11 #[.val (.int p1), .val (.int p2), .val (.int p3), .val (.int p4), .val (.int (p1 &&& (3 : Int32)))] [(.int p2)])) _
      exact retN X0 hx (t := .byte) Bd.returns (by simp) (hb hby d1_11) hr
    · show Q1 Z p1 p2 p3 p4 h0 n0 _ s₁.heap _
      rw [e0]
      exact ⟨congrArg (fun z => some (Value.int z)) (by rw [h2]; unfold own_pick; rw [if_pos c7]), N0, rfl⟩
  · skip
    by_cases c15 : (p1 &&& (3 : Int32)) = 1
    · skip
      obtain ⟨fs, hr, hrun, hended, hW, hsame⟩ := X0.leave (v := some (.int (nar .byte p3))) (fun h => by rw [Bd.returns] at h; cases h)
      refine ⟨_, _, pre1 _ ?_, hrun, hended, _, _, rfl, ?_, ⟨_, rfl⟩, hW, hsame.mono (by decide) (by decide)⟩
      · show Steps p.tables e below (s₁.setTop (mkF m 5 #[.val (.int p1), .val (.int p2), .val (.int p3), .val (.int p4), .val (.int (p1 &&& (3 : Int32)))] [])) _
        refine XS.iload X0.here hx rfl (hb hby d1_5) rfl ?_
        show Steps p.tables e below (s₁.setTop (mkF m 7 #[.val (.int p1), .val (.int p2), .val (.int p3), .val (.int p4), .val (.int (p1 &&& (3 : Int32)))] [(.int (p1 &&& (3 : Int32)))])) _
        refine XS.ifYes X0.here hx rfl (pc0 := 7) (pc' := 12) rfl (hb hby d1_7) rfl ((if0 _ _).trans (feq c7).2) (by decide) (by decide) ?_
        show Steps p.tables e below (s₁.setTop (mkF m 12 #[.val (.int p1), .val (.int p2), .val (.int p3), .val (.int p4), .val (.int (p1 &&& (3 : Int32)))] [])) _
        refine XS.iload X0.here hx rfl (hb hby d1_12) rfl ?_
        show Steps p.tables e below (s₁.setTop (mkF m 14 #[.val (.int p1), .val (.int p2), .val (.int p3), .val (.int p4), .val (.int (p1 &&& (3 : Int32)))] [(.int (p1 &&& (3 : Int32)))])) _
        refine XS.iconst X0.here hx rfl (hb hby d1_14) ?_
        show Steps p.tables e below (s₁.setTop (mkF m 15 #[.val (.int p1), .val (.int p2), .val (.int p3), .val (.int p4), .val (.int (p1 &&& (3 : Int32)))] [(.int (1 : Int32)), (.int (p1 &&& (3 : Int32)))])) _
        refine XS.icmpNo X0.here hx rfl (hb hby d1_15) rfl (teq c15).2 ?_
        show Steps p.tables e below (s₁.setTop (mkF m 18 #[.val (.int p1), .val (.int p2), .val (.int p3), .val (.int p4), .val (.int (p1 &&& (3 : Int32)))] [])) _
        refine XS.iloadN X0.here hx rfl (hb hby d1_18) rfl ?_
        show Steps p.tables e below (s₁.setTop (mkF m 19 #[.val (.int p1), .val (.int p2), .val (.int p3), .val (.int p4), .val (.int (p1 &&& (3 : Int32)))] [(.int p3)])) _
        exact retN X0 hx (t := .byte) Bd.returns (by simp) (hb hby d1_19) hr
      · show Q1 Z p1 p2 p3 p4 h0 n0 _ s₁.heap _
        rw [e0]
        exact ⟨congrArg (fun z => some (Value.int z)) (by rw [h3]; unfold own_pick; rw [if_neg c7, if_pos c15]), N0, rfl⟩
    · skip
      obtain ⟨fs, hr, hrun, hended, hW, hsame⟩ := X0.leave (v := some (.int (nar .byte p4))) (fun h => by rw [Bd.returns] at h; cases h)
      refine ⟨_, _, pre1 _ ?_, hrun, hended, _, _, rfl, ?_, ⟨_, rfl⟩, hW, hsame.mono (by decide) (by decide)⟩
      · show Steps p.tables e below (s₁.setTop (mkF m 5 #[.val (.int p1), .val (.int p2), .val (.int p3), .val (.int p4), .val (.int (p1 &&& (3 : Int32)))] [])) _
        refine XS.iload X0.here hx rfl (hb hby d1_5) rfl ?_
        show Steps p.tables e below (s₁.setTop (mkF m 7 #[.val (.int p1), .val (.int p2), .val (.int p3), .val (.int p4), .val (.int (p1 &&& (3 : Int32)))] [(.int (p1 &&& (3 : Int32)))])) _
        refine XS.ifYes X0.here hx rfl (pc0 := 7) (pc' := 12) rfl (hb hby d1_7) rfl ((if0 _ _).trans (feq c7).2) (by decide) (by decide) ?_
        show Steps p.tables e below (s₁.setTop (mkF m 12 #[.val (.int p1), .val (.int p2), .val (.int p3), .val (.int p4), .val (.int (p1 &&& (3 : Int32)))] [])) _
        refine XS.iload X0.here hx rfl (hb hby d1_12) rfl ?_
        show Steps p.tables e below (s₁.setTop (mkF m 14 #[.val (.int p1), .val (.int p2), .val (.int p3), .val (.int p4), .val (.int (p1 &&& (3 : Int32)))] [(.int (p1 &&& (3 : Int32)))])) _
        refine XS.iconst X0.here hx rfl (hb hby d1_14) ?_
        show Steps p.tables e below (s₁.setTop (mkF m 15 #[.val (.int p1), .val (.int p2), .val (.int p3), .val (.int p4), .val (.int (p1 &&& (3 : Int32)))] [(.int (1 : Int32)), (.int (p1 &&& (3 : Int32)))])) _
        refine XS.icmpYes X0.here hx rfl (pc0 := 15) (pc' := 20) rfl (hb hby d1_15) rfl (feq c15).2 (by decide) (by decide) ?_
        show Steps p.tables e below (s₁.setTop (mkF m 20 #[.val (.int p1), .val (.int p2), .val (.int p3), .val (.int p4), .val (.int (p1 &&& (3 : Int32)))] [])) _
        refine XS.iloadN X0.here hx rfl (hb hby d1_20) rfl ?_
        show Steps p.tables e below (s₁.setTop (mkF m 21 #[.val (.int p1), .val (.int p2), .val (.int p3), .val (.int p4), .val (.int (p1 &&& (3 : Int32)))] [(.int p4)])) _
        exact retN X0 hx (t := .byte) Bd.returns (by simp) (hb hby d1_21) hr
      · show Q1 Z p1 p2 p3 p4 h0 n0 _ s₁.heap _
        rw [e0]
        exact ⟨congrArg (fun z => some (Value.int z)) (by rw [h4]; unfold own_pick; rw [if_neg c7, if_neg c15]), N0, rfl⟩
def Q2 (Z : State) (a1 ta : Addr) (h0 : Heap) (n0 : Nat) (v : Option Value) (h : Heap) (L : List Loc) : Prop := v = none ∧ Fr n0 L ∧ Keep h0 h [a1] ∧ Exa Z h a1 "com/example/governor/governor/server/MessageScanner$StopAt" ∧ Fld Z h a1 "com/example/governor/governor/server/MessageScanner$StopAt" "types" "[B" (.ref ta) ∧ Fld Z h a1 "com/example/governor/governor/server/MessageScanner$StopAt" "stoppedAt" "B" (.int (0 : Int32))
set_option maxRecDepth 65536 in
set_option maxHeartbeats 40000000 in
theorem rm2 (l : Launch) (Z : State) (a0 : Array Value) (hw : ∀ d ∈ tables_1, d.before a0 Z = true) (ws : List Jvm.Cond) (a1 ta : Addr) (h0 : Heap) (n0 : Nat) (Z0 : n0 ≤ h0.size) (F1 : Fld Z h0 a1 "com/example/governor/governor/server/MessageScanner$StopAt" "types" "[B" .null) (F2 : Fld Z h0 a1 "com/example/governor/governor/server/MessageScanner$StopAt" "stoppedAt" "B" (.int (0 : Int32))) (E1 : Exa Z h0 a1 "com/example/governor/governor/server/MessageScanner$StopAt") (g1 : n0 ≤ a1) :
    MetFree l (⟨"com/example/governor/governor/server/MessageScanner$StopAt", "<init>", "([B)V"⟩ : MethodName) (head1 (Jvm.Cond.code (⟨"com/example/governor/governor/server/MessageScanner$StopAt", "<init>", "([B)V"⟩ : MethodName) prog_43_method_1_code 2 none :: ws) ({ frames := 1, cells := 0, slots := 0, locals := 12 } : Room)) (fun a U => a = #[(.ref a1), (.ref ta)] ∧ Z.Warmed39 U.vm ∧ U.heap = h0) (fun _ _ _ _ _ => True) (fun _ U o U' => ∃ v L, o = .returned v ∧ Q2 Z a1 ta h0 n0 v U'.heap L ∧ FrameEnd U o U' L ({ frames := 1, cells := 0, slots := 0, locals := 12 } : Room).cells ({ frames := 1, cells := 0, slots := 0, locals := 12 } : Room).slots) := by
  refine MetFree.of_bodySF (plainFor_of_name pn_2) hisR ?_
  intro p e s m args below meth c s₁ Bd hml0 hP hK
  obtain ⟨rfl, hZ, hh⟩ := hP
  have hx := Bd.exec
  have hby := Bd.bytes
  have hml : c.maxLocals = 2 := hml0
  have hown : s.vm.findClass "com/example/governor/governor/server/MessageScanner$StopAt" = some m.cls := findClass_of_methodNamed Bd.named
  have hnm := (name_of_methodNamed Bd.named Bd.method).1
  have X0 : Stand p l e ({ frames := 1, cells := 0, slots := 0, locals := 12 } : Room) s m #[(.ref a1), (.ref ta)] below meth c s₁ [] 0 0 := Stand.of_body Bd
  have e0 : s₁.heap = h0 := by rw [← hh, Bd.state]; rfl
  have N0 := Fr.nil n0
  have pre0 : ∀ t, Steps p.tables e below (s₁.setTop (mkF m 0 #[.val (.ref a1), .val (.ref ta)] [])) t → Steps p.tables e below (s₁.setTop (entryFrame m #[(.ref a1), (.ref ta)] 2)) t := fun t k => castTop (ef_2 m a1 ta) k
  have KK0 := Keep.refl h0 [a1]
  obtain ⟨T1, X1, e1, st1⟩ := initO X0 hx hZ hown (hw _ (List.mem_of_getElem? (i := 11) rfl)) (hw _ (List.mem_of_getElem? (i := 12) rfl)) (hw _ (List.mem_of_getElem? (i := 13) rfl)) e0 (g := (mkF m 1 #[.val (.ref a1), .val (.ref ta)] [(.ref a1)])) rfl (by rw [hml]; rfl) rfl (hb hby d2_1) (by decide) (W := 0) (by show 2 * 0 + _ ≤ _; exact Nat.le_of_eq rfl) (by decide)
  obtain ⟨T2, h2, X2, e2, W2, st2⟩ := putF X1 hx hZ hown (host := "") (Or.inl (hw _ (List.mem_of_getElem? (i := 14) rfl))) Via.refl e1 F1 E1 (Or.inr ⟨(hw _ (List.mem_of_getElem? (i := 15) rfl)), rfl, hnm⟩) (hw _ (List.mem_of_getElem? (i := 6) rfl)) (ty := (.array .byte)) (by decide) rfl rfl (g := (mkF m 6 #[.val (.ref a1), .val (.ref ta)] [(.ref ta), (.ref a1)])) rfl rfl (hb hby d2_6)
  have N2 := Fr.snoc X2 N0 g1
  have Fw2 := Fld.same W2 F1
  have F_a1_stoppedAt_2 := F2.other W2 (Or.inr (slot_ne (Or.inl (hw _ (List.mem_of_getElem? (i := 22) rfl))) (Or.inr (hw _ (List.mem_of_getElem? (i := 15) rfl))) (by decide) (t := .byte) (t' := (.array .byte)) (by decide) (by decide)))
  have E_a1_2 := E1.wr W2
  have Zs3 := Nat.le_trans Z0 (Keep.of_wr W2).1
  have Kk2 := KK0.wr W2 (Or.inl (List.mem_of_getElem? (i := 0) rfl))
  obtain ⟨fs, hr, hrun, hended, hW, hsame⟩ := X2.leave (v := none) (fun _ => rfl)
  refine ⟨_, _, pre0 _ ?_, hrun, hended, _, _, rfl, ?_, ⟨_, rfl⟩, hW, hsame.mono (by decide) (by decide)⟩
  · show Steps p.tables e below (s₁.setTop (mkF m 0 #[.val (.ref a1), .val (.ref ta)] [])) _
    refine XS.aloadN X0.here hx rfl (hb hby d2_0) rfl rfl ?_
    show Steps p.tables e below (s₁.setTop (mkF m 1 #[.val (.ref a1), .val (.ref ta)] [(.ref a1)])) _
    refine st1 _ ?_
    show Steps p.tables e below (T1.setTop (mkF m 4 #[.val (.ref a1), .val (.ref ta)] [])) _
    refine XS.aloadN X1.here hx rfl (hb hby d2_4) rfl rfl ?_
    show Steps p.tables e below (T1.setTop (mkF m 5 #[.val (.ref a1), .val (.ref ta)] [(.ref a1)])) _
    refine XS.aloadN X1.here hx rfl (hb hby d2_5) rfl rfl ?_
    show Steps p.tables e below (T1.setTop (mkF m 6 #[.val (.ref a1), .val (.ref ta)] [(.ref ta), (.ref a1)])) _
    refine st2 _ ?_
    show Steps p.tables e below (T2.setTop (mkF m 9 #[.val (.ref a1), .val (.ref ta)] [])) _
    exact X2.returnOut hx Bd.returns (hb hby d2_9) hr
  · show Q2 Z a1 ta h0 n0 _ T2.heap _
    rw [e2]
    exact ⟨rfl, N2, Kk2, E_a1_2, Fw2, F_a1_stoppedAt_2⟩
def Q5 (Z : State) (a1 : Addr) (p1 : Int32) (h0 : Heap) (n0 : Nat) (v : Option Value) (h : Heap) (L : List Loc) : Prop := v = some (.int p1) ∧ Fr n0 L ∧ h = h0
set_option maxRecDepth 65536 in
set_option maxHeartbeats 40000000 in
theorem rm5 (l : Launch) (Z : State) (a0 : Array Value) (hw : ∀ d ∈ tables_1, d.before a0 Z = true) (ws : List Jvm.Cond) (a1 : Addr) (p1 : Int32) (h0 : Heap) (n0 : Nat) (Z0 : n0 ≤ h0.size) (F1 : Fld Z h0 a1 "com/example/governor/governor/server/MessageScanner$StopAt" "stoppedAt" "B" (.int p1)) (h1 : nar .byte p1 = p1) :
    MetFree l (⟨"com/example/governor/governor/server/MessageScanner$StopAt", "stoppedAt", "()B"⟩ : MethodName) (head1 (Jvm.Cond.code (⟨"com/example/governor/governor/server/MessageScanner$StopAt", "stoppedAt", "()B"⟩ : MethodName) prog_43_method_4_code 1 (some .byte) :: ws) ({ frames := 0, cells := 0, slots := 0, locals := 0 } : Room)) (fun a U => a = #[(.ref a1)] ∧ Z.Warmed39 U.vm ∧ U.heap = h0) (fun _ _ _ _ _ => True) (fun _ U o U' => ∃ v L, o = .returned v ∧ Q5 Z a1 p1 h0 n0 v U'.heap L ∧ FrameEnd U o U' L ({ frames := 0, cells := 0, slots := 0, locals := 0 } : Room).cells ({ frames := 0, cells := 0, slots := 0, locals := 0 } : Room).slots) := by
  refine MetFree.of_bodySF (plainFor_of_name pn_5) hisR ?_
  intro p e s m args below meth c s₁ Bd hml0 hP hK
  obtain ⟨rfl, hZ, hh⟩ := hP
  have hx := Bd.exec
  have hby := Bd.bytes
  have hml : c.maxLocals = 1 := hml0
  have hown : s.vm.findClass "com/example/governor/governor/server/MessageScanner$StopAt" = some m.cls := findClass_of_methodNamed Bd.named
  have hnm := (name_of_methodNamed Bd.named Bd.method).1
  have X0 : Stand p l e ({ frames := 0, cells := 0, slots := 0, locals := 0 } : Room) s m #[(.ref a1)] below meth c s₁ [] 0 0 := Stand.of_body Bd
  have e0 : s₁.heap = h0 := by rw [← hh, Bd.state]; rfl
  have N0 := Fr.nil n0
  have pre0 : ∀ t, Steps p.tables e below (s₁.setTop (mkF m 0 #[.val (.ref a1)] [])) t → Steps p.tables e below (s₁.setTop (entryFrame m #[(.ref a1)] 1)) t := fun t k => castTop (ef_5 m a1) k
  obtain ⟨T1, X1, e1, st1⟩ := getF X0 hx hZ hown (host := "") (Or.inl (hw _ (List.mem_of_getElem? (i := 21) rfl))) Via.refl e0 F1 (g := (mkF m 1 #[.val (.ref a1)] [(.ref a1)])) rfl rfl (hb hby d5_1)
  obtain ⟨fs, hr, hrun, hended, hW, hsame⟩ := X1.leave (v := some (.int (nar .byte p1))) (fun h => by rw [Bd.returns] at h; cases h)
  refine ⟨_, _, pre0 _ ?_, hrun, hended, _, _, rfl, ?_, ⟨_, rfl⟩, hW, hsame.mono (by decide) (by decide)⟩
  · show Steps p.tables e below (s₁.setTop (mkF m 0 #[.val (.ref a1)] [])) _
    refine XS.aloadN X0.here hx rfl (hb hby d5_0) rfl rfl ?_
    show Steps p.tables e below (s₁.setTop (mkF m 1 #[.val (.ref a1)] [(.ref a1)])) _
    refine st1 _ ?_
    show Steps p.tables e below (T1.setTop (mkF m 4 #[.val (.ref a1)] [(.int p1)])) _
    exact retN X1 hx (t := .byte) Bd.returns (by simp) (hb hby d5_4) hr
  · show Q5 Z a1 p1 h0 n0 _ T1.heap _
    rw [e1]
    exact ⟨congrArg (fun z => some (Value.int z)) h1, N0, rfl⟩
def Q6 (Z : State) (p1 p2 p3 p4 : Int32) (h0 : Heap) (n0 : Nat) (v : Option Value) (h : Heap) (L : List Loc) : Prop := v = some (.int (own_in p1 p2 p3 p4)) ∧ Fr n0 L ∧ h = h0
set_option maxRecDepth 65536 in
set_option maxHeartbeats 40000000 in
theorem rm6 (l : Launch) (Z : State) (a0 : Array Value) (hw : ∀ d ∈ tables_1, d.before a0 Z = true) (ws : List Jvm.Cond) (p1 p2 p3 p4 : Int32) (h0 : Heap) (n0 : Nat) (Z0 : n0 ≤ h0.size) :
    MetFree l (⟨"com/example/governor/governor/server/StopAtBeginsPinLaw", "inList", "(BIBB)Z"⟩ : MethodName) (head1 (Jvm.Cond.code (⟨"com/example/governor/governor/server/StopAtBeginsPinLaw", "inList", "(BIBB)Z"⟩ : MethodName) method_3_code 4 (some .boolean) :: ws) ({ frames := 0, cells := 0, slots := 0, locals := 0 } : Room)) (fun a U => a = #[(.int p1), (.int p2), (.int p3), (.int p4)] ∧ Z.Warmed39 U.vm ∧ U.heap = h0) (fun _ _ _ _ _ => True) (fun _ U o U' => ∃ v L, o = .returned v ∧ Q6 Z p1 p2 p3 p4 h0 n0 v U'.heap L ∧ FrameEnd U o U' L ({ frames := 0, cells := 0, slots := 0, locals := 0 } : Room).cells ({ frames := 0, cells := 0, slots := 0, locals := 0 } : Room).slots) := by
  refine MetFree.of_bodySF (plainFor_of_name pn_6) hisR ?_
  intro p e s m args below meth c s₁ Bd hml0 hP hK
  obtain ⟨rfl, hZ, hh⟩ := hP
  have hx := Bd.exec
  have hby := Bd.bytes
  have hml : c.maxLocals = 4 := hml0
  have hown : s.vm.findClass "com/example/governor/governor/server/StopAtBeginsPinLaw" = some m.cls := findClass_of_methodNamed Bd.named
  have hnm := (name_of_methodNamed Bd.named Bd.method).1
  have X0 : Stand p l e ({ frames := 0, cells := 0, slots := 0, locals := 0 } : Room) s m #[(.int p1), (.int p2), (.int p3), (.int p4)] below meth c s₁ [] 0 0 := Stand.of_body Bd
  have e0 : s₁.heap = h0 := by rw [← hh, Bd.state]; rfl
  have N0 := Fr.nil n0
  have pre0 : ∀ t, Steps p.tables e below (s₁.setTop (mkF m 0 #[.val (.int p1), .val (.int p2), .val (.int p3), .val (.int p4)] [])) t → Steps p.tables e below (s₁.setTop (entryFrame m #[(.int p1), (.int p2), (.int p3), (.int p4)] 4)) t := fun t k => castTop (ef_6 m p1 p2 p3 p4) k
  obtain ⟨b1, hm1, pre1⟩ : ∃ (b1 : Int32), ((b1 = 0 ∨ b1 = 1) ∧ b1 = own_in p1 p2 p3 p4) ∧ ∀ t, Steps p.tables e below (s₁.setTop (mkF m 25 #[.val (.int p1), .val (.int p2), .val (.int p3), .val (.int p4)] [(.int b1)])) t → Steps p.tables e below (s₁.setTop (entryFrame m #[(.int p1), (.int p2), (.int p3), (.int p4)] 4)) t := by
    by_cases c7 : ¬ (p2 < 1) ∧ p1 = p3
    · refine ⟨((1 : Int32)), ⟨Or.inr rfl, by unfold own_in; rw [if_pos (Or.inl c7)]⟩, fun t k => pre0 t ?_⟩
      show Steps p.tables e below (s₁.setTop (mkF m 0 #[.val (.int p1), .val (.int p2), .val (.int p3), .val (.int p4)] [])) _
      refine XS.iloadN X0.here hx rfl (hb hby d6_0) rfl ?_
      show Steps p.tables e below (s₁.setTop (mkF m 1 #[.val (.int p1), .val (.int p2), .val (.int p3), .val (.int p4)] [(.int p2)])) _
      refine XS.iconst X0.here hx rfl (hb hby d6_1) ?_
      show Steps p.tables e below (s₁.setTop (mkF m 2 #[.val (.int p1), .val (.int p2), .val (.int p3), .val (.int p4)] [(.int (1 : Int32)), (.int p2)])) _
      refine XS.icmpNo X0.here hx rfl (hb hby d6_2) rfl (flt c7.1).1 ?_
      show Steps p.tables e below (s₁.setTop (mkF m 5 #[.val (.int p1), .val (.int p2), .val (.int p3), .val (.int p4)] [])) _
      refine XS.iloadN X0.here hx rfl (hb hby d6_5) rfl ?_
      show Steps p.tables e below (s₁.setTop (mkF m 6 #[.val (.int p1), .val (.int p2), .val (.int p3), .val (.int p4)] [(.int p1)])) _
      refine XS.iloadN X0.here hx rfl (hb hby d6_6) rfl ?_
      show Steps p.tables e below (s₁.setTop (mkF m 7 #[.val (.int p1), .val (.int p2), .val (.int p3), .val (.int p4)] [(.int p3), (.int p1)])) _
      refine XS.icmpYes X0.here hx rfl (pc0 := 7) (pc' := 20) rfl (hb hby d6_7) rfl (teq c7.2).1 (by decide) (by decide) ?_
      show Steps p.tables e below (s₁.setTop (mkF m 20 #[.val (.int p1), .val (.int p2), .val (.int p3), .val (.int p4)] [])) _
      refine XS.iconst X0.here hx rfl (hb hby d6_20) ?_
      show Steps p.tables e below (s₁.setTop (mkF m 21 #[.val (.int p1), .val (.int p2), .val (.int p3), .val (.int p4)] [(.int (1 : Int32))])) _
      refine XS.goto X0.here hx rfl (pc0 := 21) (pc' := 25) rfl (hb hby d6_21) (by decide) (by decide) ?_
      exact k
    by_cases c17 : ¬ (p2 < 2) ∧ p1 = p4
    · have hp : own_in p1 p2 p3 p4 = 1 := by unfold own_in; rw [if_pos (Or.inr c17)]
      by_cases c2 : p2 < 1
      · refine ⟨((1 : Int32)), ⟨Or.inr rfl, hp.symm⟩, fun t k => pre0 t ?_⟩
        show Steps p.tables e below (s₁.setTop (mkF m 0 #[.val (.int p1), .val (.int p2), .val (.int p3), .val (.int p4)] [])) _
        refine XS.iloadN X0.here hx rfl (hb hby d6_0) rfl ?_
        show Steps p.tables e below (s₁.setTop (mkF m 1 #[.val (.int p1), .val (.int p2), .val (.int p3), .val (.int p4)] [(.int p2)])) _
        refine XS.iconst X0.here hx rfl (hb hby d6_1) ?_
        show Steps p.tables e below (s₁.setTop (mkF m 2 #[.val (.int p1), .val (.int p2), .val (.int p3), .val (.int p4)] [(.int (1 : Int32)), (.int p2)])) _
        refine XS.icmpYes X0.here hx rfl (pc0 := 2) (pc' := 10) rfl (hb hby d6_2) rfl (tlt c2).1 (by decide) (by decide) ?_
        show Steps p.tables e below (s₁.setTop (mkF m 10 #[.val (.int p1), .val (.int p2), .val (.int p3), .val (.int p4)] [])) _
        refine XS.iloadN X0.here hx rfl (hb hby d6_10) rfl ?_
        show Steps p.tables e below (s₁.setTop (mkF m 11 #[.val (.int p1), .val (.int p2), .val (.int p3), .val (.int p4)] [(.int p2)])) _
        refine XS.iconst X0.here hx rfl (hb hby d6_11) ?_
        show Steps p.tables e below (s₁.setTop (mkF m 12 #[.val (.int p1), .val (.int p2), .val (.int p3), .val (.int p4)] [(.int (2 : Int32)), (.int p2)])) _
        refine XS.icmpNo X0.here hx rfl (hb hby d6_12) rfl (flt c17.1).1 ?_
        show Steps p.tables e below (s₁.setTop (mkF m 15 #[.val (.int p1), .val (.int p2), .val (.int p3), .val (.int p4)] [])) _
        refine XS.iloadN X0.here hx rfl (hb hby d6_15) rfl ?_
        show Steps p.tables e below (s₁.setTop (mkF m 16 #[.val (.int p1), .val (.int p2), .val (.int p3), .val (.int p4)] [(.int p1)])) _
        refine XS.iloadN X0.here hx rfl (hb hby d6_16) rfl ?_
        show Steps p.tables e below (s₁.setTop (mkF m 17 #[.val (.int p1), .val (.int p2), .val (.int p3), .val (.int p4)] [(.int p4), (.int p1)])) _
        refine XS.icmpNo X0.here hx rfl (hb hby d6_17) rfl (teq c17.2).2 ?_
        show Steps p.tables e below (s₁.setTop (mkF m 20 #[.val (.int p1), .val (.int p2), .val (.int p3), .val (.int p4)] [])) _
        refine XS.iconst X0.here hx rfl (hb hby d6_20) ?_
        show Steps p.tables e below (s₁.setTop (mkF m 21 #[.val (.int p1), .val (.int p2), .val (.int p3), .val (.int p4)] [(.int (1 : Int32))])) _
        refine XS.goto X0.here hx rfl (pc0 := 21) (pc' := 25) rfl (hb hby d6_21) (by decide) (by decide) ?_
        exact k
      · refine ⟨((1 : Int32)), ⟨Or.inr rfl, hp.symm⟩, fun t k => pre0 t ?_⟩
        show Steps p.tables e below (s₁.setTop (mkF m 0 #[.val (.int p1), .val (.int p2), .val (.int p3), .val (.int p4)] [])) _
        refine XS.iloadN X0.here hx rfl (hb hby d6_0) rfl ?_
        show Steps p.tables e below (s₁.setTop (mkF m 1 #[.val (.int p1), .val (.int p2), .val (.int p3), .val (.int p4)] [(.int p2)])) _
        refine XS.iconst X0.here hx rfl (hb hby d6_1) ?_
        show Steps p.tables e below (s₁.setTop (mkF m 2 #[.val (.int p1), .val (.int p2), .val (.int p3), .val (.int p4)] [(.int (1 : Int32)), (.int p2)])) _
        refine XS.icmpNo X0.here hx rfl (hb hby d6_2) rfl (flt c2).1 ?_
        show Steps p.tables e below (s₁.setTop (mkF m 5 #[.val (.int p1), .val (.int p2), .val (.int p3), .val (.int p4)] [])) _
        refine XS.iloadN X0.here hx rfl (hb hby d6_5) rfl ?_
        show Steps p.tables e below (s₁.setTop (mkF m 6 #[.val (.int p1), .val (.int p2), .val (.int p3), .val (.int p4)] [(.int p1)])) _
        refine XS.iloadN X0.here hx rfl (hb hby d6_6) rfl ?_
        show Steps p.tables e below (s₁.setTop (mkF m 7 #[.val (.int p1), .val (.int p2), .val (.int p3), .val (.int p4)] [(.int p3), (.int p1)])) _
        refine XS.icmpNo X0.here hx rfl (hb hby d6_7) rfl (feq (fun q => c7 ⟨c2, q⟩)).1 ?_
        show Steps p.tables e below (s₁.setTop (mkF m 10 #[.val (.int p1), .val (.int p2), .val (.int p3), .val (.int p4)] [])) _
        refine XS.iloadN X0.here hx rfl (hb hby d6_10) rfl ?_
        show Steps p.tables e below (s₁.setTop (mkF m 11 #[.val (.int p1), .val (.int p2), .val (.int p3), .val (.int p4)] [(.int p2)])) _
        refine XS.iconst X0.here hx rfl (hb hby d6_11) ?_
        show Steps p.tables e below (s₁.setTop (mkF m 12 #[.val (.int p1), .val (.int p2), .val (.int p3), .val (.int p4)] [(.int (2 : Int32)), (.int p2)])) _
        refine XS.icmpNo X0.here hx rfl (hb hby d6_12) rfl (flt c17.1).1 ?_
        show Steps p.tables e below (s₁.setTop (mkF m 15 #[.val (.int p1), .val (.int p2), .val (.int p3), .val (.int p4)] [])) _
        refine XS.iloadN X0.here hx rfl (hb hby d6_15) rfl ?_
        show Steps p.tables e below (s₁.setTop (mkF m 16 #[.val (.int p1), .val (.int p2), .val (.int p3), .val (.int p4)] [(.int p1)])) _
        refine XS.iloadN X0.here hx rfl (hb hby d6_16) rfl ?_
        show Steps p.tables e below (s₁.setTop (mkF m 17 #[.val (.int p1), .val (.int p2), .val (.int p3), .val (.int p4)] [(.int p4), (.int p1)])) _
        refine XS.icmpNo X0.here hx rfl (hb hby d6_17) rfl (teq c17.2).2 ?_
        show Steps p.tables e below (s₁.setTop (mkF m 20 #[.val (.int p1), .val (.int p2), .val (.int p3), .val (.int p4)] [])) _
        refine XS.iconst X0.here hx rfl (hb hby d6_20) ?_
        show Steps p.tables e below (s₁.setTop (mkF m 21 #[.val (.int p1), .val (.int p2), .val (.int p3), .val (.int p4)] [(.int (1 : Int32))])) _
        refine XS.goto X0.here hx rfl (pc0 := 21) (pc' := 25) rfl (hb hby d6_21) (by decide) (by decide) ?_
        exact k
    have hp : own_in p1 p2 p3 p4 = 0 := by unfold own_in; rw [if_neg (fun q => q.elim c7 c17)]
    by_cases c2 : p2 < 1 <;> by_cases c12 : p2 < 2
    · refine ⟨((0 : Int32)), ⟨Or.inl rfl, hp.symm⟩, fun t k => pre0 t ?_⟩
      show Steps p.tables e below (s₁.setTop (mkF m 0 #[.val (.int p1), .val (.int p2), .val (.int p3), .val (.int p4)] [])) _
      refine XS.iloadN X0.here hx rfl (hb hby d6_0) rfl ?_
      show Steps p.tables e below (s₁.setTop (mkF m 1 #[.val (.int p1), .val (.int p2), .val (.int p3), .val (.int p4)] [(.int p2)])) _
      refine XS.iconst X0.here hx rfl (hb hby d6_1) ?_
      show Steps p.tables e below (s₁.setTop (mkF m 2 #[.val (.int p1), .val (.int p2), .val (.int p3), .val (.int p4)] [(.int (1 : Int32)), (.int p2)])) _
      refine XS.icmpYes X0.here hx rfl (pc0 := 2) (pc' := 10) rfl (hb hby d6_2) rfl (tlt c2).1 (by decide) (by decide) ?_
      show Steps p.tables e below (s₁.setTop (mkF m 10 #[.val (.int p1), .val (.int p2), .val (.int p3), .val (.int p4)] [])) _
      refine XS.iloadN X0.here hx rfl (hb hby d6_10) rfl ?_
      show Steps p.tables e below (s₁.setTop (mkF m 11 #[.val (.int p1), .val (.int p2), .val (.int p3), .val (.int p4)] [(.int p2)])) _
      refine XS.iconst X0.here hx rfl (hb hby d6_11) ?_
      show Steps p.tables e below (s₁.setTop (mkF m 12 #[.val (.int p1), .val (.int p2), .val (.int p3), .val (.int p4)] [(.int (2 : Int32)), (.int p2)])) _
      refine XS.icmpYes X0.here hx rfl (pc0 := 12) (pc' := 24) rfl (hb hby d6_12) rfl (tlt c12).1 (by decide) (by decide) ?_
      show Steps p.tables e below (s₁.setTop (mkF m 24 #[.val (.int p1), .val (.int p2), .val (.int p3), .val (.int p4)] [])) _
      refine XS.iconst X0.here hx rfl (hb hby d6_24) ?_
      exact k
    · refine ⟨((0 : Int32)), ⟨Or.inl rfl, hp.symm⟩, fun t k => pre0 t ?_⟩
      show Steps p.tables e below (s₁.setTop (mkF m 0 #[.val (.int p1), .val (.int p2), .val (.int p3), .val (.int p4)] [])) _
      refine XS.iloadN X0.here hx rfl (hb hby d6_0) rfl ?_
      show Steps p.tables e below (s₁.setTop (mkF m 1 #[.val (.int p1), .val (.int p2), .val (.int p3), .val (.int p4)] [(.int p2)])) _
      refine XS.iconst X0.here hx rfl (hb hby d6_1) ?_
      show Steps p.tables e below (s₁.setTop (mkF m 2 #[.val (.int p1), .val (.int p2), .val (.int p3), .val (.int p4)] [(.int (1 : Int32)), (.int p2)])) _
      refine XS.icmpYes X0.here hx rfl (pc0 := 2) (pc' := 10) rfl (hb hby d6_2) rfl (tlt c2).1 (by decide) (by decide) ?_
      show Steps p.tables e below (s₁.setTop (mkF m 10 #[.val (.int p1), .val (.int p2), .val (.int p3), .val (.int p4)] [])) _
      refine XS.iloadN X0.here hx rfl (hb hby d6_10) rfl ?_
      show Steps p.tables e below (s₁.setTop (mkF m 11 #[.val (.int p1), .val (.int p2), .val (.int p3), .val (.int p4)] [(.int p2)])) _
      refine XS.iconst X0.here hx rfl (hb hby d6_11) ?_
      show Steps p.tables e below (s₁.setTop (mkF m 12 #[.val (.int p1), .val (.int p2), .val (.int p3), .val (.int p4)] [(.int (2 : Int32)), (.int p2)])) _
      refine XS.icmpNo X0.here hx rfl (hb hby d6_12) rfl (flt c12).1 ?_
      show Steps p.tables e below (s₁.setTop (mkF m 15 #[.val (.int p1), .val (.int p2), .val (.int p3), .val (.int p4)] [])) _
      refine XS.iloadN X0.here hx rfl (hb hby d6_15) rfl ?_
      show Steps p.tables e below (s₁.setTop (mkF m 16 #[.val (.int p1), .val (.int p2), .val (.int p3), .val (.int p4)] [(.int p1)])) _
      refine XS.iloadN X0.here hx rfl (hb hby d6_16) rfl ?_
      show Steps p.tables e below (s₁.setTop (mkF m 17 #[.val (.int p1), .val (.int p2), .val (.int p3), .val (.int p4)] [(.int p4), (.int p1)])) _
      refine XS.icmpYes X0.here hx rfl (pc0 := 17) (pc' := 24) rfl (hb hby d6_17) rfl (feq (fun q => c17 ⟨c12, q⟩)).2 (by decide) (by decide) ?_
      show Steps p.tables e below (s₁.setTop (mkF m 24 #[.val (.int p1), .val (.int p2), .val (.int p3), .val (.int p4)] [])) _
      refine XS.iconst X0.here hx rfl (hb hby d6_24) ?_
      exact k
    · refine ⟨((0 : Int32)), ⟨Or.inl rfl, hp.symm⟩, fun t k => pre0 t ?_⟩
      show Steps p.tables e below (s₁.setTop (mkF m 0 #[.val (.int p1), .val (.int p2), .val (.int p3), .val (.int p4)] [])) _
      refine XS.iloadN X0.here hx rfl (hb hby d6_0) rfl ?_
      show Steps p.tables e below (s₁.setTop (mkF m 1 #[.val (.int p1), .val (.int p2), .val (.int p3), .val (.int p4)] [(.int p2)])) _
      refine XS.iconst X0.here hx rfl (hb hby d6_1) ?_
      show Steps p.tables e below (s₁.setTop (mkF m 2 #[.val (.int p1), .val (.int p2), .val (.int p3), .val (.int p4)] [(.int (1 : Int32)), (.int p2)])) _
      refine XS.icmpNo X0.here hx rfl (hb hby d6_2) rfl (flt c2).1 ?_
      show Steps p.tables e below (s₁.setTop (mkF m 5 #[.val (.int p1), .val (.int p2), .val (.int p3), .val (.int p4)] [])) _
      refine XS.iloadN X0.here hx rfl (hb hby d6_5) rfl ?_
      show Steps p.tables e below (s₁.setTop (mkF m 6 #[.val (.int p1), .val (.int p2), .val (.int p3), .val (.int p4)] [(.int p1)])) _
      refine XS.iloadN X0.here hx rfl (hb hby d6_6) rfl ?_
      show Steps p.tables e below (s₁.setTop (mkF m 7 #[.val (.int p1), .val (.int p2), .val (.int p3), .val (.int p4)] [(.int p3), (.int p1)])) _
      refine XS.icmpNo X0.here hx rfl (hb hby d6_7) rfl (feq (fun q => c7 ⟨c2, q⟩)).1 ?_
      show Steps p.tables e below (s₁.setTop (mkF m 10 #[.val (.int p1), .val (.int p2), .val (.int p3), .val (.int p4)] [])) _
      refine XS.iloadN X0.here hx rfl (hb hby d6_10) rfl ?_
      show Steps p.tables e below (s₁.setTop (mkF m 11 #[.val (.int p1), .val (.int p2), .val (.int p3), .val (.int p4)] [(.int p2)])) _
      refine XS.iconst X0.here hx rfl (hb hby d6_11) ?_
      show Steps p.tables e below (s₁.setTop (mkF m 12 #[.val (.int p1), .val (.int p2), .val (.int p3), .val (.int p4)] [(.int (2 : Int32)), (.int p2)])) _
      refine XS.icmpYes X0.here hx rfl (pc0 := 12) (pc' := 24) rfl (hb hby d6_12) rfl (tlt c12).1 (by decide) (by decide) ?_
      show Steps p.tables e below (s₁.setTop (mkF m 24 #[.val (.int p1), .val (.int p2), .val (.int p3), .val (.int p4)] [])) _
      refine XS.iconst X0.here hx rfl (hb hby d6_24) ?_
      exact k
    · refine ⟨((0 : Int32)), ⟨Or.inl rfl, hp.symm⟩, fun t k => pre0 t ?_⟩
      show Steps p.tables e below (s₁.setTop (mkF m 0 #[.val (.int p1), .val (.int p2), .val (.int p3), .val (.int p4)] [])) _
      refine XS.iloadN X0.here hx rfl (hb hby d6_0) rfl ?_
      show Steps p.tables e below (s₁.setTop (mkF m 1 #[.val (.int p1), .val (.int p2), .val (.int p3), .val (.int p4)] [(.int p2)])) _
      refine XS.iconst X0.here hx rfl (hb hby d6_1) ?_
      show Steps p.tables e below (s₁.setTop (mkF m 2 #[.val (.int p1), .val (.int p2), .val (.int p3), .val (.int p4)] [(.int (1 : Int32)), (.int p2)])) _
      refine XS.icmpNo X0.here hx rfl (hb hby d6_2) rfl (flt c2).1 ?_
      show Steps p.tables e below (s₁.setTop (mkF m 5 #[.val (.int p1), .val (.int p2), .val (.int p3), .val (.int p4)] [])) _
      refine XS.iloadN X0.here hx rfl (hb hby d6_5) rfl ?_
      show Steps p.tables e below (s₁.setTop (mkF m 6 #[.val (.int p1), .val (.int p2), .val (.int p3), .val (.int p4)] [(.int p1)])) _
      refine XS.iloadN X0.here hx rfl (hb hby d6_6) rfl ?_
      show Steps p.tables e below (s₁.setTop (mkF m 7 #[.val (.int p1), .val (.int p2), .val (.int p3), .val (.int p4)] [(.int p3), (.int p1)])) _
      refine XS.icmpNo X0.here hx rfl (hb hby d6_7) rfl (feq (fun q => c7 ⟨c2, q⟩)).1 ?_
      show Steps p.tables e below (s₁.setTop (mkF m 10 #[.val (.int p1), .val (.int p2), .val (.int p3), .val (.int p4)] [])) _
      refine XS.iloadN X0.here hx rfl (hb hby d6_10) rfl ?_
      show Steps p.tables e below (s₁.setTop (mkF m 11 #[.val (.int p1), .val (.int p2), .val (.int p3), .val (.int p4)] [(.int p2)])) _
      refine XS.iconst X0.here hx rfl (hb hby d6_11) ?_
      show Steps p.tables e below (s₁.setTop (mkF m 12 #[.val (.int p1), .val (.int p2), .val (.int p3), .val (.int p4)] [(.int (2 : Int32)), (.int p2)])) _
      refine XS.icmpNo X0.here hx rfl (hb hby d6_12) rfl (flt c12).1 ?_
      show Steps p.tables e below (s₁.setTop (mkF m 15 #[.val (.int p1), .val (.int p2), .val (.int p3), .val (.int p4)] [])) _
      refine XS.iloadN X0.here hx rfl (hb hby d6_15) rfl ?_
      show Steps p.tables e below (s₁.setTop (mkF m 16 #[.val (.int p1), .val (.int p2), .val (.int p3), .val (.int p4)] [(.int p1)])) _
      refine XS.iloadN X0.here hx rfl (hb hby d6_16) rfl ?_
      show Steps p.tables e below (s₁.setTop (mkF m 17 #[.val (.int p1), .val (.int p2), .val (.int p3), .val (.int p4)] [(.int p4), (.int p1)])) _
      refine XS.icmpYes X0.here hx rfl (pc0 := 17) (pc' := 24) rfl (hb hby d6_17) rfl (feq (fun q => c17 ⟨c12, q⟩)).2 (by decide) (by decide) ?_
      show Steps p.tables e below (s₁.setTop (mkF m 24 #[.val (.int p1), .val (.int p2), .val (.int p3), .val (.int p4)] [])) _
      refine XS.iconst X0.here hx rfl (hb hby d6_24) ?_
      exact k
  obtain ⟨fs, hr, hrun, hended, hW, hsame⟩ := X0.leave (v := some (.int (nar .boolean b1))) (fun h => by rw [Bd.returns] at h; cases h)
  refine ⟨_, _, pre1 _ ?_, hrun, hended, _, _, rfl, ?_, ⟨_, rfl⟩, hW, hsame.mono (by decide) (by decide)⟩
  · show Steps p.tables e below (s₁.setTop (mkF m 25 #[.val (.int p1), .val (.int p2), .val (.int p3), .val (.int p4)] [(.int b1)])) _
    exact retN X0 hx (t := .boolean) Bd.returns (by simp) (hb hby d6_25) hr
  · show Q6 Z p1 p2 p3 p4 h0 n0 _ s₁.heap _
    rw [e0]
    exact ⟨congrArg (fun z => some (Value.int z)) ((by rcases hm1.1 with q | q <;> rw [q] <;> rfl : nar .boolean b1 = b1).trans hm1.2), N0, rfl⟩
def Q4x0 (Z : State) (a1 : Addr) (p1 : Int32) (ta : Addr) (s0 : Int32) (kk : ClassId) (h0 : Heap) (n0 : Nat) (v : Option Value) (h : Heap) (L : List Loc) : Prop := v = some (.int (own_z (own_st [] p1 s0))) ∧ Fr n0 L ∧ Keep h0 h [a1] ∧ Exa Z h a1 "com/example/governor/governor/server/MessageScanner$StopAt" ∧ Fld Z h a1 "com/example/governor/governor/server/MessageScanner$StopAt" "types" "[B" (.ref ta) ∧ Fld Z h a1 "com/example/governor/governor/server/MessageScanner$StopAt" "stoppedAt" "B" (.int (own_st [] p1 s0))
set_option maxRecDepth 65536 in
set_option maxHeartbeats 40000000 in
theorem rm4x0 (l : Launch) (Z : State) (a0 : Array Value) (hw : ∀ d ∈ tables_1, d.before a0 Z = true) (ws : List Jvm.Cond) (a1 : Addr) (p1 : Int32) (ta : Addr) (s0 : Int32) (kk : ClassId) (h0 : Heap) (n0 : Nat) (Z0 : n0 ≤ h0.size) (F1 : Fld Z h0 a1 "com/example/governor/governor/server/MessageScanner$StopAt" "types" "[B" (.ref ta)) (F2 : Fld Z h0 a1 "com/example/governor/governor/server/MessageScanner$StopAt" "stoppedAt" "B" (.int s0)) (E1 : Exa Z h0 a1 "com/example/governor/governor/server/MessageScanner$StopAt") (g1 : n0 ≤ a1) (V1 : Arv Z h0 ta kk .byte (0 : Int32) [] (.int (0 : Int32))) (ne1 : ta ≠ a1) (h1 : nar .byte p1 = p1) :
    MetFree l (⟨"com/example/governor/governor/server/MessageScanner$StopAt", "begins", "(B)Z"⟩ : MethodName) (head1 (Jvm.Cond.code (⟨"com/example/governor/governor/server/MessageScanner$StopAt", "begins", "(B)Z"⟩ : MethodName) prog_43_method_2_code 6 (some .boolean) :: ws) ({ frames := 0, cells := 0, slots := 0, locals := 0 } : Room)) (fun a U => a = #[(.ref a1), (.int p1)] ∧ Z.Warmed39 U.vm ∧ U.heap = h0) (fun _ _ _ _ _ => True) (fun _ U o U' => ∃ v L, o = .returned v ∧ Q4x0 Z a1 p1 ta s0 kk  h0 n0 v U'.heap L ∧ FrameEnd U o U' L ({ frames := 0, cells := 0, slots := 0, locals := 0 } : Room).cells ({ frames := 0, cells := 0, slots := 0, locals := 0 } : Room).slots) := by
  refine MetFree.of_bodySF (plainFor_of_name pn_4) hisR ?_
  intro p e s m args below meth c s₁ Bd hml0 hP hK
  obtain ⟨rfl, hZ, hh⟩ := hP
  have hx := Bd.exec
  have hby := Bd.bytes
  have hml : c.maxLocals = 6 := hml0
  have hown : s.vm.findClass "com/example/governor/governor/server/MessageScanner$StopAt" = some m.cls := findClass_of_methodNamed Bd.named
  have hnm := (name_of_methodNamed Bd.named Bd.method).1
  have X0 : Stand p l e ({ frames := 0, cells := 0, slots := 0, locals := 0 } : Room) s m #[(.ref a1), (.int p1)] below meth c s₁ [] 0 0 := Stand.of_body Bd
  have e0 : s₁.heap = h0 := by rw [← hh, Bd.state]; rfl
  have N0 := Fr.nil n0
  have pre0 : ∀ t, Steps p.tables e below (s₁.setTop (mkF m 0 #[.val (.ref a1), .val (.int p1), .unset, .unset, .unset, .unset] [])) t → Steps p.tables e below (s₁.setTop (entryFrame m #[(.ref a1), (.int p1)] 6)) t := fun t k => castTop (ef_4 m a1 p1) k
  have KK0 := Keep.refl h0 [a1]
  obtain ⟨T1, X1, e1, st1⟩ := getF X0 hx hZ hown (host := "") (Or.inl (hw _ (List.mem_of_getElem? (i := 14) rfl))) Via.refl e0 F1 (g := (mkF m 1 #[.val (.ref a1), .val (.int p1), .unset, .unset, .unset, .unset] [(.ref a1)])) rfl rfl (hb hby d4_1)
  obtain ⟨cl2, Ar2, -, S2, N2m, H2, -⟩ := id V1
  have pre1 : ∀ t, Steps p.tables e below (T1.setTop (mkF m 11 #[.val (.ref a1), .val (.int p1), .val (.ref ta), .val (.int (0 : Int32)), .val (.int (0 : Int32)), .unset] [])) t → Steps p.tables e below (s₁.setTop (entryFrame m #[(.ref a1), (.int p1)] 6)) t := by
    intro t k
    refine pre0 t ?_
    show Steps p.tables e below (s₁.setTop (mkF m 0 #[.val (.ref a1), .val (.int p1), .unset, .unset, .unset, .unset] [])) _
    refine XS.aloadN X0.here hx rfl (hb hby d4_0) rfl rfl ?_
    show Steps p.tables e below (s₁.setTop (mkF m 1 #[.val (.ref a1), .val (.int p1), .unset, .unset, .unset, .unset] [(.ref a1)])) _
    refine st1 _ ?_
    show Steps p.tables e below (T1.setTop (mkF m 4 #[.val (.ref a1), .val (.int p1), .unset, .unset, .unset, .unset] [(.ref ta)])) _
    refine XS.astoreN X1.here hx rfl (hb hby d4_4) rfl rfl (l' := #[.val (.ref a1), .val (.int p1), .val (.ref ta), .unset, .unset, .unset]) rfl ?_
    show Steps p.tables e below (T1.setTop (mkF m 5 #[.val (.ref a1), .val (.int p1), .val (.ref ta), .unset, .unset, .unset] [])) _
    refine XS.aloadN X1.here hx rfl (hb hby d4_5) rfl rfl ?_
    show Steps p.tables e below (T1.setTop (mkF m 6 #[.val (.ref a1), .val (.int p1), .val (.ref ta), .unset, .unset, .unset] [(.ref ta)])) _
    refine X1.arraylength hx (by rw [e1]; exact Ar2.1) (State.isArrayOf_alike hZ.alike Ar2.2.1) (g := (mkF m 6 #[.val (.ref a1), .val (.int p1), .val (.ref ta), .unset, .unset, .unset] [(.ref ta)])) rfl rfl (hb hby d4_6) _ ?_
    rw [len_of S2 N2m]
    show Steps p.tables e below (T1.setTop (mkF m 7 #[.val (.ref a1), .val (.int p1), .val (.ref ta), .unset, .unset, .unset] [(.int (0 : Int32))])) _
    refine XS.istoreN X1.here hx rfl (hb hby d4_7) rfl (l' := #[.val (.ref a1), .val (.int p1), .val (.ref ta), .val (.int (0 : Int32)), .unset, .unset]) rfl ?_
    show Steps p.tables e below (T1.setTop (mkF m 8 #[.val (.ref a1), .val (.int p1), .val (.ref ta), .val (.int (0 : Int32)), .unset, .unset] [])) _
    refine XS.iconst X1.here hx rfl (hb hby d4_8) ?_
    show Steps p.tables e below (T1.setTop (mkF m 9 #[.val (.ref a1), .val (.int p1), .val (.ref ta), .val (.int (0 : Int32)), .unset, .unset] [(.int (0 : Int32))])) _
    refine XS.istore X1.here hx rfl (hb hby d4_9) rfl (l' := #[.val (.ref a1), .val (.int p1), .val (.ref ta), .val (.int (0 : Int32)), .val (.int (0 : Int32)), .unset]) rfl ?_
    exact k
  have hst : own_st [] p1 s0 = s0 := by simp [own_st]
  obtain ⟨T3, X3, e3, st3⟩ := getF X1 hx hZ hown (host := "") (Or.inl (hw _ (List.mem_of_getElem? (i := 21) rfl))) Via.refl e1 F2 (g := (mkF m 41 #[.val (.ref a1), .val (.int p1), .val (.ref ta), .val (.int (0 : Int32)), .val (.int (0 : Int32)), .unset] [(.ref a1)])) rfl rfl (hb hby d4_41)
  have pre2 : ∀ t, Steps p.tables e below (T3.setTop (mkF m 44 #[.val (.ref a1), .val (.int p1), .val (.ref ta), .val (.int (0 : Int32)), .val (.int (0 : Int32)), .unset] [(.int s0)])) t → Steps p.tables e below (s₁.setTop (entryFrame m #[(.ref a1), (.int p1)] 6)) t := by
    intro t k
    refine pre1 t ?_
    show Steps p.tables e below (T1.setTop (mkF m 11 #[.val (.ref a1), .val (.int p1), .val (.ref ta), .val (.int (0 : Int32)), .val (.int (0 : Int32)), .unset] [])) _
    refine XS.iload X1.here hx rfl (hb hby d4_11) rfl ?_
    show Steps p.tables e below (T1.setTop (mkF m 13 #[.val (.ref a1), .val (.int p1), .val (.ref ta), .val (.int (0 : Int32)), .val (.int (0 : Int32)), .unset] [(.int (0 : Int32))])) _
    refine XS.iloadN X1.here hx rfl (hb hby d4_13) rfl ?_
    show Steps p.tables e below (T1.setTop (mkF m 14 #[.val (.ref a1), .val (.int p1), .val (.ref ta), .val (.int (0 : Int32)), .val (.int (0 : Int32)), .unset] [(.int (0 : Int32)), (.int (0 : Int32))])) _
    refine XS.icmpYes X1.here hx rfl (pc0 := 14) (pc' := 40) rfl (hb hby d4_14) rfl (flt (by decide : ¬ ((0 : Int32) < (0 : Int32)))).2.1 (by decide) (by decide) ?_
    show Steps p.tables e below (T1.setTop (mkF m 40 #[.val (.ref a1), .val (.int p1), .val (.ref ta), .val (.int (0 : Int32)), .val (.int (0 : Int32)), .unset] [])) _
    refine XS.aloadN X1.here hx rfl (hb hby d4_40) rfl rfl ?_
    show Steps p.tables e below (T1.setTop (mkF m 41 #[.val (.ref a1), .val (.int p1), .val (.ref ta), .val (.int (0 : Int32)), .val (.int (0 : Int32)), .unset] [(.ref a1)])) _
    refine st3 _ ?_
    exact k
  by_cases c44 : s0 = 0
  · skip
    obtain ⟨fs, hr, hrun, hended, hW, hsame⟩ := X3.leave (v := some (.int (1 : Int32))) (fun h => by rw [Bd.returns] at h; cases h)
    refine ⟨_, _, pre2 _ ?_, hrun, hended, _, _, rfl, ?_, ⟨_, rfl⟩, hW, hsame.mono (by decide) (by decide)⟩
    · show Steps p.tables e below (T3.setTop (mkF m 44 #[.val (.ref a1), .val (.int p1), .val (.ref ta), .val (.int (0 : Int32)), .val (.int (0 : Int32)), .unset] [(.int s0)])) _
      refine XS.ifNo X3.here hx rfl (hb hby d4_44) rfl ((if0 _ _).trans (teq c44).2) ?_
      show Steps p.tables e below (T3.setTop (mkF m 47 #[.val (.ref a1), .val (.int p1), .val (.ref ta), .val (.int (0 : Int32)), .val (.int (0 : Int32)), .unset] [])) _
      refine XS.iconst X3.here hx rfl (hb hby d4_47) ?_
      show Steps p.tables e below (T3.setTop (mkF m 48 #[.val (.ref a1), .val (.int p1), .val (.ref ta), .val (.int (0 : Int32)), .val (.int (0 : Int32)), .unset] [(.int (1 : Int32))])) _
      refine XS.goto X3.here hx rfl (pc0 := 48) (pc' := 52) rfl (hb hby d4_48) (by decide) (by decide) ?_
      show Steps p.tables e below (T3.setTop (mkF m 52 #[.val (.ref a1), .val (.int p1), .val (.ref ta), .val (.int (0 : Int32)), .val (.int (0 : Int32)), .unset] [(.int (1 : Int32))])) _
      exact retN X3 hx (t := .boolean) Bd.returns (by simp) (hb hby d4_52) hr
    · show Q4x0 Z a1 p1 ta s0 kk  h0 n0 _ T3.heap _
      rw [e3]
      exact ⟨by rw [hst]; unfold own_z; rw [if_pos c44], N0, KK0, E1, F1, by rw [hst]; exact F2⟩
  · skip
    obtain ⟨fs, hr, hrun, hended, hW, hsame⟩ := X3.leave (v := some (.int (0 : Int32))) (fun h => by rw [Bd.returns] at h; cases h)
    refine ⟨_, _, pre2 _ ?_, hrun, hended, _, _, rfl, ?_, ⟨_, rfl⟩, hW, hsame.mono (by decide) (by decide)⟩
    · show Steps p.tables e below (T3.setTop (mkF m 44 #[.val (.ref a1), .val (.int p1), .val (.ref ta), .val (.int (0 : Int32)), .val (.int (0 : Int32)), .unset] [(.int s0)])) _
      refine XS.ifYes X3.here hx rfl (pc0 := 44) (pc' := 51) rfl (hb hby d4_44) rfl ((if0 _ _).trans (feq c44).2) (by decide) (by decide) ?_
      show Steps p.tables e below (T3.setTop (mkF m 51 #[.val (.ref a1), .val (.int p1), .val (.ref ta), .val (.int (0 : Int32)), .val (.int (0 : Int32)), .unset] [])) _
      refine XS.iconst X3.here hx rfl (hb hby d4_51) ?_
      show Steps p.tables e below (T3.setTop (mkF m 52 #[.val (.ref a1), .val (.int p1), .val (.ref ta), .val (.int (0 : Int32)), .val (.int (0 : Int32)), .unset] [(.int (0 : Int32))])) _
      exact retN X3 hx (t := .boolean) Bd.returns (by simp) (hb hby d4_52) hr
    · show Q4x0 Z a1 p1 ta s0 kk  h0 n0 _ T3.heap _
      rw [e3]
      exact ⟨by rw [hst]; unfold own_z; rw [if_neg c44], N0, KK0, E1, F1, by rw [hst]; exact F2⟩
def Q4x1 (Z : State) (a1 : Addr) (p1 : Int32) (ta : Addr) (s0 : Int32) (kk : ClassId) (v0 : Int32) (h0 : Heap) (n0 : Nat) (v : Option Value) (h : Heap) (L : List Loc) : Prop := v = some (.int (own_z (own_st [v0] p1 s0))) ∧ Fr n0 L ∧ Keep h0 h [a1] ∧ Exa Z h a1 "com/example/governor/governor/server/MessageScanner$StopAt" ∧ Fld Z h a1 "com/example/governor/governor/server/MessageScanner$StopAt" "types" "[B" (.ref ta) ∧ Fld Z h a1 "com/example/governor/governor/server/MessageScanner$StopAt" "stoppedAt" "B" (.int (own_st [v0] p1 s0))
set_option maxRecDepth 65536 in
set_option maxHeartbeats 40000000 in
theorem rm4x1 (l : Launch) (Z : State) (a0 : Array Value) (hw : ∀ d ∈ tables_1, d.before a0 Z = true) (ws : List Jvm.Cond) (a1 : Addr) (p1 : Int32) (ta : Addr) (s0 : Int32) (kk : ClassId) (v0 : Int32) (h0 : Heap) (n0 : Nat) (Z0 : n0 ≤ h0.size) (F1 : Fld Z h0 a1 "com/example/governor/governor/server/MessageScanner$StopAt" "types" "[B" (.ref ta)) (F2 : Fld Z h0 a1 "com/example/governor/governor/server/MessageScanner$StopAt" "stoppedAt" "B" (.int s0)) (E1 : Exa Z h0 a1 "com/example/governor/governor/server/MessageScanner$StopAt") (g1 : n0 ≤ a1) (V1 : Arv Z h0 ta kk .byte (1 : Int32) [(.int v0)] (.int (0 : Int32))) (ne1 : ta ≠ a1) (h1 : nar .byte p1 = p1) :
    MetFree l (⟨"com/example/governor/governor/server/MessageScanner$StopAt", "begins", "(B)Z"⟩ : MethodName) (head1 (Jvm.Cond.code (⟨"com/example/governor/governor/server/MessageScanner$StopAt", "begins", "(B)Z"⟩ : MethodName) prog_43_method_2_code 6 (some .boolean) :: ws) ({ frames := 0, cells := 0, slots := 0, locals := 0 } : Room)) (fun a U => a = #[(.ref a1), (.int p1)] ∧ Z.Warmed39 U.vm ∧ U.heap = h0) (fun _ _ _ _ _ => True) (fun _ U o U' => ∃ v L, o = .returned v ∧ Q4x1 Z a1 p1 ta s0 kk v0 h0 n0 v U'.heap L ∧ FrameEnd U o U' L ({ frames := 0, cells := 0, slots := 0, locals := 0 } : Room).cells ({ frames := 0, cells := 0, slots := 0, locals := 0 } : Room).slots) := by
  refine MetFree.of_bodySF (plainFor_of_name pn_4) hisR ?_
  intro p e s m args below meth c s₁ Bd hml0 hP hK
  obtain ⟨rfl, hZ, hh⟩ := hP
  have hx := Bd.exec
  have hby := Bd.bytes
  have hml : c.maxLocals = 6 := hml0
  have hown : s.vm.findClass "com/example/governor/governor/server/MessageScanner$StopAt" = some m.cls := findClass_of_methodNamed Bd.named
  have hnm := (name_of_methodNamed Bd.named Bd.method).1
  have X0 : Stand p l e ({ frames := 0, cells := 0, slots := 0, locals := 0 } : Room) s m #[(.ref a1), (.int p1)] below meth c s₁ [] 0 0 := Stand.of_body Bd
  have e0 : s₁.heap = h0 := by rw [← hh, Bd.state]; rfl
  have N0 := Fr.nil n0
  have pre0 : ∀ t, Steps p.tables e below (s₁.setTop (mkF m 0 #[.val (.ref a1), .val (.int p1), .unset, .unset, .unset, .unset] [])) t → Steps p.tables e below (s₁.setTop (entryFrame m #[(.ref a1), (.int p1)] 6)) t := fun t k => castTop (ef_4 m a1 p1) k
  have KK0 := Keep.refl h0 [a1]
  obtain ⟨T1, X1, e1, st1⟩ := getF X0 hx hZ hown (host := "") (Or.inl (hw _ (List.mem_of_getElem? (i := 14) rfl))) Via.refl e0 F1 (g := (mkF m 1 #[.val (.ref a1), .val (.int p1), .unset, .unset, .unset, .unset] [(.ref a1)])) rfl rfl (hb hby d4_1)
  obtain ⟨cl2, Ar2, -, S2, N2m, H2, -⟩ := id V1
  have pre1 : ∀ t, Steps p.tables e below (T1.setTop (mkF m 11 #[.val (.ref a1), .val (.int p1), .val (.ref ta), .val (.int (1 : Int32)), .val (.int (0 : Int32)), .unset] [])) t → Steps p.tables e below (s₁.setTop (entryFrame m #[(.ref a1), (.int p1)] 6)) t := by
    intro t k
    refine pre0 t ?_
    show Steps p.tables e below (s₁.setTop (mkF m 0 #[.val (.ref a1), .val (.int p1), .unset, .unset, .unset, .unset] [])) _
    refine XS.aloadN X0.here hx rfl (hb hby d4_0) rfl rfl ?_
    show Steps p.tables e below (s₁.setTop (mkF m 1 #[.val (.ref a1), .val (.int p1), .unset, .unset, .unset, .unset] [(.ref a1)])) _
    refine st1 _ ?_
    show Steps p.tables e below (T1.setTop (mkF m 4 #[.val (.ref a1), .val (.int p1), .unset, .unset, .unset, .unset] [(.ref ta)])) _
    refine XS.astoreN X1.here hx rfl (hb hby d4_4) rfl rfl (l' := #[.val (.ref a1), .val (.int p1), .val (.ref ta), .unset, .unset, .unset]) rfl ?_
    show Steps p.tables e below (T1.setTop (mkF m 5 #[.val (.ref a1), .val (.int p1), .val (.ref ta), .unset, .unset, .unset] [])) _
    refine XS.aloadN X1.here hx rfl (hb hby d4_5) rfl rfl ?_
    show Steps p.tables e below (T1.setTop (mkF m 6 #[.val (.ref a1), .val (.int p1), .val (.ref ta), .unset, .unset, .unset] [(.ref ta)])) _
    refine X1.arraylength hx (by rw [e1]; exact Ar2.1) (State.isArrayOf_alike hZ.alike Ar2.2.1) (g := (mkF m 6 #[.val (.ref a1), .val (.int p1), .val (.ref ta), .unset, .unset, .unset] [(.ref ta)])) rfl rfl (hb hby d4_6) _ ?_
    rw [len_of S2 N2m]
    show Steps p.tables e below (T1.setTop (mkF m 7 #[.val (.ref a1), .val (.int p1), .val (.ref ta), .unset, .unset, .unset] [(.int (1 : Int32))])) _
    refine XS.istoreN X1.here hx rfl (hb hby d4_7) rfl (l' := #[.val (.ref a1), .val (.int p1), .val (.ref ta), .val (.int (1 : Int32)), .unset, .unset]) rfl ?_
    show Steps p.tables e below (T1.setTop (mkF m 8 #[.val (.ref a1), .val (.int p1), .val (.ref ta), .val (.int (1 : Int32)), .unset, .unset] [])) _
    refine XS.iconst X1.here hx rfl (hb hby d4_8) ?_
    show Steps p.tables e below (T1.setTop (mkF m 9 #[.val (.ref a1), .val (.int p1), .val (.ref ta), .val (.int (1 : Int32)), .unset, .unset] [(.int (0 : Int32))])) _
    refine XS.istore X1.here hx rfl (hb hby d4_9) rfl (l' := #[.val (.ref a1), .val (.int p1), .val (.ref ta), .val (.int (1 : Int32)), .val (.int (0 : Int32)), .unset]) rfl ?_
    exact k
  obtain ⟨cl3, Ar3, -, S3, N3m, H3, -⟩ := id V1
  have hin3 : ¬ ((0 : Int32) < 0 ∨ cl3.slots.size ≤ ((0 : Int32)).toNatClampNeg) := inb_of S3 ⟨by decide, by decide⟩
  have hat3 : cl3.slots[((0 : Int32)).toNatClampNeg]? = some (.int v0) := Has.at H3 hin3 rfl
  have pre2 : ∀ t, Steps p.tables e below (T1.setTop (mkF m 26 #[.val (.ref a1), .val (.int p1), .val (.ref ta), .val (.int (1 : Int32)), .val (.int (0 : Int32)), .val (.int v0)] [(.int v0), (.int p1)])) t → Steps p.tables e below (s₁.setTop (entryFrame m #[(.ref a1), (.int p1)] 6)) t := by
    intro t k
    refine pre1 t ?_
    show Steps p.tables e below (T1.setTop (mkF m 11 #[.val (.ref a1), .val (.int p1), .val (.ref ta), .val (.int (1 : Int32)), .val (.int (0 : Int32)), .unset] [])) _
    refine XS.iload X1.here hx rfl (hb hby d4_11) rfl ?_
    show Steps p.tables e below (T1.setTop (mkF m 13 #[.val (.ref a1), .val (.int p1), .val (.ref ta), .val (.int (1 : Int32)), .val (.int (0 : Int32)), .unset] [(.int (0 : Int32))])) _
    refine XS.iloadN X1.here hx rfl (hb hby d4_13) rfl ?_
    show Steps p.tables e below (T1.setTop (mkF m 14 #[.val (.ref a1), .val (.int p1), .val (.ref ta), .val (.int (1 : Int32)), .val (.int (0 : Int32)), .unset] [(.int (1 : Int32)), (.int (0 : Int32))])) _
    refine XS.icmpNo X1.here hx rfl (hb hby d4_14) rfl (tlt (by decide : (0 : Int32) < (1 : Int32))).2.1 ?_
    show Steps p.tables e below (T1.setTop (mkF m 17 #[.val (.ref a1), .val (.int p1), .val (.ref ta), .val (.int (1 : Int32)), .val (.int (0 : Int32)), .unset] [])) _
    refine XS.aloadN X1.here hx rfl (hb hby d4_17) rfl rfl ?_
    show Steps p.tables e below (T1.setTop (mkF m 18 #[.val (.ref a1), .val (.int p1), .val (.ref ta), .val (.int (1 : Int32)), .val (.int (0 : Int32)), .unset] [(.ref ta)])) _
    refine XS.iload X1.here hx rfl (hb hby d4_18) rfl ?_
    show Steps p.tables e below (T1.setTop (mkF m 20 #[.val (.ref a1), .val (.int p1), .val (.ref ta), .val (.int (1 : Int32)), .val (.int (0 : Int32)), .unset] [(.int (0 : Int32)), (.ref ta)])) _
    refine X1.baloadBytes hx (j := (0 : Int32)) (v := (.int v0)) (by rw [e1]; exact Ar3.1) (State.isArrayOf_alike hZ.alike Ar3.2.1) Ar3.2.2 hin3 hat3 (g := (mkF m 20 #[.val (.ref a1), .val (.int p1), .val (.ref ta), .val (.int (1 : Int32)), .val (.int (0 : Int32)), .unset] [(.int (0 : Int32)), (.ref ta)])) rfl rfl (hb hby d4_20) _ ?_
    show Steps p.tables e below (T1.setTop (mkF m 21 #[.val (.ref a1), .val (.int p1), .val (.ref ta), .val (.int (1 : Int32)), .val (.int (0 : Int32)), .unset] [(.int v0)])) _
    refine XS.istore X1.here hx rfl (hb hby d4_21) rfl (l' := #[.val (.ref a1), .val (.int p1), .val (.ref ta), .val (.int (1 : Int32)), .val (.int (0 : Int32)), .val (.int v0)]) rfl ?_
    show Steps p.tables e below (T1.setTop (mkF m 23 #[.val (.ref a1), .val (.int p1), .val (.ref ta), .val (.int (1 : Int32)), .val (.int (0 : Int32)), .val (.int v0)] [])) _
    refine XS.iloadN X1.here hx rfl (hb hby d4_23) rfl ?_
    show Steps p.tables e below (T1.setTop (mkF m 24 #[.val (.ref a1), .val (.int p1), .val (.ref ta), .val (.int (1 : Int32)), .val (.int (0 : Int32)), .val (.int v0)] [(.int p1)])) _
    refine XS.iload X1.here hx rfl (hb hby d4_24) rfl ?_
    exact k
  by_cases c26_0 : p1 = v0
  · skip
    obtain ⟨T4, h4, X4, e4, W4, st4⟩ := putFN X1 hx hZ hown (hw _ (List.mem_of_getElem? (i := 21) rfl)) Via.refl e1 F2 E1 (Or.inl (hw _ (List.mem_of_getElem? (i := 22) rfl))) (hw _ (List.mem_of_getElem? (i := 6) rfl)) (ty := .byte) (v' := (.int (nar .byte p1))) (by decide) rfl (fits_nar_byte _) (g := (mkF m 31 #[.val (.ref a1), .val (.int p1), .val (.ref ta), .val (.int (1 : Int32)), .val (.int (0 : Int32)), .val (.int v0)] [(.int p1), (.ref a1)])) rfl rfl (hb hby d4_31)
    have N4 := Fr.snoc X4 N0 g1
    have Fw4 := Fld.same W4 F2
    rw [h1] at Fw4
    have F_a1_types_4 := F1.other W4 (Or.inr (slot_ne (Or.inr (hw _ (List.mem_of_getElem? (i := 15) rfl))) (Or.inl (hw _ (List.mem_of_getElem? (i := 22) rfl))) (by decide) (t := (.array .byte)) (t' := .byte) (by decide) (by decide)))
    have E_a1_4 := E1.wr W4
    have V_ta_4 := V1.other W4 ne1
    have Zs5 := Nat.le_trans Z0 (Keep.of_wr W4).1
    have Kk4 := KK0.wr W4 (Or.inl (List.mem_of_getElem? (i := 0) rfl))
    have pre3 : ∀ t, Steps p.tables e below (T4.setTop (mkF m 11 #[.val (.ref a1), .val (.int p1), .val (.ref ta), .val (.int (1 : Int32)), .val (.int ((0 : Int32) + (1 : Int32))), .val (.int v0)] [])) t → Steps p.tables e below (s₁.setTop (entryFrame m #[(.ref a1), (.int p1)] 6)) t := by
      intro t k
      refine pre2 t ?_
      show Steps p.tables e below (T1.setTop (mkF m 26 #[.val (.ref a1), .val (.int p1), .val (.ref ta), .val (.int (1 : Int32)), .val (.int (0 : Int32)), .val (.int v0)] [(.int v0), (.int p1)])) _
      refine XS.icmpNo X1.here hx rfl (hb hby d4_26) rfl (teq c26_0).2 ?_
      show Steps p.tables e below (T1.setTop (mkF m 29 #[.val (.ref a1), .val (.int p1), .val (.ref ta), .val (.int (1 : Int32)), .val (.int (0 : Int32)), .val (.int v0)] [])) _
      refine XS.aloadN X1.here hx rfl (hb hby d4_29) rfl rfl ?_
      show Steps p.tables e below (T1.setTop (mkF m 30 #[.val (.ref a1), .val (.int p1), .val (.ref ta), .val (.int (1 : Int32)), .val (.int (0 : Int32)), .val (.int v0)] [(.ref a1)])) _
      refine XS.iloadN X1.here hx rfl (hb hby d4_30) rfl ?_
      show Steps p.tables e below (T1.setTop (mkF m 31 #[.val (.ref a1), .val (.int p1), .val (.ref ta), .val (.int (1 : Int32)), .val (.int (0 : Int32)), .val (.int v0)] [(.int p1), (.ref a1)])) _
      refine st4 _ ?_
      show Steps p.tables e below (T4.setTop (mkF m 34 #[.val (.ref a1), .val (.int p1), .val (.ref ta), .val (.int (1 : Int32)), .val (.int (0 : Int32)), .val (.int v0)] [])) _
      refine XS.iinc X4.here hx rfl (hb hby d4_34) rfl (l' := #[.val (.ref a1), .val (.int p1), .val (.ref ta), .val (.int (1 : Int32)), .val (.int ((0 : Int32) + (1 : Int32))), .val (.int v0)]) rfl ?_
      show Steps p.tables e below (T4.setTop (mkF m 37 #[.val (.ref a1), .val (.int p1), .val (.ref ta), .val (.int (1 : Int32)), .val (.int ((0 : Int32) + (1 : Int32))), .val (.int v0)] [])) _
      refine XS.goto X4.here hx rfl (pc0 := 37) (pc' := 11) rfl (hb hby d4_37) (by decide) (by decide) ?_
      exact k
    have hst : own_st [v0] p1 s0 = p1 := by simp [own_st, c26_0]
    obtain ⟨T6, X6, e6, st6⟩ := getF X4 hx hZ hown (host := "") (Or.inl (hw _ (List.mem_of_getElem? (i := 21) rfl))) Via.refl e4 Fw4 (g := (mkF m 41 #[.val (.ref a1), .val (.int p1), .val (.ref ta), .val (.int (1 : Int32)), .val (.int ((0 : Int32) + (1 : Int32))), .val (.int v0)] [(.ref a1)])) rfl rfl (hb hby d4_41)
    have pre4 : ∀ t, Steps p.tables e below (T6.setTop (mkF m 44 #[.val (.ref a1), .val (.int p1), .val (.ref ta), .val (.int (1 : Int32)), .val (.int ((0 : Int32) + (1 : Int32))), .val (.int v0)] [(.int p1)])) t → Steps p.tables e below (s₁.setTop (entryFrame m #[(.ref a1), (.int p1)] 6)) t := by
      intro t k
      refine pre3 t ?_
      show Steps p.tables e below (T4.setTop (mkF m 11 #[.val (.ref a1), .val (.int p1), .val (.ref ta), .val (.int (1 : Int32)), .val (.int ((0 : Int32) + (1 : Int32))), .val (.int v0)] [])) _
      refine XS.iload X4.here hx rfl (hb hby d4_11) rfl ?_
      show Steps p.tables e below (T4.setTop (mkF m 13 #[.val (.ref a1), .val (.int p1), .val (.ref ta), .val (.int (1 : Int32)), .val (.int ((0 : Int32) + (1 : Int32))), .val (.int v0)] [(.int ((0 : Int32) + (1 : Int32)))])) _
      refine XS.iloadN X4.here hx rfl (hb hby d4_13) rfl ?_
      show Steps p.tables e below (T4.setTop (mkF m 14 #[.val (.ref a1), .val (.int p1), .val (.ref ta), .val (.int (1 : Int32)), .val (.int ((0 : Int32) + (1 : Int32))), .val (.int v0)] [(.int (1 : Int32)), (.int ((0 : Int32) + (1 : Int32)))])) _
      refine XS.icmpYes X4.here hx rfl (pc0 := 14) (pc' := 40) rfl (hb hby d4_14) rfl (flt (by decide : ¬ (((0 : Int32) + (1 : Int32)) < (1 : Int32)))).2.1 (by decide) (by decide) ?_
      show Steps p.tables e below (T4.setTop (mkF m 40 #[.val (.ref a1), .val (.int p1), .val (.ref ta), .val (.int (1 : Int32)), .val (.int ((0 : Int32) + (1 : Int32))), .val (.int v0)] [])) _
      refine XS.aloadN X4.here hx rfl (hb hby d4_40) rfl rfl ?_
      show Steps p.tables e below (T4.setTop (mkF m 41 #[.val (.ref a1), .val (.int p1), .val (.ref ta), .val (.int (1 : Int32)), .val (.int ((0 : Int32) + (1 : Int32))), .val (.int v0)] [(.ref a1)])) _
      refine st6 _ ?_
      exact k
    by_cases c44 : p1 = 0
    · skip
      obtain ⟨fs, hr, hrun, hended, hW, hsame⟩ := X6.leave (v := some (.int (1 : Int32))) (fun h => by rw [Bd.returns] at h; cases h)
      refine ⟨_, _, pre4 _ ?_, hrun, hended, _, _, rfl, ?_, ⟨_, rfl⟩, hW, hsame.mono (by decide) (by decide)⟩
      · show Steps p.tables e below (T6.setTop (mkF m 44 #[.val (.ref a1), .val (.int p1), .val (.ref ta), .val (.int (1 : Int32)), .val (.int ((0 : Int32) + (1 : Int32))), .val (.int v0)] [(.int p1)])) _
        refine XS.ifNo X6.here hx rfl (hb hby d4_44) rfl ((if0 _ _).trans (teq c44).2) ?_
        show Steps p.tables e below (T6.setTop (mkF m 47 #[.val (.ref a1), .val (.int p1), .val (.ref ta), .val (.int (1 : Int32)), .val (.int ((0 : Int32) + (1 : Int32))), .val (.int v0)] [])) _
        refine XS.iconst X6.here hx rfl (hb hby d4_47) ?_
        show Steps p.tables e below (T6.setTop (mkF m 48 #[.val (.ref a1), .val (.int p1), .val (.ref ta), .val (.int (1 : Int32)), .val (.int ((0 : Int32) + (1 : Int32))), .val (.int v0)] [(.int (1 : Int32))])) _
        refine XS.goto X6.here hx rfl (pc0 := 48) (pc' := 52) rfl (hb hby d4_48) (by decide) (by decide) ?_
        show Steps p.tables e below (T6.setTop (mkF m 52 #[.val (.ref a1), .val (.int p1), .val (.ref ta), .val (.int (1 : Int32)), .val (.int ((0 : Int32) + (1 : Int32))), .val (.int v0)] [(.int (1 : Int32))])) _
        exact retN X6 hx (t := .boolean) Bd.returns (by simp) (hb hby d4_52) hr
      · show Q4x1 Z a1 p1 ta s0 kk v0 h0 n0 _ T6.heap _
        rw [e6]
        exact ⟨by rw [hst]; unfold own_z; rw [if_pos c44], N4, Kk4, E_a1_4, F_a1_types_4, by rw [hst]; exact Fw4⟩
    · skip
      obtain ⟨fs, hr, hrun, hended, hW, hsame⟩ := X6.leave (v := some (.int (0 : Int32))) (fun h => by rw [Bd.returns] at h; cases h)
      refine ⟨_, _, pre4 _ ?_, hrun, hended, _, _, rfl, ?_, ⟨_, rfl⟩, hW, hsame.mono (by decide) (by decide)⟩
      · show Steps p.tables e below (T6.setTop (mkF m 44 #[.val (.ref a1), .val (.int p1), .val (.ref ta), .val (.int (1 : Int32)), .val (.int ((0 : Int32) + (1 : Int32))), .val (.int v0)] [(.int p1)])) _
        refine XS.ifYes X6.here hx rfl (pc0 := 44) (pc' := 51) rfl (hb hby d4_44) rfl ((if0 _ _).trans (feq c44).2) (by decide) (by decide) ?_
        show Steps p.tables e below (T6.setTop (mkF m 51 #[.val (.ref a1), .val (.int p1), .val (.ref ta), .val (.int (1 : Int32)), .val (.int ((0 : Int32) + (1 : Int32))), .val (.int v0)] [])) _
        refine XS.iconst X6.here hx rfl (hb hby d4_51) ?_
        show Steps p.tables e below (T6.setTop (mkF m 52 #[.val (.ref a1), .val (.int p1), .val (.ref ta), .val (.int (1 : Int32)), .val (.int ((0 : Int32) + (1 : Int32))), .val (.int v0)] [(.int (0 : Int32))])) _
        exact retN X6 hx (t := .boolean) Bd.returns (by simp) (hb hby d4_52) hr
      · show Q4x1 Z a1 p1 ta s0 kk v0 h0 n0 _ T6.heap _
        rw [e6]
        exact ⟨by rw [hst]; unfold own_z; rw [if_neg c44], N4, Kk4, E_a1_4, F_a1_types_4, by rw [hst]; exact Fw4⟩
  · skip
    have pre5 : ∀ t, Steps p.tables e below (T1.setTop (mkF m 11 #[.val (.ref a1), .val (.int p1), .val (.ref ta), .val (.int (1 : Int32)), .val (.int ((0 : Int32) + (1 : Int32))), .val (.int v0)] [])) t → Steps p.tables e below (s₁.setTop (entryFrame m #[(.ref a1), (.int p1)] 6)) t := by
      intro t k
      refine pre2 t ?_
      show Steps p.tables e below (T1.setTop (mkF m 26 #[.val (.ref a1), .val (.int p1), .val (.ref ta), .val (.int (1 : Int32)), .val (.int (0 : Int32)), .val (.int v0)] [(.int v0), (.int p1)])) _
      refine XS.icmpYes X1.here hx rfl (pc0 := 26) (pc' := 34) rfl (hb hby d4_26) rfl (feq c26_0).2 (by decide) (by decide) ?_
      show Steps p.tables e below (T1.setTop (mkF m 34 #[.val (.ref a1), .val (.int p1), .val (.ref ta), .val (.int (1 : Int32)), .val (.int (0 : Int32)), .val (.int v0)] [])) _
      refine XS.iinc X1.here hx rfl (hb hby d4_34) rfl (l' := #[.val (.ref a1), .val (.int p1), .val (.ref ta), .val (.int (1 : Int32)), .val (.int ((0 : Int32) + (1 : Int32))), .val (.int v0)]) rfl ?_
      show Steps p.tables e below (T1.setTop (mkF m 37 #[.val (.ref a1), .val (.int p1), .val (.ref ta), .val (.int (1 : Int32)), .val (.int ((0 : Int32) + (1 : Int32))), .val (.int v0)] [])) _
      refine XS.goto X1.here hx rfl (pc0 := 37) (pc' := 11) rfl (hb hby d4_37) (by decide) (by decide) ?_
      exact k
    have hst : own_st [v0] p1 s0 = s0 := by simp [own_st, c26_0]
    obtain ⟨T7, X7, e7, st7⟩ := getF X1 hx hZ hown (host := "") (Or.inl (hw _ (List.mem_of_getElem? (i := 21) rfl))) Via.refl e1 F2 (g := (mkF m 41 #[.val (.ref a1), .val (.int p1), .val (.ref ta), .val (.int (1 : Int32)), .val (.int ((0 : Int32) + (1 : Int32))), .val (.int v0)] [(.ref a1)])) rfl rfl (hb hby d4_41)
    have pre6 : ∀ t, Steps p.tables e below (T7.setTop (mkF m 44 #[.val (.ref a1), .val (.int p1), .val (.ref ta), .val (.int (1 : Int32)), .val (.int ((0 : Int32) + (1 : Int32))), .val (.int v0)] [(.int s0)])) t → Steps p.tables e below (s₁.setTop (entryFrame m #[(.ref a1), (.int p1)] 6)) t := by
      intro t k
      refine pre5 t ?_
      show Steps p.tables e below (T1.setTop (mkF m 11 #[.val (.ref a1), .val (.int p1), .val (.ref ta), .val (.int (1 : Int32)), .val (.int ((0 : Int32) + (1 : Int32))), .val (.int v0)] [])) _
      refine XS.iload X1.here hx rfl (hb hby d4_11) rfl ?_
      show Steps p.tables e below (T1.setTop (mkF m 13 #[.val (.ref a1), .val (.int p1), .val (.ref ta), .val (.int (1 : Int32)), .val (.int ((0 : Int32) + (1 : Int32))), .val (.int v0)] [(.int ((0 : Int32) + (1 : Int32)))])) _
      refine XS.iloadN X1.here hx rfl (hb hby d4_13) rfl ?_
      show Steps p.tables e below (T1.setTop (mkF m 14 #[.val (.ref a1), .val (.int p1), .val (.ref ta), .val (.int (1 : Int32)), .val (.int ((0 : Int32) + (1 : Int32))), .val (.int v0)] [(.int (1 : Int32)), (.int ((0 : Int32) + (1 : Int32)))])) _
      refine XS.icmpYes X1.here hx rfl (pc0 := 14) (pc' := 40) rfl (hb hby d4_14) rfl (flt (by decide : ¬ (((0 : Int32) + (1 : Int32)) < (1 : Int32)))).2.1 (by decide) (by decide) ?_
      show Steps p.tables e below (T1.setTop (mkF m 40 #[.val (.ref a1), .val (.int p1), .val (.ref ta), .val (.int (1 : Int32)), .val (.int ((0 : Int32) + (1 : Int32))), .val (.int v0)] [])) _
      refine XS.aloadN X1.here hx rfl (hb hby d4_40) rfl rfl ?_
      show Steps p.tables e below (T1.setTop (mkF m 41 #[.val (.ref a1), .val (.int p1), .val (.ref ta), .val (.int (1 : Int32)), .val (.int ((0 : Int32) + (1 : Int32))), .val (.int v0)] [(.ref a1)])) _
      refine st7 _ ?_
      exact k
    by_cases c44 : s0 = 0
    · skip
      obtain ⟨fs, hr, hrun, hended, hW, hsame⟩ := X7.leave (v := some (.int (1 : Int32))) (fun h => by rw [Bd.returns] at h; cases h)
      refine ⟨_, _, pre6 _ ?_, hrun, hended, _, _, rfl, ?_, ⟨_, rfl⟩, hW, hsame.mono (by decide) (by decide)⟩
      · show Steps p.tables e below (T7.setTop (mkF m 44 #[.val (.ref a1), .val (.int p1), .val (.ref ta), .val (.int (1 : Int32)), .val (.int ((0 : Int32) + (1 : Int32))), .val (.int v0)] [(.int s0)])) _
        refine XS.ifNo X7.here hx rfl (hb hby d4_44) rfl ((if0 _ _).trans (teq c44).2) ?_
        show Steps p.tables e below (T7.setTop (mkF m 47 #[.val (.ref a1), .val (.int p1), .val (.ref ta), .val (.int (1 : Int32)), .val (.int ((0 : Int32) + (1 : Int32))), .val (.int v0)] [])) _
        refine XS.iconst X7.here hx rfl (hb hby d4_47) ?_
        show Steps p.tables e below (T7.setTop (mkF m 48 #[.val (.ref a1), .val (.int p1), .val (.ref ta), .val (.int (1 : Int32)), .val (.int ((0 : Int32) + (1 : Int32))), .val (.int v0)] [(.int (1 : Int32))])) _
        refine XS.goto X7.here hx rfl (pc0 := 48) (pc' := 52) rfl (hb hby d4_48) (by decide) (by decide) ?_
        show Steps p.tables e below (T7.setTop (mkF m 52 #[.val (.ref a1), .val (.int p1), .val (.ref ta), .val (.int (1 : Int32)), .val (.int ((0 : Int32) + (1 : Int32))), .val (.int v0)] [(.int (1 : Int32))])) _
        exact retN X7 hx (t := .boolean) Bd.returns (by simp) (hb hby d4_52) hr
      · show Q4x1 Z a1 p1 ta s0 kk v0 h0 n0 _ T7.heap _
        rw [e7]
        exact ⟨by rw [hst]; unfold own_z; rw [if_pos c44], N0, KK0, E1, F1, by rw [hst]; exact F2⟩
    · skip
      obtain ⟨fs, hr, hrun, hended, hW, hsame⟩ := X7.leave (v := some (.int (0 : Int32))) (fun h => by rw [Bd.returns] at h; cases h)
      refine ⟨_, _, pre6 _ ?_, hrun, hended, _, _, rfl, ?_, ⟨_, rfl⟩, hW, hsame.mono (by decide) (by decide)⟩
      · show Steps p.tables e below (T7.setTop (mkF m 44 #[.val (.ref a1), .val (.int p1), .val (.ref ta), .val (.int (1 : Int32)), .val (.int ((0 : Int32) + (1 : Int32))), .val (.int v0)] [(.int s0)])) _
        refine XS.ifYes X7.here hx rfl (pc0 := 44) (pc' := 51) rfl (hb hby d4_44) rfl ((if0 _ _).trans (feq c44).2) (by decide) (by decide) ?_
        show Steps p.tables e below (T7.setTop (mkF m 51 #[.val (.ref a1), .val (.int p1), .val (.ref ta), .val (.int (1 : Int32)), .val (.int ((0 : Int32) + (1 : Int32))), .val (.int v0)] [])) _
        refine XS.iconst X7.here hx rfl (hb hby d4_51) ?_
        show Steps p.tables e below (T7.setTop (mkF m 52 #[.val (.ref a1), .val (.int p1), .val (.ref ta), .val (.int (1 : Int32)), .val (.int ((0 : Int32) + (1 : Int32))), .val (.int v0)] [(.int (0 : Int32))])) _
        exact retN X7 hx (t := .boolean) Bd.returns (by simp) (hb hby d4_52) hr
      · show Q4x1 Z a1 p1 ta s0 kk v0 h0 n0 _ T7.heap _
        rw [e7]
        exact ⟨by rw [hst]; unfold own_z; rw [if_neg c44], N0, KK0, E1, F1, by rw [hst]; exact F2⟩
def Q4x2 (Z : State) (a1 : Addr) (p1 : Int32) (ta : Addr) (s0 : Int32) (kk : ClassId) (v0 : Int32) (v1 : Int32) (h0 : Heap) (n0 : Nat) (v : Option Value) (h : Heap) (L : List Loc) : Prop := v = some (.int (own_z (own_st [v0, v1] p1 s0))) ∧ Fr n0 L ∧ Keep h0 h [a1] ∧ Exa Z h a1 "com/example/governor/governor/server/MessageScanner$StopAt" ∧ Fld Z h a1 "com/example/governor/governor/server/MessageScanner$StopAt" "types" "[B" (.ref ta) ∧ Fld Z h a1 "com/example/governor/governor/server/MessageScanner$StopAt" "stoppedAt" "B" (.int (own_st [v0, v1] p1 s0))
set_option maxRecDepth 65536 in
set_option maxHeartbeats 40000000 in
theorem rm4x2 (l : Launch) (Z : State) (a0 : Array Value) (hw : ∀ d ∈ tables_1, d.before a0 Z = true) (ws : List Jvm.Cond) (a1 : Addr) (p1 : Int32) (ta : Addr) (s0 : Int32) (kk : ClassId) (v0 : Int32) (v1 : Int32) (h0 : Heap) (n0 : Nat) (Z0 : n0 ≤ h0.size) (F1 : Fld Z h0 a1 "com/example/governor/governor/server/MessageScanner$StopAt" "types" "[B" (.ref ta)) (F2 : Fld Z h0 a1 "com/example/governor/governor/server/MessageScanner$StopAt" "stoppedAt" "B" (.int s0)) (E1 : Exa Z h0 a1 "com/example/governor/governor/server/MessageScanner$StopAt") (g1 : n0 ≤ a1) (V1 : Arv Z h0 ta kk .byte (2 : Int32) [(.int v0), (.int v1)] (.int (0 : Int32))) (ne1 : ta ≠ a1) (h1 : nar .byte p1 = p1) :
    MetFree l (⟨"com/example/governor/governor/server/MessageScanner$StopAt", "begins", "(B)Z"⟩ : MethodName) (head1 (Jvm.Cond.code (⟨"com/example/governor/governor/server/MessageScanner$StopAt", "begins", "(B)Z"⟩ : MethodName) prog_43_method_2_code 6 (some .boolean) :: ws) ({ frames := 0, cells := 0, slots := 0, locals := 0 } : Room)) (fun a U => a = #[(.ref a1), (.int p1)] ∧ Z.Warmed39 U.vm ∧ U.heap = h0) (fun _ _ _ _ _ => True) (fun _ U o U' => ∃ v L, o = .returned v ∧ Q4x2 Z a1 p1 ta s0 kk v0 v1 h0 n0 v U'.heap L ∧ FrameEnd U o U' L ({ frames := 0, cells := 0, slots := 0, locals := 0 } : Room).cells ({ frames := 0, cells := 0, slots := 0, locals := 0 } : Room).slots) := by
  refine MetFree.of_bodySF (plainFor_of_name pn_4) hisR ?_
  intro p e s m args below meth c s₁ Bd hml0 hP hK
  obtain ⟨rfl, hZ, hh⟩ := hP
  have hx := Bd.exec
  have hby := Bd.bytes
  have hml : c.maxLocals = 6 := hml0
  have hown : s.vm.findClass "com/example/governor/governor/server/MessageScanner$StopAt" = some m.cls := findClass_of_methodNamed Bd.named
  have hnm := (name_of_methodNamed Bd.named Bd.method).1
  have X0 : Stand p l e ({ frames := 0, cells := 0, slots := 0, locals := 0 } : Room) s m #[(.ref a1), (.int p1)] below meth c s₁ [] 0 0 := Stand.of_body Bd
  have e0 : s₁.heap = h0 := by rw [← hh, Bd.state]; rfl
  have N0 := Fr.nil n0
  have pre0 : ∀ t, Steps p.tables e below (s₁.setTop (mkF m 0 #[.val (.ref a1), .val (.int p1), .unset, .unset, .unset, .unset] [])) t → Steps p.tables e below (s₁.setTop (entryFrame m #[(.ref a1), (.int p1)] 6)) t := fun t k => castTop (ef_4 m a1 p1) k
  have KK0 := Keep.refl h0 [a1]
  obtain ⟨T1, X1, e1, st1⟩ := getF X0 hx hZ hown (host := "") (Or.inl (hw _ (List.mem_of_getElem? (i := 14) rfl))) Via.refl e0 F1 (g := (mkF m 1 #[.val (.ref a1), .val (.int p1), .unset, .unset, .unset, .unset] [(.ref a1)])) rfl rfl (hb hby d4_1)
  obtain ⟨cl2, Ar2, -, S2, N2m, H2, -⟩ := id V1
  have pre1 : ∀ t, Steps p.tables e below (T1.setTop (mkF m 11 #[.val (.ref a1), .val (.int p1), .val (.ref ta), .val (.int (2 : Int32)), .val (.int (0 : Int32)), .unset] [])) t → Steps p.tables e below (s₁.setTop (entryFrame m #[(.ref a1), (.int p1)] 6)) t := by
    intro t k
    refine pre0 t ?_
    show Steps p.tables e below (s₁.setTop (mkF m 0 #[.val (.ref a1), .val (.int p1), .unset, .unset, .unset, .unset] [])) _
    refine XS.aloadN X0.here hx rfl (hb hby d4_0) rfl rfl ?_
    show Steps p.tables e below (s₁.setTop (mkF m 1 #[.val (.ref a1), .val (.int p1), .unset, .unset, .unset, .unset] [(.ref a1)])) _
    refine st1 _ ?_
    show Steps p.tables e below (T1.setTop (mkF m 4 #[.val (.ref a1), .val (.int p1), .unset, .unset, .unset, .unset] [(.ref ta)])) _
    refine XS.astoreN X1.here hx rfl (hb hby d4_4) rfl rfl (l' := #[.val (.ref a1), .val (.int p1), .val (.ref ta), .unset, .unset, .unset]) rfl ?_
    show Steps p.tables e below (T1.setTop (mkF m 5 #[.val (.ref a1), .val (.int p1), .val (.ref ta), .unset, .unset, .unset] [])) _
    refine XS.aloadN X1.here hx rfl (hb hby d4_5) rfl rfl ?_
    show Steps p.tables e below (T1.setTop (mkF m 6 #[.val (.ref a1), .val (.int p1), .val (.ref ta), .unset, .unset, .unset] [(.ref ta)])) _
    refine X1.arraylength hx (by rw [e1]; exact Ar2.1) (State.isArrayOf_alike hZ.alike Ar2.2.1) (g := (mkF m 6 #[.val (.ref a1), .val (.int p1), .val (.ref ta), .unset, .unset, .unset] [(.ref ta)])) rfl rfl (hb hby d4_6) _ ?_
    rw [len_of S2 N2m]
    show Steps p.tables e below (T1.setTop (mkF m 7 #[.val (.ref a1), .val (.int p1), .val (.ref ta), .unset, .unset, .unset] [(.int (2 : Int32))])) _
    refine XS.istoreN X1.here hx rfl (hb hby d4_7) rfl (l' := #[.val (.ref a1), .val (.int p1), .val (.ref ta), .val (.int (2 : Int32)), .unset, .unset]) rfl ?_
    show Steps p.tables e below (T1.setTop (mkF m 8 #[.val (.ref a1), .val (.int p1), .val (.ref ta), .val (.int (2 : Int32)), .unset, .unset] [])) _
    refine XS.iconst X1.here hx rfl (hb hby d4_8) ?_
    show Steps p.tables e below (T1.setTop (mkF m 9 #[.val (.ref a1), .val (.int p1), .val (.ref ta), .val (.int (2 : Int32)), .unset, .unset] [(.int (0 : Int32))])) _
    refine XS.istore X1.here hx rfl (hb hby d4_9) rfl (l' := #[.val (.ref a1), .val (.int p1), .val (.ref ta), .val (.int (2 : Int32)), .val (.int (0 : Int32)), .unset]) rfl ?_
    exact k
  obtain ⟨cl3, Ar3, -, S3, N3m, H3, -⟩ := id V1
  have hin3 : ¬ ((0 : Int32) < 0 ∨ cl3.slots.size ≤ ((0 : Int32)).toNatClampNeg) := inb_of S3 ⟨by decide, by decide⟩
  have hat3 : cl3.slots[((0 : Int32)).toNatClampNeg]? = some (.int v0) := Has.at H3 hin3 rfl
  have pre2 : ∀ t, Steps p.tables e below (T1.setTop (mkF m 26 #[.val (.ref a1), .val (.int p1), .val (.ref ta), .val (.int (2 : Int32)), .val (.int (0 : Int32)), .val (.int v0)] [(.int v0), (.int p1)])) t → Steps p.tables e below (s₁.setTop (entryFrame m #[(.ref a1), (.int p1)] 6)) t := by
    intro t k
    refine pre1 t ?_
    show Steps p.tables e below (T1.setTop (mkF m 11 #[.val (.ref a1), .val (.int p1), .val (.ref ta), .val (.int (2 : Int32)), .val (.int (0 : Int32)), .unset] [])) _
    refine XS.iload X1.here hx rfl (hb hby d4_11) rfl ?_
    show Steps p.tables e below (T1.setTop (mkF m 13 #[.val (.ref a1), .val (.int p1), .val (.ref ta), .val (.int (2 : Int32)), .val (.int (0 : Int32)), .unset] [(.int (0 : Int32))])) _
    refine XS.iloadN X1.here hx rfl (hb hby d4_13) rfl ?_
    show Steps p.tables e below (T1.setTop (mkF m 14 #[.val (.ref a1), .val (.int p1), .val (.ref ta), .val (.int (2 : Int32)), .val (.int (0 : Int32)), .unset] [(.int (2 : Int32)), (.int (0 : Int32))])) _
    refine XS.icmpNo X1.here hx rfl (hb hby d4_14) rfl (tlt (by decide : (0 : Int32) < (2 : Int32))).2.1 ?_
    show Steps p.tables e below (T1.setTop (mkF m 17 #[.val (.ref a1), .val (.int p1), .val (.ref ta), .val (.int (2 : Int32)), .val (.int (0 : Int32)), .unset] [])) _
    refine XS.aloadN X1.here hx rfl (hb hby d4_17) rfl rfl ?_
    show Steps p.tables e below (T1.setTop (mkF m 18 #[.val (.ref a1), .val (.int p1), .val (.ref ta), .val (.int (2 : Int32)), .val (.int (0 : Int32)), .unset] [(.ref ta)])) _
    refine XS.iload X1.here hx rfl (hb hby d4_18) rfl ?_
    show Steps p.tables e below (T1.setTop (mkF m 20 #[.val (.ref a1), .val (.int p1), .val (.ref ta), .val (.int (2 : Int32)), .val (.int (0 : Int32)), .unset] [(.int (0 : Int32)), (.ref ta)])) _
    refine X1.baloadBytes hx (j := (0 : Int32)) (v := (.int v0)) (by rw [e1]; exact Ar3.1) (State.isArrayOf_alike hZ.alike Ar3.2.1) Ar3.2.2 hin3 hat3 (g := (mkF m 20 #[.val (.ref a1), .val (.int p1), .val (.ref ta), .val (.int (2 : Int32)), .val (.int (0 : Int32)), .unset] [(.int (0 : Int32)), (.ref ta)])) rfl rfl (hb hby d4_20) _ ?_
    show Steps p.tables e below (T1.setTop (mkF m 21 #[.val (.ref a1), .val (.int p1), .val (.ref ta), .val (.int (2 : Int32)), .val (.int (0 : Int32)), .unset] [(.int v0)])) _
    refine XS.istore X1.here hx rfl (hb hby d4_21) rfl (l' := #[.val (.ref a1), .val (.int p1), .val (.ref ta), .val (.int (2 : Int32)), .val (.int (0 : Int32)), .val (.int v0)]) rfl ?_
    show Steps p.tables e below (T1.setTop (mkF m 23 #[.val (.ref a1), .val (.int p1), .val (.ref ta), .val (.int (2 : Int32)), .val (.int (0 : Int32)), .val (.int v0)] [])) _
    refine XS.iloadN X1.here hx rfl (hb hby d4_23) rfl ?_
    show Steps p.tables e below (T1.setTop (mkF m 24 #[.val (.ref a1), .val (.int p1), .val (.ref ta), .val (.int (2 : Int32)), .val (.int (0 : Int32)), .val (.int v0)] [(.int p1)])) _
    refine XS.iload X1.here hx rfl (hb hby d4_24) rfl ?_
    exact k
  by_cases c26_0 : p1 = v0
  · skip
    obtain ⟨T4, h4, X4, e4, W4, st4⟩ := putFN X1 hx hZ hown (hw _ (List.mem_of_getElem? (i := 21) rfl)) Via.refl e1 F2 E1 (Or.inl (hw _ (List.mem_of_getElem? (i := 22) rfl))) (hw _ (List.mem_of_getElem? (i := 6) rfl)) (ty := .byte) (v' := (.int (nar .byte p1))) (by decide) rfl (fits_nar_byte _) (g := (mkF m 31 #[.val (.ref a1), .val (.int p1), .val (.ref ta), .val (.int (2 : Int32)), .val (.int (0 : Int32)), .val (.int v0)] [(.int p1), (.ref a1)])) rfl rfl (hb hby d4_31)
    have N4 := Fr.snoc X4 N0 g1
    have Fw4 := Fld.same W4 F2
    rw [h1] at Fw4
    have F_a1_types_4 := F1.other W4 (Or.inr (slot_ne (Or.inr (hw _ (List.mem_of_getElem? (i := 15) rfl))) (Or.inl (hw _ (List.mem_of_getElem? (i := 22) rfl))) (by decide) (t := (.array .byte)) (t' := .byte) (by decide) (by decide)))
    have E_a1_4 := E1.wr W4
    have V_ta_4 := V1.other W4 ne1
    have Zs5 := Nat.le_trans Z0 (Keep.of_wr W4).1
    have Kk4 := KK0.wr W4 (Or.inl (List.mem_of_getElem? (i := 0) rfl))
    have pre3 : ∀ t, Steps p.tables e below (T4.setTop (mkF m 11 #[.val (.ref a1), .val (.int p1), .val (.ref ta), .val (.int (2 : Int32)), .val (.int ((0 : Int32) + (1 : Int32))), .val (.int v0)] [])) t → Steps p.tables e below (s₁.setTop (entryFrame m #[(.ref a1), (.int p1)] 6)) t := by
      intro t k
      refine pre2 t ?_
      show Steps p.tables e below (T1.setTop (mkF m 26 #[.val (.ref a1), .val (.int p1), .val (.ref ta), .val (.int (2 : Int32)), .val (.int (0 : Int32)), .val (.int v0)] [(.int v0), (.int p1)])) _
      refine XS.icmpNo X1.here hx rfl (hb hby d4_26) rfl (teq c26_0).2 ?_
      show Steps p.tables e below (T1.setTop (mkF m 29 #[.val (.ref a1), .val (.int p1), .val (.ref ta), .val (.int (2 : Int32)), .val (.int (0 : Int32)), .val (.int v0)] [])) _
      refine XS.aloadN X1.here hx rfl (hb hby d4_29) rfl rfl ?_
      show Steps p.tables e below (T1.setTop (mkF m 30 #[.val (.ref a1), .val (.int p1), .val (.ref ta), .val (.int (2 : Int32)), .val (.int (0 : Int32)), .val (.int v0)] [(.ref a1)])) _
      refine XS.iloadN X1.here hx rfl (hb hby d4_30) rfl ?_
      show Steps p.tables e below (T1.setTop (mkF m 31 #[.val (.ref a1), .val (.int p1), .val (.ref ta), .val (.int (2 : Int32)), .val (.int (0 : Int32)), .val (.int v0)] [(.int p1), (.ref a1)])) _
      refine st4 _ ?_
      show Steps p.tables e below (T4.setTop (mkF m 34 #[.val (.ref a1), .val (.int p1), .val (.ref ta), .val (.int (2 : Int32)), .val (.int (0 : Int32)), .val (.int v0)] [])) _
      refine XS.iinc X4.here hx rfl (hb hby d4_34) rfl (l' := #[.val (.ref a1), .val (.int p1), .val (.ref ta), .val (.int (2 : Int32)), .val (.int ((0 : Int32) + (1 : Int32))), .val (.int v0)]) rfl ?_
      show Steps p.tables e below (T4.setTop (mkF m 37 #[.val (.ref a1), .val (.int p1), .val (.ref ta), .val (.int (2 : Int32)), .val (.int ((0 : Int32) + (1 : Int32))), .val (.int v0)] [])) _
      refine XS.goto X4.here hx rfl (pc0 := 37) (pc' := 11) rfl (hb hby d4_37) (by decide) (by decide) ?_
      exact k
    obtain ⟨cl6, Ar6, -, S6, N6m, H6, -⟩ := id V_ta_4
    have hin6 : ¬ (((0 : Int32) + (1 : Int32)) < 0 ∨ cl6.slots.size ≤ (((0 : Int32) + (1 : Int32))).toNatClampNeg) := inb_of S6 ⟨by decide, by decide⟩
    have hat6 : cl6.slots[(((0 : Int32) + (1 : Int32))).toNatClampNeg]? = some (.int v1) := Has.at H6 hin6 rfl
    have pre4 : ∀ t, Steps p.tables e below (T4.setTop (mkF m 26 #[.val (.ref a1), .val (.int p1), .val (.ref ta), .val (.int (2 : Int32)), .val (.int ((0 : Int32) + (1 : Int32))), .val (.int v1)] [(.int v1), (.int p1)])) t → Steps p.tables e below (s₁.setTop (entryFrame m #[(.ref a1), (.int p1)] 6)) t := by
      intro t k
      refine pre3 t ?_
      show Steps p.tables e below (T4.setTop (mkF m 11 #[.val (.ref a1), .val (.int p1), .val (.ref ta), .val (.int (2 : Int32)), .val (.int ((0 : Int32) + (1 : Int32))), .val (.int v0)] [])) _
      refine XS.iload X4.here hx rfl (hb hby d4_11) rfl ?_
      show Steps p.tables e below (T4.setTop (mkF m 13 #[.val (.ref a1), .val (.int p1), .val (.ref ta), .val (.int (2 : Int32)), .val (.int ((0 : Int32) + (1 : Int32))), .val (.int v0)] [(.int ((0 : Int32) + (1 : Int32)))])) _
      refine XS.iloadN X4.here hx rfl (hb hby d4_13) rfl ?_
      show Steps p.tables e below (T4.setTop (mkF m 14 #[.val (.ref a1), .val (.int p1), .val (.ref ta), .val (.int (2 : Int32)), .val (.int ((0 : Int32) + (1 : Int32))), .val (.int v0)] [(.int (2 : Int32)), (.int ((0 : Int32) + (1 : Int32)))])) _
      refine XS.icmpNo X4.here hx rfl (hb hby d4_14) rfl (tlt (by decide : ((0 : Int32) + (1 : Int32)) < (2 : Int32))).2.1 ?_
      show Steps p.tables e below (T4.setTop (mkF m 17 #[.val (.ref a1), .val (.int p1), .val (.ref ta), .val (.int (2 : Int32)), .val (.int ((0 : Int32) + (1 : Int32))), .val (.int v0)] [])) _
      refine XS.aloadN X4.here hx rfl (hb hby d4_17) rfl rfl ?_
      show Steps p.tables e below (T4.setTop (mkF m 18 #[.val (.ref a1), .val (.int p1), .val (.ref ta), .val (.int (2 : Int32)), .val (.int ((0 : Int32) + (1 : Int32))), .val (.int v0)] [(.ref ta)])) _
      refine XS.iload X4.here hx rfl (hb hby d4_18) rfl ?_
      show Steps p.tables e below (T4.setTop (mkF m 20 #[.val (.ref a1), .val (.int p1), .val (.ref ta), .val (.int (2 : Int32)), .val (.int ((0 : Int32) + (1 : Int32))), .val (.int v0)] [(.int ((0 : Int32) + (1 : Int32))), (.ref ta)])) _
      refine X4.baloadBytes hx (j := ((0 : Int32) + (1 : Int32))) (v := (.int v1)) (by rw [e4]; exact Ar6.1) (State.isArrayOf_alike hZ.alike Ar6.2.1) Ar6.2.2 hin6 hat6 (g := (mkF m 20 #[.val (.ref a1), .val (.int p1), .val (.ref ta), .val (.int (2 : Int32)), .val (.int ((0 : Int32) + (1 : Int32))), .val (.int v0)] [(.int ((0 : Int32) + (1 : Int32))), (.ref ta)])) rfl rfl (hb hby d4_20) _ ?_
      show Steps p.tables e below (T4.setTop (mkF m 21 #[.val (.ref a1), .val (.int p1), .val (.ref ta), .val (.int (2 : Int32)), .val (.int ((0 : Int32) + (1 : Int32))), .val (.int v0)] [(.int v1)])) _
      refine XS.istore X4.here hx rfl (hb hby d4_21) rfl (l' := #[.val (.ref a1), .val (.int p1), .val (.ref ta), .val (.int (2 : Int32)), .val (.int ((0 : Int32) + (1 : Int32))), .val (.int v1)]) rfl ?_
      show Steps p.tables e below (T4.setTop (mkF m 23 #[.val (.ref a1), .val (.int p1), .val (.ref ta), .val (.int (2 : Int32)), .val (.int ((0 : Int32) + (1 : Int32))), .val (.int v1)] [])) _
      refine XS.iloadN X4.here hx rfl (hb hby d4_23) rfl ?_
      show Steps p.tables e below (T4.setTop (mkF m 24 #[.val (.ref a1), .val (.int p1), .val (.ref ta), .val (.int (2 : Int32)), .val (.int ((0 : Int32) + (1 : Int32))), .val (.int v1)] [(.int p1)])) _
      refine XS.iload X4.here hx rfl (hb hby d4_24) rfl ?_
      exact k
    by_cases c26_1 : p1 = v1
    · skip
      obtain ⟨T7, h7, X7, e7, W7, st7⟩ := putFN X4 hx hZ hown (hw _ (List.mem_of_getElem? (i := 21) rfl)) Via.refl e4 Fw4 E_a1_4 (Or.inl (hw _ (List.mem_of_getElem? (i := 22) rfl))) (hw _ (List.mem_of_getElem? (i := 6) rfl)) (ty := .byte) (v' := (.int (nar .byte p1))) (by decide) rfl (fits_nar_byte _) (g := (mkF m 31 #[.val (.ref a1), .val (.int p1), .val (.ref ta), .val (.int (2 : Int32)), .val (.int ((0 : Int32) + (1 : Int32))), .val (.int v1)] [(.int p1), (.ref a1)])) rfl rfl (hb hby d4_31)
      have N7 := Fr.snoc X7 N4 g1
      have Fw7 := Fld.same W7 Fw4
      rw [h1] at Fw7
      have F_a1_types_7 := F_a1_types_4.other W7 (Or.inr (slot_ne (Or.inr (hw _ (List.mem_of_getElem? (i := 15) rfl))) (Or.inl (hw _ (List.mem_of_getElem? (i := 22) rfl))) (by decide) (t := (.array .byte)) (t' := .byte) (by decide) (by decide)))
      have E_a1_7 := E_a1_4.wr W7
      have V_ta_7 := V_ta_4.other W7 ne1
      have Zs8 := Nat.le_trans Zs5 (Keep.of_wr W7).1
      have Kk7 := Kk4.wr W7 (Or.inl (List.mem_of_getElem? (i := 0) rfl))
      have pre5 : ∀ t, Steps p.tables e below (T7.setTop (mkF m 11 #[.val (.ref a1), .val (.int p1), .val (.ref ta), .val (.int (2 : Int32)), .val (.int (((0 : Int32) + (1 : Int32)) + (1 : Int32))), .val (.int v1)] [])) t → Steps p.tables e below (s₁.setTop (entryFrame m #[(.ref a1), (.int p1)] 6)) t := by
        intro t k
        refine pre4 t ?_
        show Steps p.tables e below (T4.setTop (mkF m 26 #[.val (.ref a1), .val (.int p1), .val (.ref ta), .val (.int (2 : Int32)), .val (.int ((0 : Int32) + (1 : Int32))), .val (.int v1)] [(.int v1), (.int p1)])) _
        refine XS.icmpNo X4.here hx rfl (hb hby d4_26) rfl (teq c26_1).2 ?_
        show Steps p.tables e below (T4.setTop (mkF m 29 #[.val (.ref a1), .val (.int p1), .val (.ref ta), .val (.int (2 : Int32)), .val (.int ((0 : Int32) + (1 : Int32))), .val (.int v1)] [])) _
        refine XS.aloadN X4.here hx rfl (hb hby d4_29) rfl rfl ?_
        show Steps p.tables e below (T4.setTop (mkF m 30 #[.val (.ref a1), .val (.int p1), .val (.ref ta), .val (.int (2 : Int32)), .val (.int ((0 : Int32) + (1 : Int32))), .val (.int v1)] [(.ref a1)])) _
        refine XS.iloadN X4.here hx rfl (hb hby d4_30) rfl ?_
        show Steps p.tables e below (T4.setTop (mkF m 31 #[.val (.ref a1), .val (.int p1), .val (.ref ta), .val (.int (2 : Int32)), .val (.int ((0 : Int32) + (1 : Int32))), .val (.int v1)] [(.int p1), (.ref a1)])) _
        refine st7 _ ?_
        show Steps p.tables e below (T7.setTop (mkF m 34 #[.val (.ref a1), .val (.int p1), .val (.ref ta), .val (.int (2 : Int32)), .val (.int ((0 : Int32) + (1 : Int32))), .val (.int v1)] [])) _
        refine XS.iinc X7.here hx rfl (hb hby d4_34) rfl (l' := #[.val (.ref a1), .val (.int p1), .val (.ref ta), .val (.int (2 : Int32)), .val (.int (((0 : Int32) + (1 : Int32)) + (1 : Int32))), .val (.int v1)]) rfl ?_
        show Steps p.tables e below (T7.setTop (mkF m 37 #[.val (.ref a1), .val (.int p1), .val (.ref ta), .val (.int (2 : Int32)), .val (.int (((0 : Int32) + (1 : Int32)) + (1 : Int32))), .val (.int v1)] [])) _
        refine XS.goto X7.here hx rfl (pc0 := 37) (pc' := 11) rfl (hb hby d4_37) (by decide) (by decide) ?_
        exact k
      have hst : own_st [v0, v1] p1 s0 = p1 := by simp [own_st, c26_0, c26_1]
      obtain ⟨T9, X9, e9, st9⟩ := getF X7 hx hZ hown (host := "") (Or.inl (hw _ (List.mem_of_getElem? (i := 21) rfl))) Via.refl e7 Fw7 (g := (mkF m 41 #[.val (.ref a1), .val (.int p1), .val (.ref ta), .val (.int (2 : Int32)), .val (.int (((0 : Int32) + (1 : Int32)) + (1 : Int32))), .val (.int v1)] [(.ref a1)])) rfl rfl (hb hby d4_41)
      have pre6 : ∀ t, Steps p.tables e below (T9.setTop (mkF m 44 #[.val (.ref a1), .val (.int p1), .val (.ref ta), .val (.int (2 : Int32)), .val (.int (((0 : Int32) + (1 : Int32)) + (1 : Int32))), .val (.int v1)] [(.int p1)])) t → Steps p.tables e below (s₁.setTop (entryFrame m #[(.ref a1), (.int p1)] 6)) t := by
        intro t k
        refine pre5 t ?_
        show Steps p.tables e below (T7.setTop (mkF m 11 #[.val (.ref a1), .val (.int p1), .val (.ref ta), .val (.int (2 : Int32)), .val (.int (((0 : Int32) + (1 : Int32)) + (1 : Int32))), .val (.int v1)] [])) _
        refine XS.iload X7.here hx rfl (hb hby d4_11) rfl ?_
        show Steps p.tables e below (T7.setTop (mkF m 13 #[.val (.ref a1), .val (.int p1), .val (.ref ta), .val (.int (2 : Int32)), .val (.int (((0 : Int32) + (1 : Int32)) + (1 : Int32))), .val (.int v1)] [(.int (((0 : Int32) + (1 : Int32)) + (1 : Int32)))])) _
        refine XS.iloadN X7.here hx rfl (hb hby d4_13) rfl ?_
        show Steps p.tables e below (T7.setTop (mkF m 14 #[.val (.ref a1), .val (.int p1), .val (.ref ta), .val (.int (2 : Int32)), .val (.int (((0 : Int32) + (1 : Int32)) + (1 : Int32))), .val (.int v1)] [(.int (2 : Int32)), (.int (((0 : Int32) + (1 : Int32)) + (1 : Int32)))])) _
        refine XS.icmpYes X7.here hx rfl (pc0 := 14) (pc' := 40) rfl (hb hby d4_14) rfl (flt (by decide : ¬ ((((0 : Int32) + (1 : Int32)) + (1 : Int32)) < (2 : Int32)))).2.1 (by decide) (by decide) ?_
        show Steps p.tables e below (T7.setTop (mkF m 40 #[.val (.ref a1), .val (.int p1), .val (.ref ta), .val (.int (2 : Int32)), .val (.int (((0 : Int32) + (1 : Int32)) + (1 : Int32))), .val (.int v1)] [])) _
        refine XS.aloadN X7.here hx rfl (hb hby d4_40) rfl rfl ?_
        show Steps p.tables e below (T7.setTop (mkF m 41 #[.val (.ref a1), .val (.int p1), .val (.ref ta), .val (.int (2 : Int32)), .val (.int (((0 : Int32) + (1 : Int32)) + (1 : Int32))), .val (.int v1)] [(.ref a1)])) _
        refine st9 _ ?_
        exact k
      by_cases c44 : p1 = 0
      · skip
        obtain ⟨fs, hr, hrun, hended, hW, hsame⟩ := X9.leave (v := some (.int (1 : Int32))) (fun h => by rw [Bd.returns] at h; cases h)
        refine ⟨_, _, pre6 _ ?_, hrun, hended, _, _, rfl, ?_, ⟨_, rfl⟩, hW, hsame.mono (by decide) (by decide)⟩
        · show Steps p.tables e below (T9.setTop (mkF m 44 #[.val (.ref a1), .val (.int p1), .val (.ref ta), .val (.int (2 : Int32)), .val (.int (((0 : Int32) + (1 : Int32)) + (1 : Int32))), .val (.int v1)] [(.int p1)])) _
          refine XS.ifNo X9.here hx rfl (hb hby d4_44) rfl ((if0 _ _).trans (teq c44).2) ?_
          show Steps p.tables e below (T9.setTop (mkF m 47 #[.val (.ref a1), .val (.int p1), .val (.ref ta), .val (.int (2 : Int32)), .val (.int (((0 : Int32) + (1 : Int32)) + (1 : Int32))), .val (.int v1)] [])) _
          refine XS.iconst X9.here hx rfl (hb hby d4_47) ?_
          show Steps p.tables e below (T9.setTop (mkF m 48 #[.val (.ref a1), .val (.int p1), .val (.ref ta), .val (.int (2 : Int32)), .val (.int (((0 : Int32) + (1 : Int32)) + (1 : Int32))), .val (.int v1)] [(.int (1 : Int32))])) _
          refine XS.goto X9.here hx rfl (pc0 := 48) (pc' := 52) rfl (hb hby d4_48) (by decide) (by decide) ?_
          show Steps p.tables e below (T9.setTop (mkF m 52 #[.val (.ref a1), .val (.int p1), .val (.ref ta), .val (.int (2 : Int32)), .val (.int (((0 : Int32) + (1 : Int32)) + (1 : Int32))), .val (.int v1)] [(.int (1 : Int32))])) _
          exact retN X9 hx (t := .boolean) Bd.returns (by simp) (hb hby d4_52) hr
        · show Q4x2 Z a1 p1 ta s0 kk v0 v1 h0 n0 _ T9.heap _
          rw [e9]
          exact ⟨by rw [hst]; unfold own_z; rw [if_pos c44], N7, Kk7, E_a1_7, F_a1_types_7, by rw [hst]; exact Fw7⟩
      · skip
        obtain ⟨fs, hr, hrun, hended, hW, hsame⟩ := X9.leave (v := some (.int (0 : Int32))) (fun h => by rw [Bd.returns] at h; cases h)
        refine ⟨_, _, pre6 _ ?_, hrun, hended, _, _, rfl, ?_, ⟨_, rfl⟩, hW, hsame.mono (by decide) (by decide)⟩
        · show Steps p.tables e below (T9.setTop (mkF m 44 #[.val (.ref a1), .val (.int p1), .val (.ref ta), .val (.int (2 : Int32)), .val (.int (((0 : Int32) + (1 : Int32)) + (1 : Int32))), .val (.int v1)] [(.int p1)])) _
          refine XS.ifYes X9.here hx rfl (pc0 := 44) (pc' := 51) rfl (hb hby d4_44) rfl ((if0 _ _).trans (feq c44).2) (by decide) (by decide) ?_
          show Steps p.tables e below (T9.setTop (mkF m 51 #[.val (.ref a1), .val (.int p1), .val (.ref ta), .val (.int (2 : Int32)), .val (.int (((0 : Int32) + (1 : Int32)) + (1 : Int32))), .val (.int v1)] [])) _
          refine XS.iconst X9.here hx rfl (hb hby d4_51) ?_
          show Steps p.tables e below (T9.setTop (mkF m 52 #[.val (.ref a1), .val (.int p1), .val (.ref ta), .val (.int (2 : Int32)), .val (.int (((0 : Int32) + (1 : Int32)) + (1 : Int32))), .val (.int v1)] [(.int (0 : Int32))])) _
          exact retN X9 hx (t := .boolean) Bd.returns (by simp) (hb hby d4_52) hr
        · show Q4x2 Z a1 p1 ta s0 kk v0 v1 h0 n0 _ T9.heap _
          rw [e9]
          exact ⟨by rw [hst]; unfold own_z; rw [if_neg c44], N7, Kk7, E_a1_7, F_a1_types_7, by rw [hst]; exact Fw7⟩
    · skip
      have pre7 : ∀ t, Steps p.tables e below (T4.setTop (mkF m 11 #[.val (.ref a1), .val (.int p1), .val (.ref ta), .val (.int (2 : Int32)), .val (.int (((0 : Int32) + (1 : Int32)) + (1 : Int32))), .val (.int v1)] [])) t → Steps p.tables e below (s₁.setTop (entryFrame m #[(.ref a1), (.int p1)] 6)) t := by
        intro t k
        refine pre4 t ?_
        show Steps p.tables e below (T4.setTop (mkF m 26 #[.val (.ref a1), .val (.int p1), .val (.ref ta), .val (.int (2 : Int32)), .val (.int ((0 : Int32) + (1 : Int32))), .val (.int v1)] [(.int v1), (.int p1)])) _
        refine XS.icmpYes X4.here hx rfl (pc0 := 26) (pc' := 34) rfl (hb hby d4_26) rfl (feq c26_1).2 (by decide) (by decide) ?_
        show Steps p.tables e below (T4.setTop (mkF m 34 #[.val (.ref a1), .val (.int p1), .val (.ref ta), .val (.int (2 : Int32)), .val (.int ((0 : Int32) + (1 : Int32))), .val (.int v1)] [])) _
        refine XS.iinc X4.here hx rfl (hb hby d4_34) rfl (l' := #[.val (.ref a1), .val (.int p1), .val (.ref ta), .val (.int (2 : Int32)), .val (.int (((0 : Int32) + (1 : Int32)) + (1 : Int32))), .val (.int v1)]) rfl ?_
        show Steps p.tables e below (T4.setTop (mkF m 37 #[.val (.ref a1), .val (.int p1), .val (.ref ta), .val (.int (2 : Int32)), .val (.int (((0 : Int32) + (1 : Int32)) + (1 : Int32))), .val (.int v1)] [])) _
        refine XS.goto X4.here hx rfl (pc0 := 37) (pc' := 11) rfl (hb hby d4_37) (by decide) (by decide) ?_
        exact k
      have hst : own_st [v0, v1] p1 s0 = p1 := by simp [own_st, c26_0, c26_1]
      obtain ⟨T10, X10, e10, st10⟩ := getF X4 hx hZ hown (host := "") (Or.inl (hw _ (List.mem_of_getElem? (i := 21) rfl))) Via.refl e4 Fw4 (g := (mkF m 41 #[.val (.ref a1), .val (.int p1), .val (.ref ta), .val (.int (2 : Int32)), .val (.int (((0 : Int32) + (1 : Int32)) + (1 : Int32))), .val (.int v1)] [(.ref a1)])) rfl rfl (hb hby d4_41)
      have pre8 : ∀ t, Steps p.tables e below (T10.setTop (mkF m 44 #[.val (.ref a1), .val (.int p1), .val (.ref ta), .val (.int (2 : Int32)), .val (.int (((0 : Int32) + (1 : Int32)) + (1 : Int32))), .val (.int v1)] [(.int p1)])) t → Steps p.tables e below (s₁.setTop (entryFrame m #[(.ref a1), (.int p1)] 6)) t := by
        intro t k
        refine pre7 t ?_
        show Steps p.tables e below (T4.setTop (mkF m 11 #[.val (.ref a1), .val (.int p1), .val (.ref ta), .val (.int (2 : Int32)), .val (.int (((0 : Int32) + (1 : Int32)) + (1 : Int32))), .val (.int v1)] [])) _
        refine XS.iload X4.here hx rfl (hb hby d4_11) rfl ?_
        show Steps p.tables e below (T4.setTop (mkF m 13 #[.val (.ref a1), .val (.int p1), .val (.ref ta), .val (.int (2 : Int32)), .val (.int (((0 : Int32) + (1 : Int32)) + (1 : Int32))), .val (.int v1)] [(.int (((0 : Int32) + (1 : Int32)) + (1 : Int32)))])) _
        refine XS.iloadN X4.here hx rfl (hb hby d4_13) rfl ?_
        show Steps p.tables e below (T4.setTop (mkF m 14 #[.val (.ref a1), .val (.int p1), .val (.ref ta), .val (.int (2 : Int32)), .val (.int (((0 : Int32) + (1 : Int32)) + (1 : Int32))), .val (.int v1)] [(.int (2 : Int32)), (.int (((0 : Int32) + (1 : Int32)) + (1 : Int32)))])) _
        refine XS.icmpYes X4.here hx rfl (pc0 := 14) (pc' := 40) rfl (hb hby d4_14) rfl (flt (by decide : ¬ ((((0 : Int32) + (1 : Int32)) + (1 : Int32)) < (2 : Int32)))).2.1 (by decide) (by decide) ?_
        show Steps p.tables e below (T4.setTop (mkF m 40 #[.val (.ref a1), .val (.int p1), .val (.ref ta), .val (.int (2 : Int32)), .val (.int (((0 : Int32) + (1 : Int32)) + (1 : Int32))), .val (.int v1)] [])) _
        refine XS.aloadN X4.here hx rfl (hb hby d4_40) rfl rfl ?_
        show Steps p.tables e below (T4.setTop (mkF m 41 #[.val (.ref a1), .val (.int p1), .val (.ref ta), .val (.int (2 : Int32)), .val (.int (((0 : Int32) + (1 : Int32)) + (1 : Int32))), .val (.int v1)] [(.ref a1)])) _
        refine st10 _ ?_
        exact k
      by_cases c44 : p1 = 0
      · skip
        obtain ⟨fs, hr, hrun, hended, hW, hsame⟩ := X10.leave (v := some (.int (1 : Int32))) (fun h => by rw [Bd.returns] at h; cases h)
        refine ⟨_, _, pre8 _ ?_, hrun, hended, _, _, rfl, ?_, ⟨_, rfl⟩, hW, hsame.mono (by decide) (by decide)⟩
        · show Steps p.tables e below (T10.setTop (mkF m 44 #[.val (.ref a1), .val (.int p1), .val (.ref ta), .val (.int (2 : Int32)), .val (.int (((0 : Int32) + (1 : Int32)) + (1 : Int32))), .val (.int v1)] [(.int p1)])) _
          refine XS.ifNo X10.here hx rfl (hb hby d4_44) rfl ((if0 _ _).trans (teq c44).2) ?_
          show Steps p.tables e below (T10.setTop (mkF m 47 #[.val (.ref a1), .val (.int p1), .val (.ref ta), .val (.int (2 : Int32)), .val (.int (((0 : Int32) + (1 : Int32)) + (1 : Int32))), .val (.int v1)] [])) _
          refine XS.iconst X10.here hx rfl (hb hby d4_47) ?_
          show Steps p.tables e below (T10.setTop (mkF m 48 #[.val (.ref a1), .val (.int p1), .val (.ref ta), .val (.int (2 : Int32)), .val (.int (((0 : Int32) + (1 : Int32)) + (1 : Int32))), .val (.int v1)] [(.int (1 : Int32))])) _
          refine XS.goto X10.here hx rfl (pc0 := 48) (pc' := 52) rfl (hb hby d4_48) (by decide) (by decide) ?_
          show Steps p.tables e below (T10.setTop (mkF m 52 #[.val (.ref a1), .val (.int p1), .val (.ref ta), .val (.int (2 : Int32)), .val (.int (((0 : Int32) + (1 : Int32)) + (1 : Int32))), .val (.int v1)] [(.int (1 : Int32))])) _
          exact retN X10 hx (t := .boolean) Bd.returns (by simp) (hb hby d4_52) hr
        · show Q4x2 Z a1 p1 ta s0 kk v0 v1 h0 n0 _ T10.heap _
          rw [e10]
          exact ⟨by rw [hst]; unfold own_z; rw [if_pos c44], N4, Kk4, E_a1_4, F_a1_types_4, by rw [hst]; exact Fw4⟩
      · skip
        obtain ⟨fs, hr, hrun, hended, hW, hsame⟩ := X10.leave (v := some (.int (0 : Int32))) (fun h => by rw [Bd.returns] at h; cases h)
        refine ⟨_, _, pre8 _ ?_, hrun, hended, _, _, rfl, ?_, ⟨_, rfl⟩, hW, hsame.mono (by decide) (by decide)⟩
        · show Steps p.tables e below (T10.setTop (mkF m 44 #[.val (.ref a1), .val (.int p1), .val (.ref ta), .val (.int (2 : Int32)), .val (.int (((0 : Int32) + (1 : Int32)) + (1 : Int32))), .val (.int v1)] [(.int p1)])) _
          refine XS.ifYes X10.here hx rfl (pc0 := 44) (pc' := 51) rfl (hb hby d4_44) rfl ((if0 _ _).trans (feq c44).2) (by decide) (by decide) ?_
          show Steps p.tables e below (T10.setTop (mkF m 51 #[.val (.ref a1), .val (.int p1), .val (.ref ta), .val (.int (2 : Int32)), .val (.int (((0 : Int32) + (1 : Int32)) + (1 : Int32))), .val (.int v1)] [])) _
          refine XS.iconst X10.here hx rfl (hb hby d4_51) ?_
          show Steps p.tables e below (T10.setTop (mkF m 52 #[.val (.ref a1), .val (.int p1), .val (.ref ta), .val (.int (2 : Int32)), .val (.int (((0 : Int32) + (1 : Int32)) + (1 : Int32))), .val (.int v1)] [(.int (0 : Int32))])) _
          exact retN X10 hx (t := .boolean) Bd.returns (by simp) (hb hby d4_52) hr
        · show Q4x2 Z a1 p1 ta s0 kk v0 v1 h0 n0 _ T10.heap _
          rw [e10]
          exact ⟨by rw [hst]; unfold own_z; rw [if_neg c44], N4, Kk4, E_a1_4, F_a1_types_4, by rw [hst]; exact Fw4⟩
  · skip
    have pre9 : ∀ t, Steps p.tables e below (T1.setTop (mkF m 11 #[.val (.ref a1), .val (.int p1), .val (.ref ta), .val (.int (2 : Int32)), .val (.int ((0 : Int32) + (1 : Int32))), .val (.int v0)] [])) t → Steps p.tables e below (s₁.setTop (entryFrame m #[(.ref a1), (.int p1)] 6)) t := by
      intro t k
      refine pre2 t ?_
      show Steps p.tables e below (T1.setTop (mkF m 26 #[.val (.ref a1), .val (.int p1), .val (.ref ta), .val (.int (2 : Int32)), .val (.int (0 : Int32)), .val (.int v0)] [(.int v0), (.int p1)])) _
      refine XS.icmpYes X1.here hx rfl (pc0 := 26) (pc' := 34) rfl (hb hby d4_26) rfl (feq c26_0).2 (by decide) (by decide) ?_
      show Steps p.tables e below (T1.setTop (mkF m 34 #[.val (.ref a1), .val (.int p1), .val (.ref ta), .val (.int (2 : Int32)), .val (.int (0 : Int32)), .val (.int v0)] [])) _
      refine XS.iinc X1.here hx rfl (hb hby d4_34) rfl (l' := #[.val (.ref a1), .val (.int p1), .val (.ref ta), .val (.int (2 : Int32)), .val (.int ((0 : Int32) + (1 : Int32))), .val (.int v0)]) rfl ?_
      show Steps p.tables e below (T1.setTop (mkF m 37 #[.val (.ref a1), .val (.int p1), .val (.ref ta), .val (.int (2 : Int32)), .val (.int ((0 : Int32) + (1 : Int32))), .val (.int v0)] [])) _
      refine XS.goto X1.here hx rfl (pc0 := 37) (pc' := 11) rfl (hb hby d4_37) (by decide) (by decide) ?_
      exact k
    obtain ⟨cl11, Ar11, -, S11, N11m, H11, -⟩ := id V1
    have hin11 : ¬ (((0 : Int32) + (1 : Int32)) < 0 ∨ cl11.slots.size ≤ (((0 : Int32) + (1 : Int32))).toNatClampNeg) := inb_of S11 ⟨by decide, by decide⟩
    have hat11 : cl11.slots[(((0 : Int32) + (1 : Int32))).toNatClampNeg]? = some (.int v1) := Has.at H11 hin11 rfl
    have pre10 : ∀ t, Steps p.tables e below (T1.setTop (mkF m 26 #[.val (.ref a1), .val (.int p1), .val (.ref ta), .val (.int (2 : Int32)), .val (.int ((0 : Int32) + (1 : Int32))), .val (.int v1)] [(.int v1), (.int p1)])) t → Steps p.tables e below (s₁.setTop (entryFrame m #[(.ref a1), (.int p1)] 6)) t := by
      intro t k
      refine pre9 t ?_
      show Steps p.tables e below (T1.setTop (mkF m 11 #[.val (.ref a1), .val (.int p1), .val (.ref ta), .val (.int (2 : Int32)), .val (.int ((0 : Int32) + (1 : Int32))), .val (.int v0)] [])) _
      refine XS.iload X1.here hx rfl (hb hby d4_11) rfl ?_
      show Steps p.tables e below (T1.setTop (mkF m 13 #[.val (.ref a1), .val (.int p1), .val (.ref ta), .val (.int (2 : Int32)), .val (.int ((0 : Int32) + (1 : Int32))), .val (.int v0)] [(.int ((0 : Int32) + (1 : Int32)))])) _
      refine XS.iloadN X1.here hx rfl (hb hby d4_13) rfl ?_
      show Steps p.tables e below (T1.setTop (mkF m 14 #[.val (.ref a1), .val (.int p1), .val (.ref ta), .val (.int (2 : Int32)), .val (.int ((0 : Int32) + (1 : Int32))), .val (.int v0)] [(.int (2 : Int32)), (.int ((0 : Int32) + (1 : Int32)))])) _
      refine XS.icmpNo X1.here hx rfl (hb hby d4_14) rfl (tlt (by decide : ((0 : Int32) + (1 : Int32)) < (2 : Int32))).2.1 ?_
      show Steps p.tables e below (T1.setTop (mkF m 17 #[.val (.ref a1), .val (.int p1), .val (.ref ta), .val (.int (2 : Int32)), .val (.int ((0 : Int32) + (1 : Int32))), .val (.int v0)] [])) _
      refine XS.aloadN X1.here hx rfl (hb hby d4_17) rfl rfl ?_
      show Steps p.tables e below (T1.setTop (mkF m 18 #[.val (.ref a1), .val (.int p1), .val (.ref ta), .val (.int (2 : Int32)), .val (.int ((0 : Int32) + (1 : Int32))), .val (.int v0)] [(.ref ta)])) _
      refine XS.iload X1.here hx rfl (hb hby d4_18) rfl ?_
      show Steps p.tables e below (T1.setTop (mkF m 20 #[.val (.ref a1), .val (.int p1), .val (.ref ta), .val (.int (2 : Int32)), .val (.int ((0 : Int32) + (1 : Int32))), .val (.int v0)] [(.int ((0 : Int32) + (1 : Int32))), (.ref ta)])) _
      refine X1.baloadBytes hx (j := ((0 : Int32) + (1 : Int32))) (v := (.int v1)) (by rw [e1]; exact Ar11.1) (State.isArrayOf_alike hZ.alike Ar11.2.1) Ar11.2.2 hin11 hat11 (g := (mkF m 20 #[.val (.ref a1), .val (.int p1), .val (.ref ta), .val (.int (2 : Int32)), .val (.int ((0 : Int32) + (1 : Int32))), .val (.int v0)] [(.int ((0 : Int32) + (1 : Int32))), (.ref ta)])) rfl rfl (hb hby d4_20) _ ?_
      show Steps p.tables e below (T1.setTop (mkF m 21 #[.val (.ref a1), .val (.int p1), .val (.ref ta), .val (.int (2 : Int32)), .val (.int ((0 : Int32) + (1 : Int32))), .val (.int v0)] [(.int v1)])) _
      refine XS.istore X1.here hx rfl (hb hby d4_21) rfl (l' := #[.val (.ref a1), .val (.int p1), .val (.ref ta), .val (.int (2 : Int32)), .val (.int ((0 : Int32) + (1 : Int32))), .val (.int v1)]) rfl ?_
      show Steps p.tables e below (T1.setTop (mkF m 23 #[.val (.ref a1), .val (.int p1), .val (.ref ta), .val (.int (2 : Int32)), .val (.int ((0 : Int32) + (1 : Int32))), .val (.int v1)] [])) _
      refine XS.iloadN X1.here hx rfl (hb hby d4_23) rfl ?_
      show Steps p.tables e below (T1.setTop (mkF m 24 #[.val (.ref a1), .val (.int p1), .val (.ref ta), .val (.int (2 : Int32)), .val (.int ((0 : Int32) + (1 : Int32))), .val (.int v1)] [(.int p1)])) _
      refine XS.iload X1.here hx rfl (hb hby d4_24) rfl ?_
      exact k
    by_cases c26_1 : p1 = v1
    · skip
      obtain ⟨T12, h12, X12, e12, W12, st12⟩ := putFN X1 hx hZ hown (hw _ (List.mem_of_getElem? (i := 21) rfl)) Via.refl e1 F2 E1 (Or.inl (hw _ (List.mem_of_getElem? (i := 22) rfl))) (hw _ (List.mem_of_getElem? (i := 6) rfl)) (ty := .byte) (v' := (.int (nar .byte p1))) (by decide) rfl (fits_nar_byte _) (g := (mkF m 31 #[.val (.ref a1), .val (.int p1), .val (.ref ta), .val (.int (2 : Int32)), .val (.int ((0 : Int32) + (1 : Int32))), .val (.int v1)] [(.int p1), (.ref a1)])) rfl rfl (hb hby d4_31)
      have N12 := Fr.snoc X12 N0 g1
      have Fw12 := Fld.same W12 F2
      rw [h1] at Fw12
      have F_a1_types_12 := F1.other W12 (Or.inr (slot_ne (Or.inr (hw _ (List.mem_of_getElem? (i := 15) rfl))) (Or.inl (hw _ (List.mem_of_getElem? (i := 22) rfl))) (by decide) (t := (.array .byte)) (t' := .byte) (by decide) (by decide)))
      have E_a1_12 := E1.wr W12
      have V_ta_12 := V1.other W12 ne1
      have Zs13 := Nat.le_trans Z0 (Keep.of_wr W12).1
      have Kk12 := KK0.wr W12 (Or.inl (List.mem_of_getElem? (i := 0) rfl))
      have pre11 : ∀ t, Steps p.tables e below (T12.setTop (mkF m 11 #[.val (.ref a1), .val (.int p1), .val (.ref ta), .val (.int (2 : Int32)), .val (.int (((0 : Int32) + (1 : Int32)) + (1 : Int32))), .val (.int v1)] [])) t → Steps p.tables e below (s₁.setTop (entryFrame m #[(.ref a1), (.int p1)] 6)) t := by
        intro t k
        refine pre10 t ?_
        show Steps p.tables e below (T1.setTop (mkF m 26 #[.val (.ref a1), .val (.int p1), .val (.ref ta), .val (.int (2 : Int32)), .val (.int ((0 : Int32) + (1 : Int32))), .val (.int v1)] [(.int v1), (.int p1)])) _
        refine XS.icmpNo X1.here hx rfl (hb hby d4_26) rfl (teq c26_1).2 ?_
        show Steps p.tables e below (T1.setTop (mkF m 29 #[.val (.ref a1), .val (.int p1), .val (.ref ta), .val (.int (2 : Int32)), .val (.int ((0 : Int32) + (1 : Int32))), .val (.int v1)] [])) _
        refine XS.aloadN X1.here hx rfl (hb hby d4_29) rfl rfl ?_
        show Steps p.tables e below (T1.setTop (mkF m 30 #[.val (.ref a1), .val (.int p1), .val (.ref ta), .val (.int (2 : Int32)), .val (.int ((0 : Int32) + (1 : Int32))), .val (.int v1)] [(.ref a1)])) _
        refine XS.iloadN X1.here hx rfl (hb hby d4_30) rfl ?_
        show Steps p.tables e below (T1.setTop (mkF m 31 #[.val (.ref a1), .val (.int p1), .val (.ref ta), .val (.int (2 : Int32)), .val (.int ((0 : Int32) + (1 : Int32))), .val (.int v1)] [(.int p1), (.ref a1)])) _
        refine st12 _ ?_
        show Steps p.tables e below (T12.setTop (mkF m 34 #[.val (.ref a1), .val (.int p1), .val (.ref ta), .val (.int (2 : Int32)), .val (.int ((0 : Int32) + (1 : Int32))), .val (.int v1)] [])) _
        refine XS.iinc X12.here hx rfl (hb hby d4_34) rfl (l' := #[.val (.ref a1), .val (.int p1), .val (.ref ta), .val (.int (2 : Int32)), .val (.int (((0 : Int32) + (1 : Int32)) + (1 : Int32))), .val (.int v1)]) rfl ?_
        show Steps p.tables e below (T12.setTop (mkF m 37 #[.val (.ref a1), .val (.int p1), .val (.ref ta), .val (.int (2 : Int32)), .val (.int (((0 : Int32) + (1 : Int32)) + (1 : Int32))), .val (.int v1)] [])) _
        refine XS.goto X12.here hx rfl (pc0 := 37) (pc' := 11) rfl (hb hby d4_37) (by decide) (by decide) ?_
        exact k
      have hst : own_st [v0, v1] p1 s0 = p1 := by simp [own_st, c26_0, c26_1]
      obtain ⟨T14, X14, e14, st14⟩ := getF X12 hx hZ hown (host := "") (Or.inl (hw _ (List.mem_of_getElem? (i := 21) rfl))) Via.refl e12 Fw12 (g := (mkF m 41 #[.val (.ref a1), .val (.int p1), .val (.ref ta), .val (.int (2 : Int32)), .val (.int (((0 : Int32) + (1 : Int32)) + (1 : Int32))), .val (.int v1)] [(.ref a1)])) rfl rfl (hb hby d4_41)
      have pre12 : ∀ t, Steps p.tables e below (T14.setTop (mkF m 44 #[.val (.ref a1), .val (.int p1), .val (.ref ta), .val (.int (2 : Int32)), .val (.int (((0 : Int32) + (1 : Int32)) + (1 : Int32))), .val (.int v1)] [(.int p1)])) t → Steps p.tables e below (s₁.setTop (entryFrame m #[(.ref a1), (.int p1)] 6)) t := by
        intro t k
        refine pre11 t ?_
        show Steps p.tables e below (T12.setTop (mkF m 11 #[.val (.ref a1), .val (.int p1), .val (.ref ta), .val (.int (2 : Int32)), .val (.int (((0 : Int32) + (1 : Int32)) + (1 : Int32))), .val (.int v1)] [])) _
        refine XS.iload X12.here hx rfl (hb hby d4_11) rfl ?_
        show Steps p.tables e below (T12.setTop (mkF m 13 #[.val (.ref a1), .val (.int p1), .val (.ref ta), .val (.int (2 : Int32)), .val (.int (((0 : Int32) + (1 : Int32)) + (1 : Int32))), .val (.int v1)] [(.int (((0 : Int32) + (1 : Int32)) + (1 : Int32)))])) _
        refine XS.iloadN X12.here hx rfl (hb hby d4_13) rfl ?_
        show Steps p.tables e below (T12.setTop (mkF m 14 #[.val (.ref a1), .val (.int p1), .val (.ref ta), .val (.int (2 : Int32)), .val (.int (((0 : Int32) + (1 : Int32)) + (1 : Int32))), .val (.int v1)] [(.int (2 : Int32)), (.int (((0 : Int32) + (1 : Int32)) + (1 : Int32)))])) _
        refine XS.icmpYes X12.here hx rfl (pc0 := 14) (pc' := 40) rfl (hb hby d4_14) rfl (flt (by decide : ¬ ((((0 : Int32) + (1 : Int32)) + (1 : Int32)) < (2 : Int32)))).2.1 (by decide) (by decide) ?_
        show Steps p.tables e below (T12.setTop (mkF m 40 #[.val (.ref a1), .val (.int p1), .val (.ref ta), .val (.int (2 : Int32)), .val (.int (((0 : Int32) + (1 : Int32)) + (1 : Int32))), .val (.int v1)] [])) _
        refine XS.aloadN X12.here hx rfl (hb hby d4_40) rfl rfl ?_
        show Steps p.tables e below (T12.setTop (mkF m 41 #[.val (.ref a1), .val (.int p1), .val (.ref ta), .val (.int (2 : Int32)), .val (.int (((0 : Int32) + (1 : Int32)) + (1 : Int32))), .val (.int v1)] [(.ref a1)])) _
        refine st14 _ ?_
        exact k
      by_cases c44 : p1 = 0
      · skip
        obtain ⟨fs, hr, hrun, hended, hW, hsame⟩ := X14.leave (v := some (.int (1 : Int32))) (fun h => by rw [Bd.returns] at h; cases h)
        refine ⟨_, _, pre12 _ ?_, hrun, hended, _, _, rfl, ?_, ⟨_, rfl⟩, hW, hsame.mono (by decide) (by decide)⟩
        · show Steps p.tables e below (T14.setTop (mkF m 44 #[.val (.ref a1), .val (.int p1), .val (.ref ta), .val (.int (2 : Int32)), .val (.int (((0 : Int32) + (1 : Int32)) + (1 : Int32))), .val (.int v1)] [(.int p1)])) _
          refine XS.ifNo X14.here hx rfl (hb hby d4_44) rfl ((if0 _ _).trans (teq c44).2) ?_
          show Steps p.tables e below (T14.setTop (mkF m 47 #[.val (.ref a1), .val (.int p1), .val (.ref ta), .val (.int (2 : Int32)), .val (.int (((0 : Int32) + (1 : Int32)) + (1 : Int32))), .val (.int v1)] [])) _
          refine XS.iconst X14.here hx rfl (hb hby d4_47) ?_
          show Steps p.tables e below (T14.setTop (mkF m 48 #[.val (.ref a1), .val (.int p1), .val (.ref ta), .val (.int (2 : Int32)), .val (.int (((0 : Int32) + (1 : Int32)) + (1 : Int32))), .val (.int v1)] [(.int (1 : Int32))])) _
          refine XS.goto X14.here hx rfl (pc0 := 48) (pc' := 52) rfl (hb hby d4_48) (by decide) (by decide) ?_
          show Steps p.tables e below (T14.setTop (mkF m 52 #[.val (.ref a1), .val (.int p1), .val (.ref ta), .val (.int (2 : Int32)), .val (.int (((0 : Int32) + (1 : Int32)) + (1 : Int32))), .val (.int v1)] [(.int (1 : Int32))])) _
          exact retN X14 hx (t := .boolean) Bd.returns (by simp) (hb hby d4_52) hr
        · show Q4x2 Z a1 p1 ta s0 kk v0 v1 h0 n0 _ T14.heap _
          rw [e14]
          exact ⟨by rw [hst]; unfold own_z; rw [if_pos c44], N12, Kk12, E_a1_12, F_a1_types_12, by rw [hst]; exact Fw12⟩
      · skip
        obtain ⟨fs, hr, hrun, hended, hW, hsame⟩ := X14.leave (v := some (.int (0 : Int32))) (fun h => by rw [Bd.returns] at h; cases h)
        refine ⟨_, _, pre12 _ ?_, hrun, hended, _, _, rfl, ?_, ⟨_, rfl⟩, hW, hsame.mono (by decide) (by decide)⟩
        · show Steps p.tables e below (T14.setTop (mkF m 44 #[.val (.ref a1), .val (.int p1), .val (.ref ta), .val (.int (2 : Int32)), .val (.int (((0 : Int32) + (1 : Int32)) + (1 : Int32))), .val (.int v1)] [(.int p1)])) _
          refine XS.ifYes X14.here hx rfl (pc0 := 44) (pc' := 51) rfl (hb hby d4_44) rfl ((if0 _ _).trans (feq c44).2) (by decide) (by decide) ?_
          show Steps p.tables e below (T14.setTop (mkF m 51 #[.val (.ref a1), .val (.int p1), .val (.ref ta), .val (.int (2 : Int32)), .val (.int (((0 : Int32) + (1 : Int32)) + (1 : Int32))), .val (.int v1)] [])) _
          refine XS.iconst X14.here hx rfl (hb hby d4_51) ?_
          show Steps p.tables e below (T14.setTop (mkF m 52 #[.val (.ref a1), .val (.int p1), .val (.ref ta), .val (.int (2 : Int32)), .val (.int (((0 : Int32) + (1 : Int32)) + (1 : Int32))), .val (.int v1)] [(.int (0 : Int32))])) _
          exact retN X14 hx (t := .boolean) Bd.returns (by simp) (hb hby d4_52) hr
        · show Q4x2 Z a1 p1 ta s0 kk v0 v1 h0 n0 _ T14.heap _
          rw [e14]
          exact ⟨by rw [hst]; unfold own_z; rw [if_neg c44], N12, Kk12, E_a1_12, F_a1_types_12, by rw [hst]; exact Fw12⟩
    · skip
      have pre13 : ∀ t, Steps p.tables e below (T1.setTop (mkF m 11 #[.val (.ref a1), .val (.int p1), .val (.ref ta), .val (.int (2 : Int32)), .val (.int (((0 : Int32) + (1 : Int32)) + (1 : Int32))), .val (.int v1)] [])) t → Steps p.tables e below (s₁.setTop (entryFrame m #[(.ref a1), (.int p1)] 6)) t := by
        intro t k
        refine pre10 t ?_
        show Steps p.tables e below (T1.setTop (mkF m 26 #[.val (.ref a1), .val (.int p1), .val (.ref ta), .val (.int (2 : Int32)), .val (.int ((0 : Int32) + (1 : Int32))), .val (.int v1)] [(.int v1), (.int p1)])) _
        refine XS.icmpYes X1.here hx rfl (pc0 := 26) (pc' := 34) rfl (hb hby d4_26) rfl (feq c26_1).2 (by decide) (by decide) ?_
        show Steps p.tables e below (T1.setTop (mkF m 34 #[.val (.ref a1), .val (.int p1), .val (.ref ta), .val (.int (2 : Int32)), .val (.int ((0 : Int32) + (1 : Int32))), .val (.int v1)] [])) _
        refine XS.iinc X1.here hx rfl (hb hby d4_34) rfl (l' := #[.val (.ref a1), .val (.int p1), .val (.ref ta), .val (.int (2 : Int32)), .val (.int (((0 : Int32) + (1 : Int32)) + (1 : Int32))), .val (.int v1)]) rfl ?_
        show Steps p.tables e below (T1.setTop (mkF m 37 #[.val (.ref a1), .val (.int p1), .val (.ref ta), .val (.int (2 : Int32)), .val (.int (((0 : Int32) + (1 : Int32)) + (1 : Int32))), .val (.int v1)] [])) _
        refine XS.goto X1.here hx rfl (pc0 := 37) (pc' := 11) rfl (hb hby d4_37) (by decide) (by decide) ?_
        exact k
      have hst : own_st [v0, v1] p1 s0 = s0 := by simp [own_st, c26_0, c26_1]
      obtain ⟨T15, X15, e15, st15⟩ := getF X1 hx hZ hown (host := "") (Or.inl (hw _ (List.mem_of_getElem? (i := 21) rfl))) Via.refl e1 F2 (g := (mkF m 41 #[.val (.ref a1), .val (.int p1), .val (.ref ta), .val (.int (2 : Int32)), .val (.int (((0 : Int32) + (1 : Int32)) + (1 : Int32))), .val (.int v1)] [(.ref a1)])) rfl rfl (hb hby d4_41)
      have pre14 : ∀ t, Steps p.tables e below (T15.setTop (mkF m 44 #[.val (.ref a1), .val (.int p1), .val (.ref ta), .val (.int (2 : Int32)), .val (.int (((0 : Int32) + (1 : Int32)) + (1 : Int32))), .val (.int v1)] [(.int s0)])) t → Steps p.tables e below (s₁.setTop (entryFrame m #[(.ref a1), (.int p1)] 6)) t := by
        intro t k
        refine pre13 t ?_
        show Steps p.tables e below (T1.setTop (mkF m 11 #[.val (.ref a1), .val (.int p1), .val (.ref ta), .val (.int (2 : Int32)), .val (.int (((0 : Int32) + (1 : Int32)) + (1 : Int32))), .val (.int v1)] [])) _
        refine XS.iload X1.here hx rfl (hb hby d4_11) rfl ?_
        show Steps p.tables e below (T1.setTop (mkF m 13 #[.val (.ref a1), .val (.int p1), .val (.ref ta), .val (.int (2 : Int32)), .val (.int (((0 : Int32) + (1 : Int32)) + (1 : Int32))), .val (.int v1)] [(.int (((0 : Int32) + (1 : Int32)) + (1 : Int32)))])) _
        refine XS.iloadN X1.here hx rfl (hb hby d4_13) rfl ?_
        show Steps p.tables e below (T1.setTop (mkF m 14 #[.val (.ref a1), .val (.int p1), .val (.ref ta), .val (.int (2 : Int32)), .val (.int (((0 : Int32) + (1 : Int32)) + (1 : Int32))), .val (.int v1)] [(.int (2 : Int32)), (.int (((0 : Int32) + (1 : Int32)) + (1 : Int32)))])) _
        refine XS.icmpYes X1.here hx rfl (pc0 := 14) (pc' := 40) rfl (hb hby d4_14) rfl (flt (by decide : ¬ ((((0 : Int32) + (1 : Int32)) + (1 : Int32)) < (2 : Int32)))).2.1 (by decide) (by decide) ?_
        show Steps p.tables e below (T1.setTop (mkF m 40 #[.val (.ref a1), .val (.int p1), .val (.ref ta), .val (.int (2 : Int32)), .val (.int (((0 : Int32) + (1 : Int32)) + (1 : Int32))), .val (.int v1)] [])) _
        refine XS.aloadN X1.here hx rfl (hb hby d4_40) rfl rfl ?_
        show Steps p.tables e below (T1.setTop (mkF m 41 #[.val (.ref a1), .val (.int p1), .val (.ref ta), .val (.int (2 : Int32)), .val (.int (((0 : Int32) + (1 : Int32)) + (1 : Int32))), .val (.int v1)] [(.ref a1)])) _
        refine st15 _ ?_
        exact k
      by_cases c44 : s0 = 0
      · skip
        obtain ⟨fs, hr, hrun, hended, hW, hsame⟩ := X15.leave (v := some (.int (1 : Int32))) (fun h => by rw [Bd.returns] at h; cases h)
        refine ⟨_, _, pre14 _ ?_, hrun, hended, _, _, rfl, ?_, ⟨_, rfl⟩, hW, hsame.mono (by decide) (by decide)⟩
        · show Steps p.tables e below (T15.setTop (mkF m 44 #[.val (.ref a1), .val (.int p1), .val (.ref ta), .val (.int (2 : Int32)), .val (.int (((0 : Int32) + (1 : Int32)) + (1 : Int32))), .val (.int v1)] [(.int s0)])) _
          refine XS.ifNo X15.here hx rfl (hb hby d4_44) rfl ((if0 _ _).trans (teq c44).2) ?_
          show Steps p.tables e below (T15.setTop (mkF m 47 #[.val (.ref a1), .val (.int p1), .val (.ref ta), .val (.int (2 : Int32)), .val (.int (((0 : Int32) + (1 : Int32)) + (1 : Int32))), .val (.int v1)] [])) _
          refine XS.iconst X15.here hx rfl (hb hby d4_47) ?_
          show Steps p.tables e below (T15.setTop (mkF m 48 #[.val (.ref a1), .val (.int p1), .val (.ref ta), .val (.int (2 : Int32)), .val (.int (((0 : Int32) + (1 : Int32)) + (1 : Int32))), .val (.int v1)] [(.int (1 : Int32))])) _
          refine XS.goto X15.here hx rfl (pc0 := 48) (pc' := 52) rfl (hb hby d4_48) (by decide) (by decide) ?_
          show Steps p.tables e below (T15.setTop (mkF m 52 #[.val (.ref a1), .val (.int p1), .val (.ref ta), .val (.int (2 : Int32)), .val (.int (((0 : Int32) + (1 : Int32)) + (1 : Int32))), .val (.int v1)] [(.int (1 : Int32))])) _
          exact retN X15 hx (t := .boolean) Bd.returns (by simp) (hb hby d4_52) hr
        · show Q4x2 Z a1 p1 ta s0 kk v0 v1 h0 n0 _ T15.heap _
          rw [e15]
          exact ⟨by rw [hst]; unfold own_z; rw [if_pos c44], N0, KK0, E1, F1, by rw [hst]; exact F2⟩
      · skip
        obtain ⟨fs, hr, hrun, hended, hW, hsame⟩ := X15.leave (v := some (.int (0 : Int32))) (fun h => by rw [Bd.returns] at h; cases h)
        refine ⟨_, _, pre14 _ ?_, hrun, hended, _, _, rfl, ?_, ⟨_, rfl⟩, hW, hsame.mono (by decide) (by decide)⟩
        · show Steps p.tables e below (T15.setTop (mkF m 44 #[.val (.ref a1), .val (.int p1), .val (.ref ta), .val (.int (2 : Int32)), .val (.int (((0 : Int32) + (1 : Int32)) + (1 : Int32))), .val (.int v1)] [(.int s0)])) _
          refine XS.ifYes X15.here hx rfl (pc0 := 44) (pc' := 51) rfl (hb hby d4_44) rfl ((if0 _ _).trans (feq c44).2) (by decide) (by decide) ?_
          show Steps p.tables e below (T15.setTop (mkF m 51 #[.val (.ref a1), .val (.int p1), .val (.ref ta), .val (.int (2 : Int32)), .val (.int (((0 : Int32) + (1 : Int32)) + (1 : Int32))), .val (.int v1)] [])) _
          refine XS.iconst X15.here hx rfl (hb hby d4_51) ?_
          show Steps p.tables e below (T15.setTop (mkF m 52 #[.val (.ref a1), .val (.int p1), .val (.ref ta), .val (.int (2 : Int32)), .val (.int (((0 : Int32) + (1 : Int32)) + (1 : Int32))), .val (.int v1)] [(.int (0 : Int32))])) _
          exact retN X15 hx (t := .boolean) Bd.returns (by simp) (hb hby d4_52) hr
        · show Q4x2 Z a1 p1 ta s0 kk v0 v1 h0 n0 _ T15.heap _
          rw [e15]
          exact ⟨by rw [hst]; unfold own_z; rw [if_neg c44], N0, KK0, E1, F1, by rw [hst]; exact F2⟩
def Q0 (Z : State) (p0 p1 p2 p3 p4 : Int32) (h0 : Heap) (n0 : Nat) (v : Option Value) (h : Heap) (L : List Loc) : Prop := v = some (.int 1) ∧ Fr n0 L
set_option maxRecDepth 65536 in
set_option maxHeartbeats 40000000 in
theorem rm0 (l : Launch) (Z : State) (a0 : Array Value) (hw : ∀ d ∈ tables_1, d.before a0 Z = true) (ws : List Jvm.Cond) (p0 p1 p2 p3 p4 : Int32) (h0 : Heap) (n0 : Nat) (Z0 : n0 ≤ h0.size) :
    MetFree l x (head1 (Jvm.Cond.code x code maxLocals ret :: ws) room_1) (fun a U => a = #[(.int p0), (.int p1), (.int p2), (.int p3), (.int p4)] ∧ Z.Warmed39 U.vm ∧ U.heap = h0) (fun _ _ _ _ _ => True) (fun _ U o U' => ∃ v L, o = .returned v ∧ Q0 Z p0 p1 p2 p3 p4 h0 n0 v U'.heap L ∧ FrameEnd U o U' L room_1.cells room_1.slots) := by
  refine MetFree.of_bodySF (plainFor_of_name pn_0) hisR ?_
  intro p e s m args below meth c s₁ Bd hml0 hP hK
  obtain ⟨rfl, hZ, hh⟩ := hP
  have hx := Bd.exec
  have hby := Bd.bytes
  have hml : c.maxLocals = 18 := hml0
  have hown : s.vm.findClass "com/example/governor/governor/server/StopAtBeginsPinLaw" = some m.cls := findClass_of_methodNamed Bd.named
  have hnm := (name_of_methodNamed Bd.named Bd.method).1
  have X0 : Stand p l e room_1 s m #[(.int p0), (.int p1), (.int p2), (.int p3), (.int p4)] below meth c s₁ [] 0 0 := Stand.of_body Bd
  have e0 : s₁.heap = h0 := by rw [← hh, Bd.state]; rfl
  have N0 := Fr.nil n0
  have pre0 : ∀ t, Steps p.tables e below (s₁.setTop (mkF m 0 #[.val (.int p0), .val (.int p1), .val (.int p2), .val (.int p3), .val (.int p4), .unset, .unset, .unset, .unset, .unset, .unset, .unset, .unset, .unset, .unset, .unset, .unset, .unset] [])) t → Steps p.tables e below (s₁.setTop (entryFrame m #[(.int p0), (.int p1), (.int p2), (.int p3), (.int p4)] maxLocals)) t := fun t k => castTop (ef_0 m p0 p1 p2 p3 p4) k
  have pre1 : ∀ t, Steps p.tables e below (s₁.setTop (mkF m 16 #[.val (.int p0), .val (.int p1), .val (.int p2), .val (.int p3), .val (.int p4), .val (.int (p0.toInt8.toInt32)), .val (.int (p1.toInt8.toInt32)), .val (.int ((p4 &&& (3 : Int32)) % (3 : Int32))), .unset, .unset, .unset, .unset, .unset, .unset, .unset, .unset, .unset, .unset] [])) t → Steps p.tables e below (s₁.setTop (entryFrame m #[(.int p0), (.int p1), (.int p2), (.int p3), (.int p4)] maxLocals)) t := by
    intro t k
    refine pre0 t ?_
    show Steps p.tables e below (s₁.setTop (mkF m 0 #[.val (.int p0), .val (.int p1), .val (.int p2), .val (.int p3), .val (.int p4), .unset, .unset, .unset, .unset, .unset, .unset, .unset, .unset, .unset, .unset, .unset, .unset, .unset] [])) _
    refine XS.iloadN X0.here hx rfl (hb hby at_0) rfl ?_
    show Steps p.tables e below (s₁.setTop (mkF m 1 #[.val (.int p0), .val (.int p1), .val (.int p2), .val (.int p3), .val (.int p4), .unset, .unset, .unset, .unset, .unset, .unset, .unset, .unset, .unset, .unset, .unset, .unset, .unset] [(.int p0)])) _
    refine XS.i2b X0.here hx rfl (hb hby at_1) rfl ?_
    show Steps p.tables e below (s₁.setTop (mkF m 2 #[.val (.int p0), .val (.int p1), .val (.int p2), .val (.int p3), .val (.int p4), .unset, .unset, .unset, .unset, .unset, .unset, .unset, .unset, .unset, .unset, .unset, .unset, .unset] [(.int (p0.toInt8.toInt32))])) _
    refine XS.istore X0.here hx rfl (hb hby at_2) rfl (l' := #[.val (.int p0), .val (.int p1), .val (.int p2), .val (.int p3), .val (.int p4), .val (.int (p0.toInt8.toInt32)), .unset, .unset, .unset, .unset, .unset, .unset, .unset, .unset, .unset, .unset, .unset, .unset]) rfl ?_
    show Steps p.tables e below (s₁.setTop (mkF m 4 #[.val (.int p0), .val (.int p1), .val (.int p2), .val (.int p3), .val (.int p4), .val (.int (p0.toInt8.toInt32)), .unset, .unset, .unset, .unset, .unset, .unset, .unset, .unset, .unset, .unset, .unset, .unset] [])) _
    refine XS.iloadN X0.here hx rfl (hb hby at_4) rfl ?_
    show Steps p.tables e below (s₁.setTop (mkF m 5 #[.val (.int p0), .val (.int p1), .val (.int p2), .val (.int p3), .val (.int p4), .val (.int (p0.toInt8.toInt32)), .unset, .unset, .unset, .unset, .unset, .unset, .unset, .unset, .unset, .unset, .unset, .unset] [(.int p1)])) _
    refine XS.i2b X0.here hx rfl (hb hby at_5) rfl ?_
    show Steps p.tables e below (s₁.setTop (mkF m 6 #[.val (.int p0), .val (.int p1), .val (.int p2), .val (.int p3), .val (.int p4), .val (.int (p0.toInt8.toInt32)), .unset, .unset, .unset, .unset, .unset, .unset, .unset, .unset, .unset, .unset, .unset, .unset] [(.int (p1.toInt8.toInt32))])) _
    refine XS.istore X0.here hx rfl (hb hby at_6) rfl (l' := #[.val (.int p0), .val (.int p1), .val (.int p2), .val (.int p3), .val (.int p4), .val (.int (p0.toInt8.toInt32)), .val (.int (p1.toInt8.toInt32)), .unset, .unset, .unset, .unset, .unset, .unset, .unset, .unset, .unset, .unset, .unset]) rfl ?_
    show Steps p.tables e below (s₁.setTop (mkF m 8 #[.val (.int p0), .val (.int p1), .val (.int p2), .val (.int p3), .val (.int p4), .val (.int (p0.toInt8.toInt32)), .val (.int (p1.toInt8.toInt32)), .unset, .unset, .unset, .unset, .unset, .unset, .unset, .unset, .unset, .unset, .unset] [])) _
    refine XS.iload X0.here hx rfl (hb hby at_8) rfl ?_
    show Steps p.tables e below (s₁.setTop (mkF m 10 #[.val (.int p0), .val (.int p1), .val (.int p2), .val (.int p3), .val (.int p4), .val (.int (p0.toInt8.toInt32)), .val (.int (p1.toInt8.toInt32)), .unset, .unset, .unset, .unset, .unset, .unset, .unset, .unset, .unset, .unset, .unset] [(.int p4)])) _
    refine XS.iconst X0.here hx rfl (hb hby at_10) ?_
    show Steps p.tables e below (s₁.setTop (mkF m 11 #[.val (.int p0), .val (.int p1), .val (.int p2), .val (.int p3), .val (.int p4), .val (.int (p0.toInt8.toInt32)), .val (.int (p1.toInt8.toInt32)), .unset, .unset, .unset, .unset, .unset, .unset, .unset, .unset, .unset, .unset, .unset] [(.int (3 : Int32)), (.int p4)])) _
    refine XS.iand X0.here hx rfl (hb hby at_11) rfl ?_
    show Steps p.tables e below (s₁.setTop (mkF m 12 #[.val (.int p0), .val (.int p1), .val (.int p2), .val (.int p3), .val (.int p4), .val (.int (p0.toInt8.toInt32)), .val (.int (p1.toInt8.toInt32)), .unset, .unset, .unset, .unset, .unset, .unset, .unset, .unset, .unset, .unset, .unset] [(.int (p4 &&& (3 : Int32)))])) _
    refine XS.iconst X0.here hx rfl (hb hby at_12) ?_
    show Steps p.tables e below (s₁.setTop (mkF m 13 #[.val (.int p0), .val (.int p1), .val (.int p2), .val (.int p3), .val (.int p4), .val (.int (p0.toInt8.toInt32)), .val (.int (p1.toInt8.toInt32)), .unset, .unset, .unset, .unset, .unset, .unset, .unset, .unset, .unset, .unset, .unset] [(.int (3 : Int32)), (.int (p4 &&& (3 : Int32)))])) _
    refine iremM X0 hx rfl (hb hby at_13) rfl (by decide) ?_
    show Steps p.tables e below (s₁.setTop (mkF m 14 #[.val (.int p0), .val (.int p1), .val (.int p2), .val (.int p3), .val (.int p4), .val (.int (p0.toInt8.toInt32)), .val (.int (p1.toInt8.toInt32)), .unset, .unset, .unset, .unset, .unset, .unset, .unset, .unset, .unset, .unset, .unset] [(.int ((p4 &&& (3 : Int32)) % (3 : Int32)))])) _
    refine XS.istore X0.here hx rfl (hb hby at_14) rfl (l' := #[.val (.int p0), .val (.int p1), .val (.int p2), .val (.int p3), .val (.int p4), .val (.int (p0.toInt8.toInt32)), .val (.int (p1.toInt8.toInt32)), .val (.int ((p4 &&& (3 : Int32)) % (3 : Int32))), .unset, .unset, .unset, .unset, .unset, .unset, .unset, .unset, .unset, .unset]) rfl ?_
    exact k
  obtain ⟨ba, eba⟩ : ∃ z, z = (p0.toInt8.toInt32) := ⟨_, rfl⟩
  obtain ⟨bb, ebb⟩ : ∃ z, z = (p1.toInt8.toInt32) := ⟨_, rfl⟩
  obtain ⟨ln, eln⟩ : ∃ z, z = ((p4 &&& (3 : Int32)) % (3 : Int32)) := ⟨_, rfl⟩
  rw [← eba, ← ebb, ← eln] at pre1
  have hba : nar .byte ba = ba := by rw [eba]; exact own_nb p0
  have hbb : nar .byte bb = bb := by rw [ebb]; exact own_nb p1
  have hln := own_len p4
  rw [← eln] at hln
  rcases hln with hln | hln | hln
  · skip
    subst hln
    obtain ⟨T1, h1, k1, X1, e1, E1, A1, st1⟩ := newP X0 hx hZ (hw _ (List.mem_of_getElem? (i := 0) rfl)) e0 (g := (mkF m 22 #[.val (.int p0), .val (.int p1), .val (.int p2), .val (.int p3), .val (.int p4), .val (.int ba), .val (.int bb), .val (.int (0 : Int32)), .unset, .unset, .unset, .unset, .unset, .unset, .unset, .unset, .unset, .unset] [(.int (0 : Int32))])) rfl (hb hby at_22) rfl (by decide) (cap := 0) (by decide) (by decide) (by decide) (by decide)
    obtain ⟨b1, g1⟩ : ∃ z, z = h0.size := ⟨_, rfl⟩
    rw [← g1] at A1 st1
    have g_b1 : n0 ≤ b1 := Nat.le_trans Z0 (Nat.le_of_eq g1.symm)
    have Zs2 := Nat.le_trans Z0 E1.1
    have V_b1 : Arv Z h1 b1 k1 .byte (0 : Int32) [] (.int (0 : Int32)) := Arv.new A1 (by decide)
    have pre2 : ∀ t, Steps p.tables e below (T1.setTop (mkF m 63 #[.val (.int p0), .val (.int p1), .val (.int p2), .val (.int p3), .val (.int p4), .val (.int ba), .val (.int bb), .val (.int (0 : Int32)), .val (.ref b1), .unset, .unset, .unset, .unset, .unset, .unset, .unset, .unset, .unset] [])) t → Steps p.tables e below (s₁.setTop (entryFrame m #[(.int p0), (.int p1), (.int p2), (.int p3), (.int p4)] maxLocals)) t := by
      intro t k
      refine pre1 t ?_
      show Steps p.tables e below (s₁.setTop (mkF m 16 #[.val (.int p0), .val (.int p1), .val (.int p2), .val (.int p3), .val (.int p4), .val (.int ba), .val (.int bb), .val (.int (0 : Int32)), .unset, .unset, .unset, .unset, .unset, .unset, .unset, .unset, .unset, .unset] [])) _
      refine XS.iload X0.here hx rfl (hb hby at_16) rfl ?_
      show Steps p.tables e below (s₁.setTop (mkF m 18 #[.val (.int p0), .val (.int p1), .val (.int p2), .val (.int p3), .val (.int p4), .val (.int ba), .val (.int bb), .val (.int (0 : Int32)), .unset, .unset, .unset, .unset, .unset, .unset, .unset, .unset, .unset, .unset] [(.int (0 : Int32))])) _
      refine XS.ifNo X0.here hx rfl (hb hby at_18) rfl ((if0 _ _).trans (teq (rfl : (0 : Int32) = (0 : Int32))).2) ?_
      show Steps p.tables e below (s₁.setTop (mkF m 21 #[.val (.int p0), .val (.int p1), .val (.int p2), .val (.int p3), .val (.int p4), .val (.int ba), .val (.int bb), .val (.int (0 : Int32)), .unset, .unset, .unset, .unset, .unset, .unset, .unset, .unset, .unset, .unset] [])) _
      refine XS.iconst X0.here hx rfl (hb hby at_21) ?_
      show Steps p.tables e below (s₁.setTop (mkF m 22 #[.val (.int p0), .val (.int p1), .val (.int p2), .val (.int p3), .val (.int p4), .val (.int ba), .val (.int bb), .val (.int (0 : Int32)), .unset, .unset, .unset, .unset, .unset, .unset, .unset, .unset, .unset, .unset] [(.int (0 : Int32))])) _
      refine st1 _ ?_
      show Steps p.tables e below (T1.setTop (mkF m 24 #[.val (.int p0), .val (.int p1), .val (.int p2), .val (.int p3), .val (.int p4), .val (.int ba), .val (.int bb), .val (.int (0 : Int32)), .unset, .unset, .unset, .unset, .unset, .unset, .unset, .unset, .unset, .unset] [(.ref b1)])) _
      refine XS.astore X1.here hx rfl (hb hby at_24) rfl rfl (l' := #[.val (.int p0), .val (.int p1), .val (.int p2), .val (.int p3), .val (.int p4), .val (.int ba), .val (.int bb), .val (.int (0 : Int32)), .val (.ref b1), .unset, .unset, .unset, .unset, .unset, .unset, .unset, .unset, .unset]) rfl ?_
      show Steps p.tables e below (T1.setTop (mkF m 26 #[.val (.int p0), .val (.int p1), .val (.int p2), .val (.int p3), .val (.int p4), .val (.int ba), .val (.int bb), .val (.int (0 : Int32)), .val (.ref b1), .unset, .unset, .unset, .unset, .unset, .unset, .unset, .unset, .unset] [])) _
      refine XS.goto X1.here hx rfl (pc0 := 26) (pc' := 63) rfl (hb hby at_26) (by decide) (by decide) ?_
      exact k
    obtain ⟨_, _, ⟨T3, L3, k3, n3⟩, -, X3, ⟨Lc3, hQ3, l3, y3, z3⟩, st3⟩ := Jvm.LawKit.callS X1 hx (y := (⟨"com/example/governor/governor/server/StopAtBeginsPinLaw", "pick", "(IBBB)B"⟩ : MethodName)) hown (mvT hZ (hw _ (List.mem_of_getElem? (i := 1) rfl))) (mvT hZ (hw _ (List.mem_of_getElem? (i := 2) rfl))) (mvT hZ (hw _ (List.mem_of_getElem? (i := 3) rfl))) (mvT hZ (hw _ (List.mem_of_getElem? (i := 4) rfl))) (by decide) (backOf (W := 0) (rm1 l Z a0 hw [] ((p4.toUInt32 >>> ((2 : Int32) &&& 31).toUInt32).toInt32) ba bb (p2.toInt8.toInt32) h1 n0 Zs2 hba hbb (own_nb _)) hZ (hw _ (List.mem_of_getElem? (i := 4) rfl)) (hw _ (List.mem_of_getElem? (i := 3) rfl)) (by decide) (by decide)) (g := (mkF m 73 #[.val (.int p0), .val (.int p1), .val (.int p2), .val (.int p3), .val (.int p4), .val (.int ba), .val (.int bb), .val (.int (0 : Int32)), .val (.ref b1), .unset, .unset, .unset, .unset, .unset, .unset, .unset, .unset, .unset] [(.int (p2.toInt8.toInt32)), (.int bb), (.int ba), (.int ((p4.toUInt32 >>> ((2 : Int32) &&& 31).toUInt32).toInt32))])) rfl (by rw [hml]; rfl) (argsL := [(.int ((p4.toUInt32 >>> ((2 : Int32) &&& 31).toUInt32).toInt32)), (.int ba), (.int bb), (.int (p2.toInt8.toInt32))]) (rest := []) (lenOf pd_0 rfl) rfl (by show 2 * 0 + _ ≤ _; exact Nat.le_of_eq rfl) (hb hby at_73) (fun _ _ => ⟨rfl, e1, (by decide : 1 + 0 ≤ _), (by decide : 0 + 0 ≤ _)⟩)
    dsimp only [Pt.U, Pt.locs, Pt.cells, Pt.slots] at X3 l3 y3 z3 st3 hQ3
    subst l3 y3 z3
    obtain ⟨rfl, N3q, e3q⟩ := hQ3
    have N3 := Fr.app N0 N3q
    obtain ⟨_, _, ⟨T4, L4, k4, n4⟩, -, X4, ⟨Lc4, hQ4, l4, y4, z4⟩, st4⟩ := Jvm.LawKit.callS X3 hx (y := (⟨"com/example/governor/governor/server/StopAtBeginsPinLaw", "pick", "(IBBB)B"⟩ : MethodName)) hown (mvT hZ (hw _ (List.mem_of_getElem? (i := 1) rfl))) (mvT hZ (hw _ (List.mem_of_getElem? (i := 2) rfl))) (mvT hZ (hw _ (List.mem_of_getElem? (i := 3) rfl))) (mvT hZ (hw _ (List.mem_of_getElem? (i := 4) rfl))) (by decide) (backOf (W := 0) (rm1 l Z a0 hw [] ((p4.toUInt32 >>> ((4 : Int32) &&& 31).toUInt32).toInt32) ba bb (p3.toInt8.toInt32) h1 n0 Zs2 hba hbb (own_nb _)) hZ (hw _ (List.mem_of_getElem? (i := 4) rfl)) (hw _ (List.mem_of_getElem? (i := 3) rfl)) (by decide) (by decide)) (g := (mkF m 88 #[.val (.int p0), .val (.int p1), .val (.int p2), .val (.int p3), .val (.int p4), .val (.int ba), .val (.int bb), .val (.int (0 : Int32)), .val (.ref b1), .val (.int (own_pick ((p4.toUInt32 >>> ((2 : Int32) &&& 31).toUInt32).toInt32) ba bb (p2.toInt8.toInt32))), .unset, .unset, .unset, .unset, .unset, .unset, .unset, .unset] [(.int (p3.toInt8.toInt32)), (.int bb), (.int ba), (.int ((p4.toUInt32 >>> ((4 : Int32) &&& 31).toUInt32).toInt32))])) rfl (by rw [hml]; rfl) (argsL := [(.int ((p4.toUInt32 >>> ((4 : Int32) &&& 31).toUInt32).toInt32)), (.int ba), (.int bb), (.int (p3.toInt8.toInt32))]) (rest := []) (lenOf pd_0 rfl) rfl (by show 2 * 0 + _ ≤ _; exact Nat.le_of_eq rfl) (hb hby at_88) (fun _ _ => ⟨rfl, e3q, (by decide : 1 + 0 ≤ _), (by decide : 0 + 0 ≤ _)⟩)
    dsimp only [Pt.U, Pt.locs, Pt.cells, Pt.slots] at X4 l4 y4 z4 st4 hQ4
    subst l4 y4 z4
    obtain ⟨rfl, N4q, e4q⟩ := hQ4
    have N4 := Fr.app N3 N4q
    have pre3 : ∀ t, Steps p.tables e below (T4.setTop (mkF m 93 #[.val (.int p0), .val (.int p1), .val (.int p2), .val (.int p3), .val (.int p4), .val (.int ba), .val (.int bb), .val (.int (0 : Int32)), .val (.ref b1), .val (.int (own_pick ((p4.toUInt32 >>> ((2 : Int32) &&& 31).toUInt32).toInt32) ba bb (p2.toInt8.toInt32))), .val (.int (own_pick ((p4.toUInt32 >>> ((4 : Int32) &&& 31).toUInt32).toInt32) ba bb (p3.toInt8.toInt32))), .unset, .unset, .unset, .unset, .unset, .unset, .unset] [])) t → Steps p.tables e below (s₁.setTop (entryFrame m #[(.int p0), (.int p1), (.int p2), (.int p3), (.int p4)] maxLocals)) t := by
      intro t k
      refine pre2 t ?_
      show Steps p.tables e below (T1.setTop (mkF m 63 #[.val (.int p0), .val (.int p1), .val (.int p2), .val (.int p3), .val (.int p4), .val (.int ba), .val (.int bb), .val (.int (0 : Int32)), .val (.ref b1), .unset, .unset, .unset, .unset, .unset, .unset, .unset, .unset, .unset] [])) _
      refine XS.iload X1.here hx rfl (hb hby at_63) rfl ?_
      show Steps p.tables e below (T1.setTop (mkF m 65 #[.val (.int p0), .val (.int p1), .val (.int p2), .val (.int p3), .val (.int p4), .val (.int ba), .val (.int bb), .val (.int (0 : Int32)), .val (.ref b1), .unset, .unset, .unset, .unset, .unset, .unset, .unset, .unset, .unset] [(.int p4)])) _
      refine XS.iconst X1.here hx rfl (hb hby at_65) ?_
      show Steps p.tables e below (T1.setTop (mkF m 66 #[.val (.int p0), .val (.int p1), .val (.int p2), .val (.int p3), .val (.int p4), .val (.int ba), .val (.int bb), .val (.int (0 : Int32)), .val (.ref b1), .unset, .unset, .unset, .unset, .unset, .unset, .unset, .unset, .unset] [(.int (2 : Int32)), (.int p4)])) _
      refine XS.iushr X1.here hx rfl (hb hby at_66) rfl ?_
      show Steps p.tables e below (T1.setTop (mkF m 67 #[.val (.int p0), .val (.int p1), .val (.int p2), .val (.int p3), .val (.int p4), .val (.int ba), .val (.int bb), .val (.int (0 : Int32)), .val (.ref b1), .unset, .unset, .unset, .unset, .unset, .unset, .unset, .unset, .unset] [(.int ((p4.toUInt32 >>> ((2 : Int32) &&& 31).toUInt32).toInt32))])) _
      refine XS.iload X1.here hx rfl (hb hby at_67) rfl ?_
      show Steps p.tables e below (T1.setTop (mkF m 69 #[.val (.int p0), .val (.int p1), .val (.int p2), .val (.int p3), .val (.int p4), .val (.int ba), .val (.int bb), .val (.int (0 : Int32)), .val (.ref b1), .unset, .unset, .unset, .unset, .unset, .unset, .unset, .unset, .unset] [(.int ba), (.int ((p4.toUInt32 >>> ((2 : Int32) &&& 31).toUInt32).toInt32))])) _
      refine XS.iload X1.here hx rfl (hb hby at_69) rfl ?_
      show Steps p.tables e below (T1.setTop (mkF m 71 #[.val (.int p0), .val (.int p1), .val (.int p2), .val (.int p3), .val (.int p4), .val (.int ba), .val (.int bb), .val (.int (0 : Int32)), .val (.ref b1), .unset, .unset, .unset, .unset, .unset, .unset, .unset, .unset, .unset] [(.int bb), (.int ba), (.int ((p4.toUInt32 >>> ((2 : Int32) &&& 31).toUInt32).toInt32))])) _
      refine XS.iloadN X1.here hx rfl (hb hby at_71) rfl ?_
      show Steps p.tables e below (T1.setTop (mkF m 72 #[.val (.int p0), .val (.int p1), .val (.int p2), .val (.int p3), .val (.int p4), .val (.int ba), .val (.int bb), .val (.int (0 : Int32)), .val (.ref b1), .unset, .unset, .unset, .unset, .unset, .unset, .unset, .unset, .unset] [(.int p2), (.int bb), (.int ba), (.int ((p4.toUInt32 >>> ((2 : Int32) &&& 31).toUInt32).toInt32))])) _
      refine XS.i2b X1.here hx rfl (hb hby at_72) rfl ?_
      show Steps p.tables e below (T1.setTop (mkF m 73 #[.val (.int p0), .val (.int p1), .val (.int p2), .val (.int p3), .val (.int p4), .val (.int ba), .val (.int bb), .val (.int (0 : Int32)), .val (.ref b1), .unset, .unset, .unset, .unset, .unset, .unset, .unset, .unset, .unset] [(.int (p2.toInt8.toInt32)), (.int bb), (.int ba), (.int ((p4.toUInt32 >>> ((2 : Int32) &&& 31).toUInt32).toInt32))])) _
      refine st3 _ ?_
      show Steps p.tables e below (T3.setTop (mkF m 76 #[.val (.int p0), .val (.int p1), .val (.int p2), .val (.int p3), .val (.int p4), .val (.int ba), .val (.int bb), .val (.int (0 : Int32)), .val (.ref b1), .unset, .unset, .unset, .unset, .unset, .unset, .unset, .unset, .unset] [(.int (own_pick ((p4.toUInt32 >>> ((2 : Int32) &&& 31).toUInt32).toInt32) ba bb (p2.toInt8.toInt32)))])) _
      refine XS.istore X3.here hx rfl (hb hby at_76) rfl (l' := #[.val (.int p0), .val (.int p1), .val (.int p2), .val (.int p3), .val (.int p4), .val (.int ba), .val (.int bb), .val (.int (0 : Int32)), .val (.ref b1), .val (.int (own_pick ((p4.toUInt32 >>> ((2 : Int32) &&& 31).toUInt32).toInt32) ba bb (p2.toInt8.toInt32))), .unset, .unset, .unset, .unset, .unset, .unset, .unset, .unset]) rfl ?_
      show Steps p.tables e below (T3.setTop (mkF m 78 #[.val (.int p0), .val (.int p1), .val (.int p2), .val (.int p3), .val (.int p4), .val (.int ba), .val (.int bb), .val (.int (0 : Int32)), .val (.ref b1), .val (.int (own_pick ((p4.toUInt32 >>> ((2 : Int32) &&& 31).toUInt32).toInt32) ba bb (p2.toInt8.toInt32))), .unset, .unset, .unset, .unset, .unset, .unset, .unset, .unset] [])) _
      refine XS.iload X3.here hx rfl (hb hby at_78) rfl ?_
      show Steps p.tables e below (T3.setTop (mkF m 80 #[.val (.int p0), .val (.int p1), .val (.int p2), .val (.int p3), .val (.int p4), .val (.int ba), .val (.int bb), .val (.int (0 : Int32)), .val (.ref b1), .val (.int (own_pick ((p4.toUInt32 >>> ((2 : Int32) &&& 31).toUInt32).toInt32) ba bb (p2.toInt8.toInt32))), .unset, .unset, .unset, .unset, .unset, .unset, .unset, .unset] [(.int p4)])) _
      refine XS.iconst X3.here hx rfl (hb hby at_80) ?_
      show Steps p.tables e below (T3.setTop (mkF m 81 #[.val (.int p0), .val (.int p1), .val (.int p2), .val (.int p3), .val (.int p4), .val (.int ba), .val (.int bb), .val (.int (0 : Int32)), .val (.ref b1), .val (.int (own_pick ((p4.toUInt32 >>> ((2 : Int32) &&& 31).toUInt32).toInt32) ba bb (p2.toInt8.toInt32))), .unset, .unset, .unset, .unset, .unset, .unset, .unset, .unset] [(.int (4 : Int32)), (.int p4)])) _
      refine XS.iushr X3.here hx rfl (hb hby at_81) rfl ?_
      show Steps p.tables e below (T3.setTop (mkF m 82 #[.val (.int p0), .val (.int p1), .val (.int p2), .val (.int p3), .val (.int p4), .val (.int ba), .val (.int bb), .val (.int (0 : Int32)), .val (.ref b1), .val (.int (own_pick ((p4.toUInt32 >>> ((2 : Int32) &&& 31).toUInt32).toInt32) ba bb (p2.toInt8.toInt32))), .unset, .unset, .unset, .unset, .unset, .unset, .unset, .unset] [(.int ((p4.toUInt32 >>> ((4 : Int32) &&& 31).toUInt32).toInt32))])) _
      refine XS.iload X3.here hx rfl (hb hby at_82) rfl ?_
      show Steps p.tables e below (T3.setTop (mkF m 84 #[.val (.int p0), .val (.int p1), .val (.int p2), .val (.int p3), .val (.int p4), .val (.int ba), .val (.int bb), .val (.int (0 : Int32)), .val (.ref b1), .val (.int (own_pick ((p4.toUInt32 >>> ((2 : Int32) &&& 31).toUInt32).toInt32) ba bb (p2.toInt8.toInt32))), .unset, .unset, .unset, .unset, .unset, .unset, .unset, .unset] [(.int ba), (.int ((p4.toUInt32 >>> ((4 : Int32) &&& 31).toUInt32).toInt32))])) _
      refine XS.iload X3.here hx rfl (hb hby at_84) rfl ?_
      show Steps p.tables e below (T3.setTop (mkF m 86 #[.val (.int p0), .val (.int p1), .val (.int p2), .val (.int p3), .val (.int p4), .val (.int ba), .val (.int bb), .val (.int (0 : Int32)), .val (.ref b1), .val (.int (own_pick ((p4.toUInt32 >>> ((2 : Int32) &&& 31).toUInt32).toInt32) ba bb (p2.toInt8.toInt32))), .unset, .unset, .unset, .unset, .unset, .unset, .unset, .unset] [(.int bb), (.int ba), (.int ((p4.toUInt32 >>> ((4 : Int32) &&& 31).toUInt32).toInt32))])) _
      refine XS.iloadN X3.here hx rfl (hb hby at_86) rfl ?_
      show Steps p.tables e below (T3.setTop (mkF m 87 #[.val (.int p0), .val (.int p1), .val (.int p2), .val (.int p3), .val (.int p4), .val (.int ba), .val (.int bb), .val (.int (0 : Int32)), .val (.ref b1), .val (.int (own_pick ((p4.toUInt32 >>> ((2 : Int32) &&& 31).toUInt32).toInt32) ba bb (p2.toInt8.toInt32))), .unset, .unset, .unset, .unset, .unset, .unset, .unset, .unset] [(.int p3), (.int bb), (.int ba), (.int ((p4.toUInt32 >>> ((4 : Int32) &&& 31).toUInt32).toInt32))])) _
      refine XS.i2b X3.here hx rfl (hb hby at_87) rfl ?_
      show Steps p.tables e below (T3.setTop (mkF m 88 #[.val (.int p0), .val (.int p1), .val (.int p2), .val (.int p3), .val (.int p4), .val (.int ba), .val (.int bb), .val (.int (0 : Int32)), .val (.ref b1), .val (.int (own_pick ((p4.toUInt32 >>> ((2 : Int32) &&& 31).toUInt32).toInt32) ba bb (p2.toInt8.toInt32))), .unset, .unset, .unset, .unset, .unset, .unset, .unset, .unset] [(.int (p3.toInt8.toInt32)), (.int bb), (.int ba), (.int ((p4.toUInt32 >>> ((4 : Int32) &&& 31).toUInt32).toInt32))])) _
      refine st4 _ ?_
      show Steps p.tables e below (T4.setTop (mkF m 91 #[.val (.int p0), .val (.int p1), .val (.int p2), .val (.int p3), .val (.int p4), .val (.int ba), .val (.int bb), .val (.int (0 : Int32)), .val (.ref b1), .val (.int (own_pick ((p4.toUInt32 >>> ((2 : Int32) &&& 31).toUInt32).toInt32) ba bb (p2.toInt8.toInt32))), .unset, .unset, .unset, .unset, .unset, .unset, .unset, .unset] [(.int (own_pick ((p4.toUInt32 >>> ((4 : Int32) &&& 31).toUInt32).toInt32) ba bb (p3.toInt8.toInt32)))])) _
      refine XS.istore X4.here hx rfl (hb hby at_91) rfl (l' := #[.val (.int p0), .val (.int p1), .val (.int p2), .val (.int p3), .val (.int p4), .val (.int ba), .val (.int bb), .val (.int (0 : Int32)), .val (.ref b1), .val (.int (own_pick ((p4.toUInt32 >>> ((2 : Int32) &&& 31).toUInt32).toInt32) ba bb (p2.toInt8.toInt32))), .val (.int (own_pick ((p4.toUInt32 >>> ((4 : Int32) &&& 31).toUInt32).toInt32) ba bb (p3.toInt8.toInt32))), .unset, .unset, .unset, .unset, .unset, .unset, .unset]) rfl ?_
      exact k
    have ht1 : nar .byte (own_pick ((p4.toUInt32 >>> ((2 : Int32) &&& 31).toUInt32).toInt32) ba bb (p2.toInt8.toInt32)) = (own_pick ((p4.toUInt32 >>> ((2 : Int32) &&& 31).toUInt32).toInt32) ba bb (p2.toInt8.toInt32)) := own_pickb hba hbb (own_nb _)
    have ht2 : nar .byte (own_pick ((p4.toUInt32 >>> ((4 : Int32) &&& 31).toUInt32).toInt32) ba bb (p3.toInt8.toInt32)) = (own_pick ((p4.toUInt32 >>> ((4 : Int32) &&& 31).toUInt32).toInt32) ba bb (p3.toInt8.toInt32)) := own_pickb hba hbb (own_nb _)
    obtain ⟨t1, et1⟩ : ∃ z, z = (own_pick ((p4.toUInt32 >>> ((2 : Int32) &&& 31).toUInt32).toInt32) ba bb (p2.toInt8.toInt32)) := ⟨_, rfl⟩
    rw [← et1] at pre3 ht1
    obtain ⟨t2, et2⟩ : ∃ z, z = (own_pick ((p4.toUInt32 >>> ((4 : Int32) &&& 31).toUInt32).toInt32) ba bb (p3.toInt8.toInt32)) := ⟨_, rfl⟩
    rw [← et2] at pre3 ht2
    have hs1 : nar .byte (own_st [] t1 (0 : Int32)) = (own_st [] t1 (0 : Int32)) := own_stb ht1 _ own_n0
    have hs2 : nar .byte (own_st [] t2 (own_st [] t1 (0 : Int32))) = (own_st [] t2 (own_st [] t1 (0 : Int32))) := own_stb ht2 _ hs1
    obtain ⟨T5, h5, X5, e5, E5, A5, D5, -, st5⟩ := newO X4 hx hZ hown (hw _ (List.mem_of_getElem? (i := 5) rfl)) (hw _ (List.mem_of_getElem? (i := 6) rfl)) (hw _ (List.mem_of_getElem? (i := 7) rfl)) e4q (g := (mkF m 93 #[.val (.int p0), .val (.int p1), .val (.int p2), .val (.int p3), .val (.int p4), .val (.int ba), .val (.int bb), .val (.int (0 : Int32)), .val (.ref b1), .val (.int t1), .val (.int t2), .unset, .unset, .unset, .unset, .unset, .unset, .unset] [])) rfl (hb hby at_93) (by decide) (by decide)
    obtain ⟨b5, g5⟩ : ∃ z, z = h1.size := ⟨_, rfl⟩
    rw [← g5] at A5 D5 st5
    have ne_b1_b5 : b1 ≠ b5 := Nat.ne_of_lt (Nat.lt_of_lt_of_le V_b1.lt (Nat.le_of_eq g5.symm))
    have g_b5 : n0 ≤ b5 := Nat.le_trans Zs2 (Nat.le_of_eq g5.symm)
    have V_b1_5 := V_b1.ext E5
    have Zs6 := Nat.le_trans Zs2 E5.1
    have F_types_b5 : Fld Z h5 b5 "com/example/governor/governor/server/MessageScanner$StopAt" "types" "[B" .null := D5 (Or.inr (hw _ (List.mem_of_getElem? (i := 15) rfl))) (ty := (.array .byte)) (by decide)
    have F_stoppedAt_b5 : Fld Z h5 b5 "com/example/governor/governor/server/MessageScanner$StopAt" "stoppedAt" "B" (.int (0 : Int32)) := D5 (Or.inl (hw _ (List.mem_of_getElem? (i := 22) rfl))) (ty := .byte) (by decide)
    obtain ⟨_, _, ⟨T7, L7, k7, n7⟩, -, X7, ⟨Lc7, hQ7, l7, y7, z7⟩, st7⟩ := X5.specialBack hx (y := (⟨"com/example/governor/governor/server/MessageScanner$StopAt", "<init>", "([B)V"⟩ : MethodName)) rfl hown (mvT hZ (hw _ (List.mem_of_getElem? (i := 8) rfl))) (mvT hZ (hw _ (List.mem_of_getElem? (i := 9) rfl))) (mvT hZ (hw _ (List.mem_of_getElem? (i := 10) rfl))) (by decide) (backOf (W := 1) (rm2 l Z a0 hw [] b5 b1 h5 n0 Zs6 F_types_b5 F_stoppedAt_b5 A5 g_b5) hZ (hw _ (List.mem_of_getElem? (i := 10) rfl)) (hw _ (List.mem_of_getElem? (i := 7) rfl)) (by decide) (by decide)) (g := (mkF m 99 #[.val (.int p0), .val (.int p1), .val (.int p2), .val (.int p3), .val (.int p4), .val (.int ba), .val (.int bb), .val (.int (0 : Int32)), .val (.ref b1), .val (.int t1), .val (.int t2), .unset, .unset, .unset, .unset, .unset, .unset, .unset] [(.ref b1), (.ref b5), (.ref b5)])) rfl (by rw [hml]; rfl) (Steps.refl _) (a := b5) (argsL := [(.ref b1)]) (rest := [(.ref b5)]) (lenOf pd_1 rfl) rfl (by show 2 * 0 + _ ≤ _; exact Nat.le_of_eq rfl) (hb hby at_99) (fun _ _ => ⟨rfl, e5, (by decide : 2 + 0 ≤ _), (by decide : 2 + 0 ≤ _)⟩)
    dsimp only [Pt.U, Pt.locs, Pt.cells, Pt.slots] at X7 l7 y7 z7 st7 hQ7
    subst l7 y7 z7
    obtain ⟨rfl, N7q, K7q, E7q, Fa7q, Fb7q⟩ := hQ7
    have N7 := Fr.app N4 N7q
    have V_b1_7 := V_b1_5.keep K7q (ninS ne_b1_b5 nin0)
    have E_b5_7 := A5.keep K7q
    have Zs8 := Nat.le_trans Zs6 K7q.1
    obtain ⟨cq9, kq9, q9a, q9b, q9c⟩ := isOf hZ rfl E7q
    obtain ⟨_, _, ⟨T9, L9, k9, n9⟩, -, X9, ⟨Lc9, hQ9, l9, y9, z9⟩, st9⟩ := X7.virtualBack hx (y := (⟨"com/example/governor/governor/server/MessageScanner$StopAt", "begins", "(B)Z"⟩ : MethodName)) (z := (⟨"com/example/governor/governor/server/MessageScanner$StopAt", "begins", "(B)Z"⟩ : MethodName)) hown (mvT hZ (hw _ (List.mem_of_getElem? (i := 16) rfl))) (mvT hZ (hw _ (List.mem_of_getElem? (i := 17) rfl))) (notFace_of_selects (args := #[]) (mvT hZ (hw _ (List.mem_of_getElem? (i := 19) rfl)))) (mvT hZ (hw _ (List.mem_of_getElem? (i := 19) rfl))) (mvT hZ (hw _ (List.mem_of_getElem? (i := 18) rfl))) (by decide) (backOf (W := 0) (rm4x0 l Z a0 hw [] b5 t1 b1 (0 : Int32) k1  T7.heap n0 Zs8 Fa7q Fb7q E7q g_b5 V_b1_7 ne_b1_b5 ht1) hZ (hw _ (List.mem_of_getElem? (i := 20) rfl)) (hw _ (List.mem_of_getElem? (i := 7) rfl)) (by decide) (by decide)) q9a q9c (g := (mkF m 108 #[.val (.int p0), .val (.int p1), .val (.int p2), .val (.int p3), .val (.int p4), .val (.int ba), .val (.int bb), .val (.int (0 : Int32)), .val (.ref b1), .val (.int t1), .val (.int t2), .val (.ref b5), .unset, .unset, .unset, .unset, .unset, .unset] [(.int t1), (.ref b5)])) rfl (by rw [hml]; rfl) (Steps.refl _) (argsL := [(.int t1)]) (rest := []) (lenOf pd_2 rfl) rfl (by show 2 * 0 + _ ≤ _; exact Nat.le_of_eq rfl) (hb hby at_108) (fun _ _ => ⟨rfl, rfl, (by decide : 2 + 0 ≤ _), (by decide : 2 + 0 ≤ _)⟩)
    dsimp only [Pt.U, Pt.locs, Pt.cells, Pt.slots] at X9 l9 y9 z9 st9 hQ9
    subst l9 y9 z9
    obtain ⟨rfl, N9q, K9q, E9q, Fa9q, Fb9q⟩ := hQ9
    have N9 := Fr.app N7 N9q
    have V_b1_9 := V_b1_7.keep K9q (ninS ne_b1_b5 nin0)
    have E_b5_9 := E7q.keep K9q
    have Zs10 := Nat.le_trans Zs8 K9q.1
    obtain ⟨cq11, kq11, q11a, q11b, q11c⟩ := isOf hZ rfl E9q
    obtain ⟨_, _, ⟨T11, L11, k11, n11⟩, -, X11, ⟨Lc11, hQ11, l11, y11, z11⟩, st11⟩ := X9.virtualBack hx (y := (⟨"com/example/governor/governor/server/MessageScanner$StopAt", "stoppedAt", "()B"⟩ : MethodName)) (z := (⟨"com/example/governor/governor/server/MessageScanner$StopAt", "stoppedAt", "()B"⟩ : MethodName)) hown (mvT hZ (hw _ (List.mem_of_getElem? (i := 23) rfl))) (mvT hZ (hw _ (List.mem_of_getElem? (i := 24) rfl))) (notFace_of_selects (args := #[]) (mvT hZ (hw _ (List.mem_of_getElem? (i := 26) rfl)))) (mvT hZ (hw _ (List.mem_of_getElem? (i := 26) rfl))) (mvT hZ (hw _ (List.mem_of_getElem? (i := 25) rfl))) (by decide) (backOf (W := 0) (rm5 l Z a0 hw [] b5 (own_st [] t1 (0 : Int32)) T9.heap n0 Zs10 Fb9q hs1) hZ (hw _ (List.mem_of_getElem? (i := 27) rfl)) (hw _ (List.mem_of_getElem? (i := 7) rfl)) (by decide) (by decide)) q11a q11c (g := (mkF m 115 #[.val (.int p0), .val (.int p1), .val (.int p2), .val (.int p3), .val (.int p4), .val (.int ba), .val (.int bb), .val (.int (0 : Int32)), .val (.ref b1), .val (.int t1), .val (.int t2), .val (.ref b5), .val (.int (own_z (own_st [] t1 (0 : Int32)))), .unset, .unset, .unset, .unset, .unset] [(.ref b5)])) rfl (by rw [hml]; rfl) (Steps.refl _) (argsL := []) (rest := []) (lenOf pd_3 rfl) rfl (by show 2 * 0 + _ ≤ _; exact Nat.le_of_eq rfl) (hb hby at_115) (fun _ _ => ⟨rfl, rfl, (by decide : 2 + 0 ≤ _), (by decide : 2 + 0 ≤ _)⟩)
    dsimp only [Pt.U, Pt.locs, Pt.cells, Pt.slots] at X11 l11 y11 z11 st11 hQ11
    subst l11 y11 z11
    obtain ⟨rfl, N11q, e11q⟩ := hQ11
    have N11 := Fr.app N9 N11q
    obtain ⟨cq12, kq12, q12a, q12b, q12c⟩ := isOf hZ e11q E9q
    obtain ⟨_, _, ⟨T12, L12, k12, n12⟩, -, X12, ⟨Lc12, hQ12, l12, y12, z12⟩, st12⟩ := X11.virtualBack hx (y := (⟨"com/example/governor/governor/server/MessageScanner$StopAt", "begins", "(B)Z"⟩ : MethodName)) (z := (⟨"com/example/governor/governor/server/MessageScanner$StopAt", "begins", "(B)Z"⟩ : MethodName)) hown (mvT hZ (hw _ (List.mem_of_getElem? (i := 16) rfl))) (mvT hZ (hw _ (List.mem_of_getElem? (i := 17) rfl))) (notFace_of_selects (args := #[]) (mvT hZ (hw _ (List.mem_of_getElem? (i := 19) rfl)))) (mvT hZ (hw _ (List.mem_of_getElem? (i := 19) rfl))) (mvT hZ (hw _ (List.mem_of_getElem? (i := 18) rfl))) (by decide) (backOf (W := 0) (rm4x0 l Z a0 hw [] b5 t2 b1 (own_st [] t1 (0 : Int32)) k1  T9.heap n0 Zs10 Fa9q Fb9q E9q g_b5 V_b1_9 ne_b1_b5 ht2) hZ (hw _ (List.mem_of_getElem? (i := 20) rfl)) (hw _ (List.mem_of_getElem? (i := 7) rfl)) (by decide) (by decide)) q12a q12c (g := (mkF m 124 #[.val (.int p0), .val (.int p1), .val (.int p2), .val (.int p3), .val (.int p4), .val (.int ba), .val (.int bb), .val (.int (0 : Int32)), .val (.ref b1), .val (.int t1), .val (.int t2), .val (.ref b5), .val (.int (own_z (own_st [] t1 (0 : Int32)))), .val (.int (own_st [] t1 (0 : Int32))), .unset, .unset, .unset, .unset] [(.int t2), (.ref b5)])) rfl (by rw [hml]; rfl) (Steps.refl _) (argsL := [(.int t2)]) (rest := []) (lenOf pd_2 rfl) rfl (by show 2 * 0 + _ ≤ _; exact Nat.le_of_eq rfl) (hb hby at_124) (fun _ _ => ⟨rfl, e11q, (by decide : 2 + 0 ≤ _), (by decide : 2 + 0 ≤ _)⟩)
    dsimp only [Pt.U, Pt.locs, Pt.cells, Pt.slots] at X12 l12 y12 z12 st12 hQ12
    subst l12 y12 z12
    obtain ⟨rfl, N12q, K12q, E12q, Fa12q, Fb12q⟩ := hQ12
    have N12 := Fr.app N11 N12q
    have V_b1_12 := V_b1_9.keep K12q (ninS ne_b1_b5 nin0)
    have E_b5_12 := E9q.keep K12q
    have Zs13 := Nat.le_trans Zs10 K12q.1
    obtain ⟨cq14, kq14, q14a, q14b, q14c⟩ := isOf hZ rfl E12q
    obtain ⟨_, _, ⟨T14, L14, k14, n14⟩, -, X14, ⟨Lc14, hQ14, l14, y14, z14⟩, st14⟩ := X12.virtualBack hx (y := (⟨"com/example/governor/governor/server/MessageScanner$StopAt", "stoppedAt", "()B"⟩ : MethodName)) (z := (⟨"com/example/governor/governor/server/MessageScanner$StopAt", "stoppedAt", "()B"⟩ : MethodName)) hown (mvT hZ (hw _ (List.mem_of_getElem? (i := 23) rfl))) (mvT hZ (hw _ (List.mem_of_getElem? (i := 24) rfl))) (notFace_of_selects (args := #[]) (mvT hZ (hw _ (List.mem_of_getElem? (i := 26) rfl)))) (mvT hZ (hw _ (List.mem_of_getElem? (i := 26) rfl))) (mvT hZ (hw _ (List.mem_of_getElem? (i := 25) rfl))) (by decide) (backOf (W := 0) (rm5 l Z a0 hw [] b5 (own_st [] t2 (own_st [] t1 (0 : Int32))) T12.heap n0 Zs13 Fb12q hs2) hZ (hw _ (List.mem_of_getElem? (i := 27) rfl)) (hw _ (List.mem_of_getElem? (i := 7) rfl)) (by decide) (by decide)) q14a q14c (g := (mkF m 131 #[.val (.int p0), .val (.int p1), .val (.int p2), .val (.int p3), .val (.int p4), .val (.int ba), .val (.int bb), .val (.int (0 : Int32)), .val (.ref b1), .val (.int t1), .val (.int t2), .val (.ref b5), .val (.int (own_z (own_st [] t1 (0 : Int32)))), .val (.int (own_st [] t1 (0 : Int32))), .val (.int (own_z (own_st [] t2 (own_st [] t1 (0 : Int32))))), .unset, .unset, .unset] [(.ref b5)])) rfl (by rw [hml]; rfl) (Steps.refl _) (argsL := []) (rest := []) (lenOf pd_3 rfl) rfl (by show 2 * 0 + _ ≤ _; exact Nat.le_of_eq rfl) (hb hby at_131) (fun _ _ => ⟨rfl, rfl, (by decide : 2 + 0 ≤ _), (by decide : 2 + 0 ≤ _)⟩)
    dsimp only [Pt.U, Pt.locs, Pt.cells, Pt.slots] at X14 l14 y14 z14 st14 hQ14
    subst l14 y14 z14
    obtain ⟨rfl, N14q, e14q⟩ := hQ14
    have N14 := Fr.app N12 N14q
    have pre4 : ∀ t, Steps p.tables e below (T14.setTop (mkF m 136 #[.val (.int p0), .val (.int p1), .val (.int p2), .val (.int p3), .val (.int p4), .val (.int ba), .val (.int bb), .val (.int (0 : Int32)), .val (.ref b1), .val (.int t1), .val (.int t2), .val (.ref b5), .val (.int (own_z (own_st [] t1 (0 : Int32)))), .val (.int (own_st [] t1 (0 : Int32))), .val (.int (own_z (own_st [] t2 (own_st [] t1 (0 : Int32))))), .val (.int (own_st [] t2 (own_st [] t1 (0 : Int32)))), .unset, .unset] [])) t → Steps p.tables e below (s₁.setTop (entryFrame m #[(.int p0), (.int p1), (.int p2), (.int p3), (.int p4)] maxLocals)) t := by
      intro t k
      refine pre3 t ?_
      show Steps p.tables e below (T4.setTop (mkF m 93 #[.val (.int p0), .val (.int p1), .val (.int p2), .val (.int p3), .val (.int p4), .val (.int ba), .val (.int bb), .val (.int (0 : Int32)), .val (.ref b1), .val (.int t1), .val (.int t2), .unset, .unset, .unset, .unset, .unset, .unset, .unset] [])) _
      refine st5 _ ?_
      show Steps p.tables e below (T5.setTop (mkF m 96 #[.val (.int p0), .val (.int p1), .val (.int p2), .val (.int p3), .val (.int p4), .val (.int ba), .val (.int bb), .val (.int (0 : Int32)), .val (.ref b1), .val (.int t1), .val (.int t2), .unset, .unset, .unset, .unset, .unset, .unset, .unset] [(.ref b5)])) _
      refine XS.dup X5.here hx rfl (hb hby at_96) rfl rfl ?_
      show Steps p.tables e below (T5.setTop (mkF m 97 #[.val (.int p0), .val (.int p1), .val (.int p2), .val (.int p3), .val (.int p4), .val (.int ba), .val (.int bb), .val (.int (0 : Int32)), .val (.ref b1), .val (.int t1), .val (.int t2), .unset, .unset, .unset, .unset, .unset, .unset, .unset] [(.ref b5), (.ref b5)])) _
      refine XS.aload X5.here hx rfl (hb hby at_97) rfl rfl ?_
      show Steps p.tables e below (T5.setTop (mkF m 99 #[.val (.int p0), .val (.int p1), .val (.int p2), .val (.int p3), .val (.int p4), .val (.int ba), .val (.int bb), .val (.int (0 : Int32)), .val (.ref b1), .val (.int t1), .val (.int t2), .unset, .unset, .unset, .unset, .unset, .unset, .unset] [(.ref b1), (.ref b5), (.ref b5)])) _
      refine st7.trans ?_
      show Steps p.tables e below (T7.setTop (mkF m 102 #[.val (.int p0), .val (.int p1), .val (.int p2), .val (.int p3), .val (.int p4), .val (.int ba), .val (.int bb), .val (.int (0 : Int32)), .val (.ref b1), .val (.int t1), .val (.int t2), .unset, .unset, .unset, .unset, .unset, .unset, .unset] [(.ref b5)])) _
      refine XS.astore X7.here hx rfl (hb hby at_102) rfl rfl (l' := #[.val (.int p0), .val (.int p1), .val (.int p2), .val (.int p3), .val (.int p4), .val (.int ba), .val (.int bb), .val (.int (0 : Int32)), .val (.ref b1), .val (.int t1), .val (.int t2), .val (.ref b5), .unset, .unset, .unset, .unset, .unset, .unset]) rfl ?_
      show Steps p.tables e below (T7.setTop (mkF m 104 #[.val (.int p0), .val (.int p1), .val (.int p2), .val (.int p3), .val (.int p4), .val (.int ba), .val (.int bb), .val (.int (0 : Int32)), .val (.ref b1), .val (.int t1), .val (.int t2), .val (.ref b5), .unset, .unset, .unset, .unset, .unset, .unset] [])) _
      refine XS.aload X7.here hx rfl (hb hby at_104) rfl rfl ?_
      show Steps p.tables e below (T7.setTop (mkF m 106 #[.val (.int p0), .val (.int p1), .val (.int p2), .val (.int p3), .val (.int p4), .val (.int ba), .val (.int bb), .val (.int (0 : Int32)), .val (.ref b1), .val (.int t1), .val (.int t2), .val (.ref b5), .unset, .unset, .unset, .unset, .unset, .unset] [(.ref b5)])) _
      refine XS.iload X7.here hx rfl (hb hby at_106) rfl ?_
      show Steps p.tables e below (T7.setTop (mkF m 108 #[.val (.int p0), .val (.int p1), .val (.int p2), .val (.int p3), .val (.int p4), .val (.int ba), .val (.int bb), .val (.int (0 : Int32)), .val (.ref b1), .val (.int t1), .val (.int t2), .val (.ref b5), .unset, .unset, .unset, .unset, .unset, .unset] [(.int t1), (.ref b5)])) _
      refine st9.trans ?_
      show Steps p.tables e below (T9.setTop (mkF m 111 #[.val (.int p0), .val (.int p1), .val (.int p2), .val (.int p3), .val (.int p4), .val (.int ba), .val (.int bb), .val (.int (0 : Int32)), .val (.ref b1), .val (.int t1), .val (.int t2), .val (.ref b5), .unset, .unset, .unset, .unset, .unset, .unset] [(.int (own_z (own_st [] t1 (0 : Int32))))])) _
      refine XS.istore X9.here hx rfl (hb hby at_111) rfl (l' := #[.val (.int p0), .val (.int p1), .val (.int p2), .val (.int p3), .val (.int p4), .val (.int ba), .val (.int bb), .val (.int (0 : Int32)), .val (.ref b1), .val (.int t1), .val (.int t2), .val (.ref b5), .val (.int (own_z (own_st [] t1 (0 : Int32)))), .unset, .unset, .unset, .unset, .unset]) rfl ?_
      show Steps p.tables e below (T9.setTop (mkF m 113 #[.val (.int p0), .val (.int p1), .val (.int p2), .val (.int p3), .val (.int p4), .val (.int ba), .val (.int bb), .val (.int (0 : Int32)), .val (.ref b1), .val (.int t1), .val (.int t2), .val (.ref b5), .val (.int (own_z (own_st [] t1 (0 : Int32)))), .unset, .unset, .unset, .unset, .unset] [])) _
      refine XS.aload X9.here hx rfl (hb hby at_113) rfl rfl ?_
      show Steps p.tables e below (T9.setTop (mkF m 115 #[.val (.int p0), .val (.int p1), .val (.int p2), .val (.int p3), .val (.int p4), .val (.int ba), .val (.int bb), .val (.int (0 : Int32)), .val (.ref b1), .val (.int t1), .val (.int t2), .val (.ref b5), .val (.int (own_z (own_st [] t1 (0 : Int32)))), .unset, .unset, .unset, .unset, .unset] [(.ref b5)])) _
      refine st11.trans ?_
      show Steps p.tables e below (T11.setTop (mkF m 118 #[.val (.int p0), .val (.int p1), .val (.int p2), .val (.int p3), .val (.int p4), .val (.int ba), .val (.int bb), .val (.int (0 : Int32)), .val (.ref b1), .val (.int t1), .val (.int t2), .val (.ref b5), .val (.int (own_z (own_st [] t1 (0 : Int32)))), .unset, .unset, .unset, .unset, .unset] [(.int (own_st [] t1 (0 : Int32)))])) _
      refine XS.istore X11.here hx rfl (hb hby at_118) rfl (l' := #[.val (.int p0), .val (.int p1), .val (.int p2), .val (.int p3), .val (.int p4), .val (.int ba), .val (.int bb), .val (.int (0 : Int32)), .val (.ref b1), .val (.int t1), .val (.int t2), .val (.ref b5), .val (.int (own_z (own_st [] t1 (0 : Int32)))), .val (.int (own_st [] t1 (0 : Int32))), .unset, .unset, .unset, .unset]) rfl ?_
      show Steps p.tables e below (T11.setTop (mkF m 120 #[.val (.int p0), .val (.int p1), .val (.int p2), .val (.int p3), .val (.int p4), .val (.int ba), .val (.int bb), .val (.int (0 : Int32)), .val (.ref b1), .val (.int t1), .val (.int t2), .val (.ref b5), .val (.int (own_z (own_st [] t1 (0 : Int32)))), .val (.int (own_st [] t1 (0 : Int32))), .unset, .unset, .unset, .unset] [])) _
      refine XS.aload X11.here hx rfl (hb hby at_120) rfl rfl ?_
      show Steps p.tables e below (T11.setTop (mkF m 122 #[.val (.int p0), .val (.int p1), .val (.int p2), .val (.int p3), .val (.int p4), .val (.int ba), .val (.int bb), .val (.int (0 : Int32)), .val (.ref b1), .val (.int t1), .val (.int t2), .val (.ref b5), .val (.int (own_z (own_st [] t1 (0 : Int32)))), .val (.int (own_st [] t1 (0 : Int32))), .unset, .unset, .unset, .unset] [(.ref b5)])) _
      refine XS.iload X11.here hx rfl (hb hby at_122) rfl ?_
      show Steps p.tables e below (T11.setTop (mkF m 124 #[.val (.int p0), .val (.int p1), .val (.int p2), .val (.int p3), .val (.int p4), .val (.int ba), .val (.int bb), .val (.int (0 : Int32)), .val (.ref b1), .val (.int t1), .val (.int t2), .val (.ref b5), .val (.int (own_z (own_st [] t1 (0 : Int32)))), .val (.int (own_st [] t1 (0 : Int32))), .unset, .unset, .unset, .unset] [(.int t2), (.ref b5)])) _
      refine st12.trans ?_
      show Steps p.tables e below (T12.setTop (mkF m 127 #[.val (.int p0), .val (.int p1), .val (.int p2), .val (.int p3), .val (.int p4), .val (.int ba), .val (.int bb), .val (.int (0 : Int32)), .val (.ref b1), .val (.int t1), .val (.int t2), .val (.ref b5), .val (.int (own_z (own_st [] t1 (0 : Int32)))), .val (.int (own_st [] t1 (0 : Int32))), .unset, .unset, .unset, .unset] [(.int (own_z (own_st [] t2 (own_st [] t1 (0 : Int32)))))])) _
      refine XS.istore X12.here hx rfl (hb hby at_127) rfl (l' := #[.val (.int p0), .val (.int p1), .val (.int p2), .val (.int p3), .val (.int p4), .val (.int ba), .val (.int bb), .val (.int (0 : Int32)), .val (.ref b1), .val (.int t1), .val (.int t2), .val (.ref b5), .val (.int (own_z (own_st [] t1 (0 : Int32)))), .val (.int (own_st [] t1 (0 : Int32))), .val (.int (own_z (own_st [] t2 (own_st [] t1 (0 : Int32))))), .unset, .unset, .unset]) rfl ?_
      show Steps p.tables e below (T12.setTop (mkF m 129 #[.val (.int p0), .val (.int p1), .val (.int p2), .val (.int p3), .val (.int p4), .val (.int ba), .val (.int bb), .val (.int (0 : Int32)), .val (.ref b1), .val (.int t1), .val (.int t2), .val (.ref b5), .val (.int (own_z (own_st [] t1 (0 : Int32)))), .val (.int (own_st [] t1 (0 : Int32))), .val (.int (own_z (own_st [] t2 (own_st [] t1 (0 : Int32))))), .unset, .unset, .unset] [])) _
      refine XS.aload X12.here hx rfl (hb hby at_129) rfl rfl ?_
      show Steps p.tables e below (T12.setTop (mkF m 131 #[.val (.int p0), .val (.int p1), .val (.int p2), .val (.int p3), .val (.int p4), .val (.int ba), .val (.int bb), .val (.int (0 : Int32)), .val (.ref b1), .val (.int t1), .val (.int t2), .val (.ref b5), .val (.int (own_z (own_st [] t1 (0 : Int32)))), .val (.int (own_st [] t1 (0 : Int32))), .val (.int (own_z (own_st [] t2 (own_st [] t1 (0 : Int32))))), .unset, .unset, .unset] [(.ref b5)])) _
      refine st14.trans ?_
      show Steps p.tables e below (T14.setTop (mkF m 134 #[.val (.int p0), .val (.int p1), .val (.int p2), .val (.int p3), .val (.int p4), .val (.int ba), .val (.int bb), .val (.int (0 : Int32)), .val (.ref b1), .val (.int t1), .val (.int t2), .val (.ref b5), .val (.int (own_z (own_st [] t1 (0 : Int32)))), .val (.int (own_st [] t1 (0 : Int32))), .val (.int (own_z (own_st [] t2 (own_st [] t1 (0 : Int32))))), .unset, .unset, .unset] [(.int (own_st [] t2 (own_st [] t1 (0 : Int32))))])) _
      refine XS.istore X14.here hx rfl (hb hby at_134) rfl (l' := #[.val (.int p0), .val (.int p1), .val (.int p2), .val (.int p3), .val (.int p4), .val (.int ba), .val (.int bb), .val (.int (0 : Int32)), .val (.ref b1), .val (.int t1), .val (.int t2), .val (.ref b5), .val (.int (own_z (own_st [] t1 (0 : Int32)))), .val (.int (own_st [] t1 (0 : Int32))), .val (.int (own_z (own_st [] t2 (own_st [] t1 (0 : Int32))))), .val (.int (own_st [] t2 (own_st [] t1 (0 : Int32)))), .unset, .unset]) rfl ?_
      exact k
    obtain ⟨_, _, ⟨T15, L15, k15, n15⟩, -, X15, ⟨Lc15, hQ15, l15, y15, z15⟩, st15⟩ := Jvm.LawKit.callS X14 hx (y := (⟨"com/example/governor/governor/server/StopAtBeginsPinLaw", "inList", "(BIBB)Z"⟩ : MethodName)) hown (mvT hZ (hw _ (List.mem_of_getElem? (i := 28) rfl))) (mvT hZ (hw _ (List.mem_of_getElem? (i := 29) rfl))) (mvT hZ (hw _ (List.mem_of_getElem? (i := 3) rfl))) (mvT hZ (hw _ (List.mem_of_getElem? (i := 30) rfl))) (by decide) (backOf (W := 0) (rm6 l Z a0 hw [] t1 (0 : Int32) ba bb T12.heap n0 Zs13) hZ (hw _ (List.mem_of_getElem? (i := 30) rfl)) (hw _ (List.mem_of_getElem? (i := 3) rfl)) (by decide) (by decide)) (g := (mkF m 144 #[.val (.int p0), .val (.int p1), .val (.int p2), .val (.int p3), .val (.int p4), .val (.int ba), .val (.int bb), .val (.int (0 : Int32)), .val (.ref b1), .val (.int t1), .val (.int t2), .val (.ref b5), .val (.int (own_z (own_st [] t1 (0 : Int32)))), .val (.int (own_st [] t1 (0 : Int32))), .val (.int (own_z (own_st [] t2 (own_st [] t1 (0 : Int32))))), .val (.int (own_st [] t2 (own_st [] t1 (0 : Int32)))), .unset, .unset] [(.int bb), (.int ba), (.int (0 : Int32)), (.int t1)])) rfl (by rw [hml]; rfl) (argsL := [(.int t1), (.int (0 : Int32)), (.int ba), (.int bb)]) (rest := []) (lenOf pd_4 rfl) rfl (by show 2 * 0 + _ ≤ _; exact Nat.le_of_eq rfl) (hb hby at_144) (fun _ _ => ⟨rfl, e14q, (by decide : 2 + 0 ≤ _), (by decide : 2 + 0 ≤ _)⟩)
    dsimp only [Pt.U, Pt.locs, Pt.cells, Pt.slots] at X15 l15 y15 z15 st15 hQ15
    subst l15 y15 z15
    obtain ⟨rfl, N15q, e15q⟩ := hQ15
    have N15 := Fr.app N14 N15q
    have pre5 : ∀ t, Steps p.tables e below (T15.setTop (mkF m 147 #[.val (.int p0), .val (.int p1), .val (.int p2), .val (.int p3), .val (.int p4), .val (.int ba), .val (.int bb), .val (.int (0 : Int32)), .val (.ref b1), .val (.int t1), .val (.int t2), .val (.ref b5), .val (.int (own_z (own_st [] t1 (0 : Int32)))), .val (.int (own_st [] t1 (0 : Int32))), .val (.int (own_z (own_st [] t2 (own_st [] t1 (0 : Int32))))), .val (.int (own_st [] t2 (own_st [] t1 (0 : Int32)))), .unset, .unset] [(.int (own_in t1 (0 : Int32) ba bb))])) t → Steps p.tables e below (s₁.setTop (entryFrame m #[(.int p0), (.int p1), (.int p2), (.int p3), (.int p4)] maxLocals)) t := by
      intro t k
      refine pre4 t ?_
      show Steps p.tables e below (T14.setTop (mkF m 136 #[.val (.int p0), .val (.int p1), .val (.int p2), .val (.int p3), .val (.int p4), .val (.int ba), .val (.int bb), .val (.int (0 : Int32)), .val (.ref b1), .val (.int t1), .val (.int t2), .val (.ref b5), .val (.int (own_z (own_st [] t1 (0 : Int32)))), .val (.int (own_st [] t1 (0 : Int32))), .val (.int (own_z (own_st [] t2 (own_st [] t1 (0 : Int32))))), .val (.int (own_st [] t2 (own_st [] t1 (0 : Int32)))), .unset, .unset] [])) _
      refine XS.iload X14.here hx rfl (hb hby at_136) rfl ?_
      show Steps p.tables e below (T14.setTop (mkF m 138 #[.val (.int p0), .val (.int p1), .val (.int p2), .val (.int p3), .val (.int p4), .val (.int ba), .val (.int bb), .val (.int (0 : Int32)), .val (.ref b1), .val (.int t1), .val (.int t2), .val (.ref b5), .val (.int (own_z (own_st [] t1 (0 : Int32)))), .val (.int (own_st [] t1 (0 : Int32))), .val (.int (own_z (own_st [] t2 (own_st [] t1 (0 : Int32))))), .val (.int (own_st [] t2 (own_st [] t1 (0 : Int32)))), .unset, .unset] [(.int t1)])) _
      refine XS.iload X14.here hx rfl (hb hby at_138) rfl ?_
      show Steps p.tables e below (T14.setTop (mkF m 140 #[.val (.int p0), .val (.int p1), .val (.int p2), .val (.int p3), .val (.int p4), .val (.int ba), .val (.int bb), .val (.int (0 : Int32)), .val (.ref b1), .val (.int t1), .val (.int t2), .val (.ref b5), .val (.int (own_z (own_st [] t1 (0 : Int32)))), .val (.int (own_st [] t1 (0 : Int32))), .val (.int (own_z (own_st [] t2 (own_st [] t1 (0 : Int32))))), .val (.int (own_st [] t2 (own_st [] t1 (0 : Int32)))), .unset, .unset] [(.int (0 : Int32)), (.int t1)])) _
      refine XS.iload X14.here hx rfl (hb hby at_140) rfl ?_
      show Steps p.tables e below (T14.setTop (mkF m 142 #[.val (.int p0), .val (.int p1), .val (.int p2), .val (.int p3), .val (.int p4), .val (.int ba), .val (.int bb), .val (.int (0 : Int32)), .val (.ref b1), .val (.int t1), .val (.int t2), .val (.ref b5), .val (.int (own_z (own_st [] t1 (0 : Int32)))), .val (.int (own_st [] t1 (0 : Int32))), .val (.int (own_z (own_st [] t2 (own_st [] t1 (0 : Int32))))), .val (.int (own_st [] t2 (own_st [] t1 (0 : Int32)))), .unset, .unset] [(.int ba), (.int (0 : Int32)), (.int t1)])) _
      refine XS.iload X14.here hx rfl (hb hby at_142) rfl ?_
      show Steps p.tables e below (T14.setTop (mkF m 144 #[.val (.int p0), .val (.int p1), .val (.int p2), .val (.int p3), .val (.int p4), .val (.int ba), .val (.int bb), .val (.int (0 : Int32)), .val (.ref b1), .val (.int t1), .val (.int t2), .val (.ref b5), .val (.int (own_z (own_st [] t1 (0 : Int32)))), .val (.int (own_st [] t1 (0 : Int32))), .val (.int (own_z (own_st [] t2 (own_st [] t1 (0 : Int32))))), .val (.int (own_st [] t2 (own_st [] t1 (0 : Int32)))), .unset, .unset] [(.int bb), (.int ba), (.int (0 : Int32)), (.int t1)])) _
      refine st15 _ ?_
      exact k
    obtain ⟨e16, hm6, pre6⟩ : ∃ (e16 : Int32), (e16 = (own_st [] t1 (0 : Int32))) ∧ ∀ t, Steps p.tables e below (T15.setTop (mkF m 156 #[.val (.int p0), .val (.int p1), .val (.int p2), .val (.int p3), .val (.int p4), .val (.int ba), .val (.int bb), .val (.int (0 : Int32)), .val (.ref b1), .val (.int t1), .val (.int t2), .val (.ref b5), .val (.int (own_z (own_st [] t1 (0 : Int32)))), .val (.int (own_st [] t1 (0 : Int32))), .val (.int (own_z (own_st [] t2 (own_st [] t1 (0 : Int32))))), .val (.int (own_st [] t2 (own_st [] t1 (0 : Int32)))), .unset, .unset] [(.int e16)])) t → Steps p.tables e below (s₁.setTop (entryFrame m #[(.int p0), (.int p1), (.int p2), (.int p3), (.int p4)] maxLocals)) t := by
      by_cases c147 : own_in t1 (0 : Int32) ba bb = 0
      · refine ⟨((0 : Int32)), (by rw [← own_l0 t1 ba bb, if_pos c147]), fun t k => pre5 t ?_⟩
        show Steps p.tables e below (T15.setTop (mkF m 147 #[.val (.int p0), .val (.int p1), .val (.int p2), .val (.int p3), .val (.int p4), .val (.int ba), .val (.int bb), .val (.int (0 : Int32)), .val (.ref b1), .val (.int t1), .val (.int t2), .val (.ref b5), .val (.int (own_z (own_st [] t1 (0 : Int32)))), .val (.int (own_st [] t1 (0 : Int32))), .val (.int (own_z (own_st [] t2 (own_st [] t1 (0 : Int32))))), .val (.int (own_st [] t2 (own_st [] t1 (0 : Int32)))), .unset, .unset] [(.int (own_in t1 (0 : Int32) ba bb))])) _
        refine XS.ifYes X15.here hx rfl (pc0 := 147) (pc' := 155) rfl (hb hby at_147) rfl ((if0 _ _).trans (teq c147).1) (by decide) (by decide) ?_
        show Steps p.tables e below (T15.setTop (mkF m 155 #[.val (.int p0), .val (.int p1), .val (.int p2), .val (.int p3), .val (.int p4), .val (.int ba), .val (.int bb), .val (.int (0 : Int32)), .val (.ref b1), .val (.int t1), .val (.int t2), .val (.ref b5), .val (.int (own_z (own_st [] t1 (0 : Int32)))), .val (.int (own_st [] t1 (0 : Int32))), .val (.int (own_z (own_st [] t2 (own_st [] t1 (0 : Int32))))), .val (.int (own_st [] t2 (own_st [] t1 (0 : Int32)))), .unset, .unset] [])) _
        refine XS.iconst X15.here hx rfl (hb hby at_155) ?_
        exact k
      · refine ⟨(t1), (by rw [← own_l0 t1 ba bb, if_neg c147]), fun t k => pre5 t ?_⟩
        show Steps p.tables e below (T15.setTop (mkF m 147 #[.val (.int p0), .val (.int p1), .val (.int p2), .val (.int p3), .val (.int p4), .val (.int ba), .val (.int bb), .val (.int (0 : Int32)), .val (.ref b1), .val (.int t1), .val (.int t2), .val (.ref b5), .val (.int (own_z (own_st [] t1 (0 : Int32)))), .val (.int (own_st [] t1 (0 : Int32))), .val (.int (own_z (own_st [] t2 (own_st [] t1 (0 : Int32))))), .val (.int (own_st [] t2 (own_st [] t1 (0 : Int32)))), .unset, .unset] [(.int (own_in t1 (0 : Int32) ba bb))])) _
        refine XS.ifNo X15.here hx rfl (hb hby at_147) rfl ((if0 _ _).trans (feq c147).1) ?_
        show Steps p.tables e below (T15.setTop (mkF m 150 #[.val (.int p0), .val (.int p1), .val (.int p2), .val (.int p3), .val (.int p4), .val (.int ba), .val (.int bb), .val (.int (0 : Int32)), .val (.ref b1), .val (.int t1), .val (.int t2), .val (.ref b5), .val (.int (own_z (own_st [] t1 (0 : Int32)))), .val (.int (own_st [] t1 (0 : Int32))), .val (.int (own_z (own_st [] t2 (own_st [] t1 (0 : Int32))))), .val (.int (own_st [] t2 (own_st [] t1 (0 : Int32)))), .unset, .unset] [])) _
        refine XS.iload X15.here hx rfl (hb hby at_150) rfl ?_
        show Steps p.tables e below (T15.setTop (mkF m 152 #[.val (.int p0), .val (.int p1), .val (.int p2), .val (.int p3), .val (.int p4), .val (.int ba), .val (.int bb), .val (.int (0 : Int32)), .val (.ref b1), .val (.int t1), .val (.int t2), .val (.ref b5), .val (.int (own_z (own_st [] t1 (0 : Int32)))), .val (.int (own_st [] t1 (0 : Int32))), .val (.int (own_z (own_st [] t2 (own_st [] t1 (0 : Int32))))), .val (.int (own_st [] t2 (own_st [] t1 (0 : Int32)))), .unset, .unset] [(.int t1)])) _
        refine XS.goto X15.here hx rfl (pc0 := 152) (pc' := 156) rfl (hb hby at_152) (by decide) (by decide) ?_
        exact k
    subst hm6
    obtain ⟨_, _, ⟨T16, L16, k16, n16⟩, -, X16, ⟨Lc16, hQ16, l16, y16, z16⟩, st16⟩ := Jvm.LawKit.callS X15 hx (y := (⟨"com/example/governor/governor/server/StopAtBeginsPinLaw", "inList", "(BIBB)Z"⟩ : MethodName)) hown (mvT hZ (hw _ (List.mem_of_getElem? (i := 28) rfl))) (mvT hZ (hw _ (List.mem_of_getElem? (i := 29) rfl))) (mvT hZ (hw _ (List.mem_of_getElem? (i := 3) rfl))) (mvT hZ (hw _ (List.mem_of_getElem? (i := 30) rfl))) (by decide) (backOf (W := 0) (rm6 l Z a0 hw [] t2 (0 : Int32) ba bb T12.heap n0 Zs13) hZ (hw _ (List.mem_of_getElem? (i := 30) rfl)) (hw _ (List.mem_of_getElem? (i := 3) rfl)) (by decide) (by decide)) (g := (mkF m 166 #[.val (.int p0), .val (.int p1), .val (.int p2), .val (.int p3), .val (.int p4), .val (.int ba), .val (.int bb), .val (.int (0 : Int32)), .val (.ref b1), .val (.int t1), .val (.int t2), .val (.ref b5), .val (.int (own_z (own_st [] t1 (0 : Int32)))), .val (.int (own_st [] t1 (0 : Int32))), .val (.int (own_z (own_st [] t2 (own_st [] t1 (0 : Int32))))), .val (.int (own_st [] t2 (own_st [] t1 (0 : Int32)))), .val (.int (own_st [] t1 (0 : Int32))), .unset] [(.int bb), (.int ba), (.int (0 : Int32)), (.int t2)])) rfl (by rw [hml]; rfl) (argsL := [(.int t2), (.int (0 : Int32)), (.int ba), (.int bb)]) (rest := []) (lenOf pd_4 rfl) rfl (by show 2 * 0 + _ ≤ _; exact Nat.le_of_eq rfl) (hb hby at_166) (fun _ _ => ⟨rfl, e15q, (by decide : 2 + 0 ≤ _), (by decide : 2 + 0 ≤ _)⟩)
    dsimp only [Pt.U, Pt.locs, Pt.cells, Pt.slots] at X16 l16 y16 z16 st16 hQ16
    subst l16 y16 z16
    obtain ⟨rfl, N16q, e16q⟩ := hQ16
    have N16 := Fr.app N15 N16q
    have pre7 : ∀ t, Steps p.tables e below (T16.setTop (mkF m 169 #[.val (.int p0), .val (.int p1), .val (.int p2), .val (.int p3), .val (.int p4), .val (.int ba), .val (.int bb), .val (.int (0 : Int32)), .val (.ref b1), .val (.int t1), .val (.int t2), .val (.ref b5), .val (.int (own_z (own_st [] t1 (0 : Int32)))), .val (.int (own_st [] t1 (0 : Int32))), .val (.int (own_z (own_st [] t2 (own_st [] t1 (0 : Int32))))), .val (.int (own_st [] t2 (own_st [] t1 (0 : Int32)))), .val (.int (own_st [] t1 (0 : Int32))), .unset] [(.int (own_in t2 (0 : Int32) ba bb))])) t → Steps p.tables e below (s₁.setTop (entryFrame m #[(.int p0), (.int p1), (.int p2), (.int p3), (.int p4)] maxLocals)) t := by
      intro t k
      refine pre6 t ?_
      show Steps p.tables e below (T15.setTop (mkF m 156 #[.val (.int p0), .val (.int p1), .val (.int p2), .val (.int p3), .val (.int p4), .val (.int ba), .val (.int bb), .val (.int (0 : Int32)), .val (.ref b1), .val (.int t1), .val (.int t2), .val (.ref b5), .val (.int (own_z (own_st [] t1 (0 : Int32)))), .val (.int (own_st [] t1 (0 : Int32))), .val (.int (own_z (own_st [] t2 (own_st [] t1 (0 : Int32))))), .val (.int (own_st [] t2 (own_st [] t1 (0 : Int32)))), .unset, .unset] [(.int (own_st [] t1 (0 : Int32)))])) _
      refine XS.istore X15.here hx rfl (hb hby at_156) rfl (l' := #[.val (.int p0), .val (.int p1), .val (.int p2), .val (.int p3), .val (.int p4), .val (.int ba), .val (.int bb), .val (.int (0 : Int32)), .val (.ref b1), .val (.int t1), .val (.int t2), .val (.ref b5), .val (.int (own_z (own_st [] t1 (0 : Int32)))), .val (.int (own_st [] t1 (0 : Int32))), .val (.int (own_z (own_st [] t2 (own_st [] t1 (0 : Int32))))), .val (.int (own_st [] t2 (own_st [] t1 (0 : Int32)))), .val (.int (own_st [] t1 (0 : Int32))), .unset]) rfl ?_
      show Steps p.tables e below (T15.setTop (mkF m 158 #[.val (.int p0), .val (.int p1), .val (.int p2), .val (.int p3), .val (.int p4), .val (.int ba), .val (.int bb), .val (.int (0 : Int32)), .val (.ref b1), .val (.int t1), .val (.int t2), .val (.ref b5), .val (.int (own_z (own_st [] t1 (0 : Int32)))), .val (.int (own_st [] t1 (0 : Int32))), .val (.int (own_z (own_st [] t2 (own_st [] t1 (0 : Int32))))), .val (.int (own_st [] t2 (own_st [] t1 (0 : Int32)))), .val (.int (own_st [] t1 (0 : Int32))), .unset] [])) _
      refine XS.iload X15.here hx rfl (hb hby at_158) rfl ?_
      show Steps p.tables e below (T15.setTop (mkF m 160 #[.val (.int p0), .val (.int p1), .val (.int p2), .val (.int p3), .val (.int p4), .val (.int ba), .val (.int bb), .val (.int (0 : Int32)), .val (.ref b1), .val (.int t1), .val (.int t2), .val (.ref b5), .val (.int (own_z (own_st [] t1 (0 : Int32)))), .val (.int (own_st [] t1 (0 : Int32))), .val (.int (own_z (own_st [] t2 (own_st [] t1 (0 : Int32))))), .val (.int (own_st [] t2 (own_st [] t1 (0 : Int32)))), .val (.int (own_st [] t1 (0 : Int32))), .unset] [(.int t2)])) _
      refine XS.iload X15.here hx rfl (hb hby at_160) rfl ?_
      show Steps p.tables e below (T15.setTop (mkF m 162 #[.val (.int p0), .val (.int p1), .val (.int p2), .val (.int p3), .val (.int p4), .val (.int ba), .val (.int bb), .val (.int (0 : Int32)), .val (.ref b1), .val (.int t1), .val (.int t2), .val (.ref b5), .val (.int (own_z (own_st [] t1 (0 : Int32)))), .val (.int (own_st [] t1 (0 : Int32))), .val (.int (own_z (own_st [] t2 (own_st [] t1 (0 : Int32))))), .val (.int (own_st [] t2 (own_st [] t1 (0 : Int32)))), .val (.int (own_st [] t1 (0 : Int32))), .unset] [(.int (0 : Int32)), (.int t2)])) _
      refine XS.iload X15.here hx rfl (hb hby at_162) rfl ?_
      show Steps p.tables e below (T15.setTop (mkF m 164 #[.val (.int p0), .val (.int p1), .val (.int p2), .val (.int p3), .val (.int p4), .val (.int ba), .val (.int bb), .val (.int (0 : Int32)), .val (.ref b1), .val (.int t1), .val (.int t2), .val (.ref b5), .val (.int (own_z (own_st [] t1 (0 : Int32)))), .val (.int (own_st [] t1 (0 : Int32))), .val (.int (own_z (own_st [] t2 (own_st [] t1 (0 : Int32))))), .val (.int (own_st [] t2 (own_st [] t1 (0 : Int32)))), .val (.int (own_st [] t1 (0 : Int32))), .unset] [(.int ba), (.int (0 : Int32)), (.int t2)])) _
      refine XS.iload X15.here hx rfl (hb hby at_164) rfl ?_
      show Steps p.tables e below (T15.setTop (mkF m 166 #[.val (.int p0), .val (.int p1), .val (.int p2), .val (.int p3), .val (.int p4), .val (.int ba), .val (.int bb), .val (.int (0 : Int32)), .val (.ref b1), .val (.int t1), .val (.int t2), .val (.ref b5), .val (.int (own_z (own_st [] t1 (0 : Int32)))), .val (.int (own_st [] t1 (0 : Int32))), .val (.int (own_z (own_st [] t2 (own_st [] t1 (0 : Int32))))), .val (.int (own_st [] t2 (own_st [] t1 (0 : Int32)))), .val (.int (own_st [] t1 (0 : Int32))), .unset] [(.int bb), (.int ba), (.int (0 : Int32)), (.int t2)])) _
      refine st16 _ ?_
      exact k
    obtain ⟨e17, hm8, pre8⟩ : ∃ (e17 : Int32), (e17 = (own_st [] t2 (own_st [] t1 (0 : Int32)))) ∧ ∀ t, Steps p.tables e below (T16.setTop (mkF m 179 #[.val (.int p0), .val (.int p1), .val (.int p2), .val (.int p3), .val (.int p4), .val (.int ba), .val (.int bb), .val (.int (0 : Int32)), .val (.ref b1), .val (.int t1), .val (.int t2), .val (.ref b5), .val (.int (own_z (own_st [] t1 (0 : Int32)))), .val (.int (own_st [] t1 (0 : Int32))), .val (.int (own_z (own_st [] t2 (own_st [] t1 (0 : Int32))))), .val (.int (own_st [] t2 (own_st [] t1 (0 : Int32)))), .val (.int (own_st [] t1 (0 : Int32))), .unset] [(.int e17)])) t → Steps p.tables e below (s₁.setTop (entryFrame m #[(.int p0), (.int p1), (.int p2), (.int p3), (.int p4)] maxLocals)) t := by
      by_cases c169 : own_in t2 (0 : Int32) ba bb = 0
      · refine ⟨((own_st [] t1 (0 : Int32))), (by rw [← own_l0 t2 ba bb, if_pos c169]), fun t k => pre7 t ?_⟩
        show Steps p.tables e below (T16.setTop (mkF m 169 #[.val (.int p0), .val (.int p1), .val (.int p2), .val (.int p3), .val (.int p4), .val (.int ba), .val (.int bb), .val (.int (0 : Int32)), .val (.ref b1), .val (.int t1), .val (.int t2), .val (.ref b5), .val (.int (own_z (own_st [] t1 (0 : Int32)))), .val (.int (own_st [] t1 (0 : Int32))), .val (.int (own_z (own_st [] t2 (own_st [] t1 (0 : Int32))))), .val (.int (own_st [] t2 (own_st [] t1 (0 : Int32)))), .val (.int (own_st [] t1 (0 : Int32))), .unset] [(.int (own_in t2 (0 : Int32) ba bb))])) _
        refine XS.ifYes X16.here hx rfl (pc0 := 169) (pc' := 177) rfl (hb hby at_169) rfl ((if0 _ _).trans (teq c169).1) (by decide) (by decide) ?_
        show Steps p.tables e below (T16.setTop (mkF m 177 #[.val (.int p0), .val (.int p1), .val (.int p2), .val (.int p3), .val (.int p4), .val (.int ba), .val (.int bb), .val (.int (0 : Int32)), .val (.ref b1), .val (.int t1), .val (.int t2), .val (.ref b5), .val (.int (own_z (own_st [] t1 (0 : Int32)))), .val (.int (own_st [] t1 (0 : Int32))), .val (.int (own_z (own_st [] t2 (own_st [] t1 (0 : Int32))))), .val (.int (own_st [] t2 (own_st [] t1 (0 : Int32)))), .val (.int (own_st [] t1 (0 : Int32))), .unset] [])) _
        refine XS.iload X16.here hx rfl (hb hby at_177) rfl ?_
        exact k
      · refine ⟨(t2), (by rw [← own_l0 t2 ba bb, if_neg c169]), fun t k => pre7 t ?_⟩
        show Steps p.tables e below (T16.setTop (mkF m 169 #[.val (.int p0), .val (.int p1), .val (.int p2), .val (.int p3), .val (.int p4), .val (.int ba), .val (.int bb), .val (.int (0 : Int32)), .val (.ref b1), .val (.int t1), .val (.int t2), .val (.ref b5), .val (.int (own_z (own_st [] t1 (0 : Int32)))), .val (.int (own_st [] t1 (0 : Int32))), .val (.int (own_z (own_st [] t2 (own_st [] t1 (0 : Int32))))), .val (.int (own_st [] t2 (own_st [] t1 (0 : Int32)))), .val (.int (own_st [] t1 (0 : Int32))), .unset] [(.int (own_in t2 (0 : Int32) ba bb))])) _
        refine XS.ifNo X16.here hx rfl (hb hby at_169) rfl ((if0 _ _).trans (feq c169).1) ?_
        show Steps p.tables e below (T16.setTop (mkF m 172 #[.val (.int p0), .val (.int p1), .val (.int p2), .val (.int p3), .val (.int p4), .val (.int ba), .val (.int bb), .val (.int (0 : Int32)), .val (.ref b1), .val (.int t1), .val (.int t2), .val (.ref b5), .val (.int (own_z (own_st [] t1 (0 : Int32)))), .val (.int (own_st [] t1 (0 : Int32))), .val (.int (own_z (own_st [] t2 (own_st [] t1 (0 : Int32))))), .val (.int (own_st [] t2 (own_st [] t1 (0 : Int32)))), .val (.int (own_st [] t1 (0 : Int32))), .unset] [])) _
        refine XS.iload X16.here hx rfl (hb hby at_172) rfl ?_
        show Steps p.tables e below (T16.setTop (mkF m 174 #[.val (.int p0), .val (.int p1), .val (.int p2), .val (.int p3), .val (.int p4), .val (.int ba), .val (.int bb), .val (.int (0 : Int32)), .val (.ref b1), .val (.int t1), .val (.int t2), .val (.ref b5), .val (.int (own_z (own_st [] t1 (0 : Int32)))), .val (.int (own_st [] t1 (0 : Int32))), .val (.int (own_z (own_st [] t2 (own_st [] t1 (0 : Int32))))), .val (.int (own_st [] t2 (own_st [] t1 (0 : Int32)))), .val (.int (own_st [] t1 (0 : Int32))), .unset] [(.int t2)])) _
        refine XS.goto X16.here hx rfl (pc0 := 174) (pc' := 179) rfl (hb hby at_174) (by decide) (by decide) ?_
        exact k
    subst hm8
    have pre9 : ∀ t, Steps p.tables e below (T16.setTop (mkF m 185 #[.val (.int p0), .val (.int p1), .val (.int p2), .val (.int p3), .val (.int p4), .val (.int ba), .val (.int bb), .val (.int (0 : Int32)), .val (.ref b1), .val (.int t1), .val (.int t2), .val (.ref b5), .val (.int (own_z (own_st [] t1 (0 : Int32)))), .val (.int (own_st [] t1 (0 : Int32))), .val (.int (own_z (own_st [] t2 (own_st [] t1 (0 : Int32))))), .val (.int (own_st [] t2 (own_st [] t1 (0 : Int32)))), .val (.int (own_st [] t1 (0 : Int32))), .val (.int (own_st [] t2 (own_st [] t1 (0 : Int32))))] [(.int (own_st [] t1 (0 : Int32))), (.int (own_z (own_st [] t1 (0 : Int32))))])) t → Steps p.tables e below (s₁.setTop (entryFrame m #[(.int p0), (.int p1), (.int p2), (.int p3), (.int p4)] maxLocals)) t := by
      intro t k
      refine pre8 t ?_
      show Steps p.tables e below (T16.setTop (mkF m 179 #[.val (.int p0), .val (.int p1), .val (.int p2), .val (.int p3), .val (.int p4), .val (.int ba), .val (.int bb), .val (.int (0 : Int32)), .val (.ref b1), .val (.int t1), .val (.int t2), .val (.ref b5), .val (.int (own_z (own_st [] t1 (0 : Int32)))), .val (.int (own_st [] t1 (0 : Int32))), .val (.int (own_z (own_st [] t2 (own_st [] t1 (0 : Int32))))), .val (.int (own_st [] t2 (own_st [] t1 (0 : Int32)))), .val (.int (own_st [] t1 (0 : Int32))), .unset] [(.int (own_st [] t2 (own_st [] t1 (0 : Int32))))])) _
      refine XS.istore X16.here hx rfl (hb hby at_179) rfl (l' := #[.val (.int p0), .val (.int p1), .val (.int p2), .val (.int p3), .val (.int p4), .val (.int ba), .val (.int bb), .val (.int (0 : Int32)), .val (.ref b1), .val (.int t1), .val (.int t2), .val (.ref b5), .val (.int (own_z (own_st [] t1 (0 : Int32)))), .val (.int (own_st [] t1 (0 : Int32))), .val (.int (own_z (own_st [] t2 (own_st [] t1 (0 : Int32))))), .val (.int (own_st [] t2 (own_st [] t1 (0 : Int32)))), .val (.int (own_st [] t1 (0 : Int32))), .val (.int (own_st [] t2 (own_st [] t1 (0 : Int32))))]) rfl ?_
      show Steps p.tables e below (T16.setTop (mkF m 181 #[.val (.int p0), .val (.int p1), .val (.int p2), .val (.int p3), .val (.int p4), .val (.int ba), .val (.int bb), .val (.int (0 : Int32)), .val (.ref b1), .val (.int t1), .val (.int t2), .val (.ref b5), .val (.int (own_z (own_st [] t1 (0 : Int32)))), .val (.int (own_st [] t1 (0 : Int32))), .val (.int (own_z (own_st [] t2 (own_st [] t1 (0 : Int32))))), .val (.int (own_st [] t2 (own_st [] t1 (0 : Int32)))), .val (.int (own_st [] t1 (0 : Int32))), .val (.int (own_st [] t2 (own_st [] t1 (0 : Int32))))] [])) _
      refine XS.iload X16.here hx rfl (hb hby at_181) rfl ?_
      show Steps p.tables e below (T16.setTop (mkF m 183 #[.val (.int p0), .val (.int p1), .val (.int p2), .val (.int p3), .val (.int p4), .val (.int ba), .val (.int bb), .val (.int (0 : Int32)), .val (.ref b1), .val (.int t1), .val (.int t2), .val (.ref b5), .val (.int (own_z (own_st [] t1 (0 : Int32)))), .val (.int (own_st [] t1 (0 : Int32))), .val (.int (own_z (own_st [] t2 (own_st [] t1 (0 : Int32))))), .val (.int (own_st [] t2 (own_st [] t1 (0 : Int32)))), .val (.int (own_st [] t1 (0 : Int32))), .val (.int (own_st [] t2 (own_st [] t1 (0 : Int32))))] [(.int (own_z (own_st [] t1 (0 : Int32))))])) _
      refine XS.iload X16.here hx rfl (hb hby at_183) rfl ?_
      exact k
    obtain ⟨z1, hm10, pre10⟩ : ∃ (z1 : Int32), (z1 = own_z (own_st [] t1 (0 : Int32))) ∧ ∀ t, Steps p.tables e below (T16.setTop (mkF m 193 #[.val (.int p0), .val (.int p1), .val (.int p2), .val (.int p3), .val (.int p4), .val (.int ba), .val (.int bb), .val (.int (0 : Int32)), .val (.ref b1), .val (.int t1), .val (.int t2), .val (.ref b5), .val (.int (own_z (own_st [] t1 (0 : Int32)))), .val (.int (own_st [] t1 (0 : Int32))), .val (.int (own_z (own_st [] t2 (own_st [] t1 (0 : Int32))))), .val (.int (own_st [] t2 (own_st [] t1 (0 : Int32)))), .val (.int (own_st [] t1 (0 : Int32))), .val (.int (own_st [] t2 (own_st [] t1 (0 : Int32))))] [(.int z1), (.int (own_z (own_st [] t1 (0 : Int32))))])) t → Steps p.tables e below (s₁.setTop (entryFrame m #[(.int p0), (.int p1), (.int p2), (.int p3), (.int p4)] maxLocals)) t := by
      by_cases c185 : (own_st [] t1 (0 : Int32)) = 0
      · refine ⟨((1 : Int32)), (by unfold own_z; rw [if_pos c185]), fun t k => pre9 t ?_⟩
        show Steps p.tables e below (T16.setTop (mkF m 185 #[.val (.int p0), .val (.int p1), .val (.int p2), .val (.int p3), .val (.int p4), .val (.int ba), .val (.int bb), .val (.int (0 : Int32)), .val (.ref b1), .val (.int t1), .val (.int t2), .val (.ref b5), .val (.int (own_z (own_st [] t1 (0 : Int32)))), .val (.int (own_st [] t1 (0 : Int32))), .val (.int (own_z (own_st [] t2 (own_st [] t1 (0 : Int32))))), .val (.int (own_st [] t2 (own_st [] t1 (0 : Int32)))), .val (.int (own_st [] t1 (0 : Int32))), .val (.int (own_st [] t2 (own_st [] t1 (0 : Int32))))] [(.int (own_st [] t1 (0 : Int32))), (.int (own_z (own_st [] t1 (0 : Int32))))])) _
        refine XS.ifNo X16.here hx rfl (hb hby at_185) rfl ((if0 _ _).trans (teq c185).2) ?_
        show Steps p.tables e below (T16.setTop (mkF m 188 #[.val (.int p0), .val (.int p1), .val (.int p2), .val (.int p3), .val (.int p4), .val (.int ba), .val (.int bb), .val (.int (0 : Int32)), .val (.ref b1), .val (.int t1), .val (.int t2), .val (.ref b5), .val (.int (own_z (own_st [] t1 (0 : Int32)))), .val (.int (own_st [] t1 (0 : Int32))), .val (.int (own_z (own_st [] t2 (own_st [] t1 (0 : Int32))))), .val (.int (own_st [] t2 (own_st [] t1 (0 : Int32)))), .val (.int (own_st [] t1 (0 : Int32))), .val (.int (own_st [] t2 (own_st [] t1 (0 : Int32))))] [(.int (own_z (own_st [] t1 (0 : Int32))))])) _
        refine XS.iconst X16.here hx rfl (hb hby at_188) ?_
        show Steps p.tables e below (T16.setTop (mkF m 189 #[.val (.int p0), .val (.int p1), .val (.int p2), .val (.int p3), .val (.int p4), .val (.int ba), .val (.int bb), .val (.int (0 : Int32)), .val (.ref b1), .val (.int t1), .val (.int t2), .val (.ref b5), .val (.int (own_z (own_st [] t1 (0 : Int32)))), .val (.int (own_st [] t1 (0 : Int32))), .val (.int (own_z (own_st [] t2 (own_st [] t1 (0 : Int32))))), .val (.int (own_st [] t2 (own_st [] t1 (0 : Int32)))), .val (.int (own_st [] t1 (0 : Int32))), .val (.int (own_st [] t2 (own_st [] t1 (0 : Int32))))] [(.int (1 : Int32)), (.int (own_z (own_st [] t1 (0 : Int32))))])) _
        refine XS.goto X16.here hx rfl (pc0 := 189) (pc' := 193) rfl (hb hby at_189) (by decide) (by decide) ?_
        exact k
      · refine ⟨((0 : Int32)), (by unfold own_z; rw [if_neg c185]), fun t k => pre9 t ?_⟩
        show Steps p.tables e below (T16.setTop (mkF m 185 #[.val (.int p0), .val (.int p1), .val (.int p2), .val (.int p3), .val (.int p4), .val (.int ba), .val (.int bb), .val (.int (0 : Int32)), .val (.ref b1), .val (.int t1), .val (.int t2), .val (.ref b5), .val (.int (own_z (own_st [] t1 (0 : Int32)))), .val (.int (own_st [] t1 (0 : Int32))), .val (.int (own_z (own_st [] t2 (own_st [] t1 (0 : Int32))))), .val (.int (own_st [] t2 (own_st [] t1 (0 : Int32)))), .val (.int (own_st [] t1 (0 : Int32))), .val (.int (own_st [] t2 (own_st [] t1 (0 : Int32))))] [(.int (own_st [] t1 (0 : Int32))), (.int (own_z (own_st [] t1 (0 : Int32))))])) _
        refine XS.ifYes X16.here hx rfl (pc0 := 185) (pc' := 192) rfl (hb hby at_185) rfl ((if0 _ _).trans (feq c185).2) (by decide) (by decide) ?_
        show Steps p.tables e below (T16.setTop (mkF m 192 #[.val (.int p0), .val (.int p1), .val (.int p2), .val (.int p3), .val (.int p4), .val (.int ba), .val (.int bb), .val (.int (0 : Int32)), .val (.ref b1), .val (.int t1), .val (.int t2), .val (.ref b5), .val (.int (own_z (own_st [] t1 (0 : Int32)))), .val (.int (own_st [] t1 (0 : Int32))), .val (.int (own_z (own_st [] t2 (own_st [] t1 (0 : Int32))))), .val (.int (own_st [] t2 (own_st [] t1 (0 : Int32)))), .val (.int (own_st [] t1 (0 : Int32))), .val (.int (own_st [] t2 (own_st [] t1 (0 : Int32))))] [(.int (own_z (own_st [] t1 (0 : Int32))))])) _
        refine XS.iconst X16.here hx rfl (hb hby at_192) ?_
        exact k
    subst hm10
    have pre11 : ∀ t, Steps p.tables e below (T16.setTop (mkF m 207 #[.val (.int p0), .val (.int p1), .val (.int p2), .val (.int p3), .val (.int p4), .val (.int ba), .val (.int bb), .val (.int (0 : Int32)), .val (.ref b1), .val (.int t1), .val (.int t2), .val (.ref b5), .val (.int (own_z (own_st [] t1 (0 : Int32)))), .val (.int (own_st [] t1 (0 : Int32))), .val (.int (own_z (own_st [] t2 (own_st [] t1 (0 : Int32))))), .val (.int (own_st [] t2 (own_st [] t1 (0 : Int32)))), .val (.int (own_st [] t1 (0 : Int32))), .val (.int (own_st [] t2 (own_st [] t1 (0 : Int32))))] [(.int (own_st [] t2 (own_st [] t1 (0 : Int32)))), (.int (own_z (own_st [] t2 (own_st [] t1 (0 : Int32)))))])) t → Steps p.tables e below (s₁.setTop (entryFrame m #[(.int p0), (.int p1), (.int p2), (.int p3), (.int p4)] maxLocals)) t := by
      intro t k
      refine pre10 t ?_
      show Steps p.tables e below (T16.setTop (mkF m 193 #[.val (.int p0), .val (.int p1), .val (.int p2), .val (.int p3), .val (.int p4), .val (.int ba), .val (.int bb), .val (.int (0 : Int32)), .val (.ref b1), .val (.int t1), .val (.int t2), .val (.ref b5), .val (.int (own_z (own_st [] t1 (0 : Int32)))), .val (.int (own_st [] t1 (0 : Int32))), .val (.int (own_z (own_st [] t2 (own_st [] t1 (0 : Int32))))), .val (.int (own_st [] t2 (own_st [] t1 (0 : Int32)))), .val (.int (own_st [] t1 (0 : Int32))), .val (.int (own_st [] t2 (own_st [] t1 (0 : Int32))))] [(.int (own_z (own_st [] t1 (0 : Int32)))), (.int (own_z (own_st [] t1 (0 : Int32))))])) _
      refine XS.icmpNo X16.here hx rfl (hb hby at_193) rfl (teq (rfl : own_z (own_st [] t1 (0 : Int32)) = own_z (own_st [] t1 (0 : Int32)))).2 ?_
      show Steps p.tables e below (T16.setTop (mkF m 196 #[.val (.int p0), .val (.int p1), .val (.int p2), .val (.int p3), .val (.int p4), .val (.int ba), .val (.int bb), .val (.int (0 : Int32)), .val (.ref b1), .val (.int t1), .val (.int t2), .val (.ref b5), .val (.int (own_z (own_st [] t1 (0 : Int32)))), .val (.int (own_st [] t1 (0 : Int32))), .val (.int (own_z (own_st [] t2 (own_st [] t1 (0 : Int32))))), .val (.int (own_st [] t2 (own_st [] t1 (0 : Int32)))), .val (.int (own_st [] t1 (0 : Int32))), .val (.int (own_st [] t2 (own_st [] t1 (0 : Int32))))] [])) _
      refine XS.iload X16.here hx rfl (hb hby at_196) rfl ?_
      show Steps p.tables e below (T16.setTop (mkF m 198 #[.val (.int p0), .val (.int p1), .val (.int p2), .val (.int p3), .val (.int p4), .val (.int ba), .val (.int bb), .val (.int (0 : Int32)), .val (.ref b1), .val (.int t1), .val (.int t2), .val (.ref b5), .val (.int (own_z (own_st [] t1 (0 : Int32)))), .val (.int (own_st [] t1 (0 : Int32))), .val (.int (own_z (own_st [] t2 (own_st [] t1 (0 : Int32))))), .val (.int (own_st [] t2 (own_st [] t1 (0 : Int32)))), .val (.int (own_st [] t1 (0 : Int32))), .val (.int (own_st [] t2 (own_st [] t1 (0 : Int32))))] [(.int (own_st [] t1 (0 : Int32)))])) _
      refine XS.iload X16.here hx rfl (hb hby at_198) rfl ?_
      show Steps p.tables e below (T16.setTop (mkF m 200 #[.val (.int p0), .val (.int p1), .val (.int p2), .val (.int p3), .val (.int p4), .val (.int ba), .val (.int bb), .val (.int (0 : Int32)), .val (.ref b1), .val (.int t1), .val (.int t2), .val (.ref b5), .val (.int (own_z (own_st [] t1 (0 : Int32)))), .val (.int (own_st [] t1 (0 : Int32))), .val (.int (own_z (own_st [] t2 (own_st [] t1 (0 : Int32))))), .val (.int (own_st [] t2 (own_st [] t1 (0 : Int32)))), .val (.int (own_st [] t1 (0 : Int32))), .val (.int (own_st [] t2 (own_st [] t1 (0 : Int32))))] [(.int (own_st [] t1 (0 : Int32))), (.int (own_st [] t1 (0 : Int32)))])) _
      refine XS.icmpNo X16.here hx rfl (hb hby at_200) rfl (teq (rfl : (own_st [] t1 (0 : Int32)) = (own_st [] t1 (0 : Int32)))).2 ?_
      show Steps p.tables e below (T16.setTop (mkF m 203 #[.val (.int p0), .val (.int p1), .val (.int p2), .val (.int p3), .val (.int p4), .val (.int ba), .val (.int bb), .val (.int (0 : Int32)), .val (.ref b1), .val (.int t1), .val (.int t2), .val (.ref b5), .val (.int (own_z (own_st [] t1 (0 : Int32)))), .val (.int (own_st [] t1 (0 : Int32))), .val (.int (own_z (own_st [] t2 (own_st [] t1 (0 : Int32))))), .val (.int (own_st [] t2 (own_st [] t1 (0 : Int32)))), .val (.int (own_st [] t1 (0 : Int32))), .val (.int (own_st [] t2 (own_st [] t1 (0 : Int32))))] [])) _
      refine XS.iload X16.here hx rfl (hb hby at_203) rfl ?_
      show Steps p.tables e below (T16.setTop (mkF m 205 #[.val (.int p0), .val (.int p1), .val (.int p2), .val (.int p3), .val (.int p4), .val (.int ba), .val (.int bb), .val (.int (0 : Int32)), .val (.ref b1), .val (.int t1), .val (.int t2), .val (.ref b5), .val (.int (own_z (own_st [] t1 (0 : Int32)))), .val (.int (own_st [] t1 (0 : Int32))), .val (.int (own_z (own_st [] t2 (own_st [] t1 (0 : Int32))))), .val (.int (own_st [] t2 (own_st [] t1 (0 : Int32)))), .val (.int (own_st [] t1 (0 : Int32))), .val (.int (own_st [] t2 (own_st [] t1 (0 : Int32))))] [(.int (own_z (own_st [] t2 (own_st [] t1 (0 : Int32)))))])) _
      refine XS.iload X16.here hx rfl (hb hby at_205) rfl ?_
      exact k
    obtain ⟨z2, hm12, pre12⟩ : ∃ (z2 : Int32), (z2 = own_z (own_st [] t2 (own_st [] t1 (0 : Int32)))) ∧ ∀ t, Steps p.tables e below (T16.setTop (mkF m 215 #[.val (.int p0), .val (.int p1), .val (.int p2), .val (.int p3), .val (.int p4), .val (.int ba), .val (.int bb), .val (.int (0 : Int32)), .val (.ref b1), .val (.int t1), .val (.int t2), .val (.ref b5), .val (.int (own_z (own_st [] t1 (0 : Int32)))), .val (.int (own_st [] t1 (0 : Int32))), .val (.int (own_z (own_st [] t2 (own_st [] t1 (0 : Int32))))), .val (.int (own_st [] t2 (own_st [] t1 (0 : Int32)))), .val (.int (own_st [] t1 (0 : Int32))), .val (.int (own_st [] t2 (own_st [] t1 (0 : Int32))))] [(.int z2), (.int (own_z (own_st [] t2 (own_st [] t1 (0 : Int32)))))])) t → Steps p.tables e below (s₁.setTop (entryFrame m #[(.int p0), (.int p1), (.int p2), (.int p3), (.int p4)] maxLocals)) t := by
      by_cases c207 : (own_st [] t2 (own_st [] t1 (0 : Int32))) = 0
      · refine ⟨((1 : Int32)), (by unfold own_z; rw [if_pos c207]), fun t k => pre11 t ?_⟩
        show Steps p.tables e below (T16.setTop (mkF m 207 #[.val (.int p0), .val (.int p1), .val (.int p2), .val (.int p3), .val (.int p4), .val (.int ba), .val (.int bb), .val (.int (0 : Int32)), .val (.ref b1), .val (.int t1), .val (.int t2), .val (.ref b5), .val (.int (own_z (own_st [] t1 (0 : Int32)))), .val (.int (own_st [] t1 (0 : Int32))), .val (.int (own_z (own_st [] t2 (own_st [] t1 (0 : Int32))))), .val (.int (own_st [] t2 (own_st [] t1 (0 : Int32)))), .val (.int (own_st [] t1 (0 : Int32))), .val (.int (own_st [] t2 (own_st [] t1 (0 : Int32))))] [(.int (own_st [] t2 (own_st [] t1 (0 : Int32)))), (.int (own_z (own_st [] t2 (own_st [] t1 (0 : Int32)))))])) _
        refine XS.ifNo X16.here hx rfl (hb hby at_207) rfl ((if0 _ _).trans (teq c207).2) ?_
        show Steps p.tables e below (T16.setTop (mkF m 210 #[.val (.int p0), .val (.int p1), .val (.int p2), .val (.int p3), .val (.int p4), .val (.int ba), .val (.int bb), .val (.int (0 : Int32)), .val (.ref b1), .val (.int t1), .val (.int t2), .val (.ref b5), .val (.int (own_z (own_st [] t1 (0 : Int32)))), .val (.int (own_st [] t1 (0 : Int32))), .val (.int (own_z (own_st [] t2 (own_st [] t1 (0 : Int32))))), .val (.int (own_st [] t2 (own_st [] t1 (0 : Int32)))), .val (.int (own_st [] t1 (0 : Int32))), .val (.int (own_st [] t2 (own_st [] t1 (0 : Int32))))] [(.int (own_z (own_st [] t2 (own_st [] t1 (0 : Int32)))))])) _
        refine XS.iconst X16.here hx rfl (hb hby at_210) ?_
        show Steps p.tables e below (T16.setTop (mkF m 211 #[.val (.int p0), .val (.int p1), .val (.int p2), .val (.int p3), .val (.int p4), .val (.int ba), .val (.int bb), .val (.int (0 : Int32)), .val (.ref b1), .val (.int t1), .val (.int t2), .val (.ref b5), .val (.int (own_z (own_st [] t1 (0 : Int32)))), .val (.int (own_st [] t1 (0 : Int32))), .val (.int (own_z (own_st [] t2 (own_st [] t1 (0 : Int32))))), .val (.int (own_st [] t2 (own_st [] t1 (0 : Int32)))), .val (.int (own_st [] t1 (0 : Int32))), .val (.int (own_st [] t2 (own_st [] t1 (0 : Int32))))] [(.int (1 : Int32)), (.int (own_z (own_st [] t2 (own_st [] t1 (0 : Int32)))))])) _
        refine XS.goto X16.here hx rfl (pc0 := 211) (pc' := 215) rfl (hb hby at_211) (by decide) (by decide) ?_
        exact k
      · refine ⟨((0 : Int32)), (by unfold own_z; rw [if_neg c207]), fun t k => pre11 t ?_⟩
        show Steps p.tables e below (T16.setTop (mkF m 207 #[.val (.int p0), .val (.int p1), .val (.int p2), .val (.int p3), .val (.int p4), .val (.int ba), .val (.int bb), .val (.int (0 : Int32)), .val (.ref b1), .val (.int t1), .val (.int t2), .val (.ref b5), .val (.int (own_z (own_st [] t1 (0 : Int32)))), .val (.int (own_st [] t1 (0 : Int32))), .val (.int (own_z (own_st [] t2 (own_st [] t1 (0 : Int32))))), .val (.int (own_st [] t2 (own_st [] t1 (0 : Int32)))), .val (.int (own_st [] t1 (0 : Int32))), .val (.int (own_st [] t2 (own_st [] t1 (0 : Int32))))] [(.int (own_st [] t2 (own_st [] t1 (0 : Int32)))), (.int (own_z (own_st [] t2 (own_st [] t1 (0 : Int32)))))])) _
        refine XS.ifYes X16.here hx rfl (pc0 := 207) (pc' := 214) rfl (hb hby at_207) rfl ((if0 _ _).trans (feq c207).2) (by decide) (by decide) ?_
        show Steps p.tables e below (T16.setTop (mkF m 214 #[.val (.int p0), .val (.int p1), .val (.int p2), .val (.int p3), .val (.int p4), .val (.int ba), .val (.int bb), .val (.int (0 : Int32)), .val (.ref b1), .val (.int t1), .val (.int t2), .val (.ref b5), .val (.int (own_z (own_st [] t1 (0 : Int32)))), .val (.int (own_st [] t1 (0 : Int32))), .val (.int (own_z (own_st [] t2 (own_st [] t1 (0 : Int32))))), .val (.int (own_st [] t2 (own_st [] t1 (0 : Int32)))), .val (.int (own_st [] t1 (0 : Int32))), .val (.int (own_st [] t2 (own_st [] t1 (0 : Int32))))] [(.int (own_z (own_st [] t2 (own_st [] t1 (0 : Int32)))))])) _
        refine XS.iconst X16.here hx rfl (hb hby at_214) ?_
        exact k
    subst hm12
    obtain ⟨fs, hr, hrun, hended, hW, hsame⟩ := X16.leave (v := some (.int (1 : Int32))) (fun h => by rw [Bd.returns] at h; cases h)
    refine ⟨_, _, pre12 _ ?_, hrun, hended, _, _, rfl, ?_, ⟨_, rfl⟩, hW, hsame.mono (by decide) (by decide)⟩
    · show Steps p.tables e below (T16.setTop (mkF m 215 #[.val (.int p0), .val (.int p1), .val (.int p2), .val (.int p3), .val (.int p4), .val (.int ba), .val (.int bb), .val (.int (0 : Int32)), .val (.ref b1), .val (.int t1), .val (.int t2), .val (.ref b5), .val (.int (own_z (own_st [] t1 (0 : Int32)))), .val (.int (own_st [] t1 (0 : Int32))), .val (.int (own_z (own_st [] t2 (own_st [] t1 (0 : Int32))))), .val (.int (own_st [] t2 (own_st [] t1 (0 : Int32)))), .val (.int (own_st [] t1 (0 : Int32))), .val (.int (own_st [] t2 (own_st [] t1 (0 : Int32))))] [(.int (own_z (own_st [] t2 (own_st [] t1 (0 : Int32))))), (.int (own_z (own_st [] t2 (own_st [] t1 (0 : Int32)))))])) _
      refine XS.icmpNo X16.here hx rfl (hb hby at_215) rfl (teq (rfl : own_z (own_st [] t2 (own_st [] t1 (0 : Int32))) = own_z (own_st [] t2 (own_st [] t1 (0 : Int32))))).2 ?_
      show Steps p.tables e below (T16.setTop (mkF m 218 #[.val (.int p0), .val (.int p1), .val (.int p2), .val (.int p3), .val (.int p4), .val (.int ba), .val (.int bb), .val (.int (0 : Int32)), .val (.ref b1), .val (.int t1), .val (.int t2), .val (.ref b5), .val (.int (own_z (own_st [] t1 (0 : Int32)))), .val (.int (own_st [] t1 (0 : Int32))), .val (.int (own_z (own_st [] t2 (own_st [] t1 (0 : Int32))))), .val (.int (own_st [] t2 (own_st [] t1 (0 : Int32)))), .val (.int (own_st [] t1 (0 : Int32))), .val (.int (own_st [] t2 (own_st [] t1 (0 : Int32))))] [])) _
      refine XS.iload X16.here hx rfl (hb hby at_218) rfl ?_
      show Steps p.tables e below (T16.setTop (mkF m 220 #[.val (.int p0), .val (.int p1), .val (.int p2), .val (.int p3), .val (.int p4), .val (.int ba), .val (.int bb), .val (.int (0 : Int32)), .val (.ref b1), .val (.int t1), .val (.int t2), .val (.ref b5), .val (.int (own_z (own_st [] t1 (0 : Int32)))), .val (.int (own_st [] t1 (0 : Int32))), .val (.int (own_z (own_st [] t2 (own_st [] t1 (0 : Int32))))), .val (.int (own_st [] t2 (own_st [] t1 (0 : Int32)))), .val (.int (own_st [] t1 (0 : Int32))), .val (.int (own_st [] t2 (own_st [] t1 (0 : Int32))))] [(.int (own_st [] t2 (own_st [] t1 (0 : Int32))))])) _
      refine XS.iload X16.here hx rfl (hb hby at_220) rfl ?_
      show Steps p.tables e below (T16.setTop (mkF m 222 #[.val (.int p0), .val (.int p1), .val (.int p2), .val (.int p3), .val (.int p4), .val (.int ba), .val (.int bb), .val (.int (0 : Int32)), .val (.ref b1), .val (.int t1), .val (.int t2), .val (.ref b5), .val (.int (own_z (own_st [] t1 (0 : Int32)))), .val (.int (own_st [] t1 (0 : Int32))), .val (.int (own_z (own_st [] t2 (own_st [] t1 (0 : Int32))))), .val (.int (own_st [] t2 (own_st [] t1 (0 : Int32)))), .val (.int (own_st [] t1 (0 : Int32))), .val (.int (own_st [] t2 (own_st [] t1 (0 : Int32))))] [(.int (own_st [] t2 (own_st [] t1 (0 : Int32)))), (.int (own_st [] t2 (own_st [] t1 (0 : Int32))))])) _
      refine XS.icmpNo X16.here hx rfl (hb hby at_222) rfl (teq (rfl : (own_st [] t2 (own_st [] t1 (0 : Int32))) = (own_st [] t2 (own_st [] t1 (0 : Int32))))).2 ?_
      show Steps p.tables e below (T16.setTop (mkF m 225 #[.val (.int p0), .val (.int p1), .val (.int p2), .val (.int p3), .val (.int p4), .val (.int ba), .val (.int bb), .val (.int (0 : Int32)), .val (.ref b1), .val (.int t1), .val (.int t2), .val (.ref b5), .val (.int (own_z (own_st [] t1 (0 : Int32)))), .val (.int (own_st [] t1 (0 : Int32))), .val (.int (own_z (own_st [] t2 (own_st [] t1 (0 : Int32))))), .val (.int (own_st [] t2 (own_st [] t1 (0 : Int32)))), .val (.int (own_st [] t1 (0 : Int32))), .val (.int (own_st [] t2 (own_st [] t1 (0 : Int32))))] [])) _
      refine XS.iconst X16.here hx rfl (hb hby at_225) ?_
      show Steps p.tables e below (T16.setTop (mkF m 226 #[.val (.int p0), .val (.int p1), .val (.int p2), .val (.int p3), .val (.int p4), .val (.int ba), .val (.int bb), .val (.int (0 : Int32)), .val (.ref b1), .val (.int t1), .val (.int t2), .val (.ref b5), .val (.int (own_z (own_st [] t1 (0 : Int32)))), .val (.int (own_st [] t1 (0 : Int32))), .val (.int (own_z (own_st [] t2 (own_st [] t1 (0 : Int32))))), .val (.int (own_st [] t2 (own_st [] t1 (0 : Int32)))), .val (.int (own_st [] t1 (0 : Int32))), .val (.int (own_st [] t2 (own_st [] t1 (0 : Int32))))] [(.int (1 : Int32))])) _
      refine XS.goto X16.here hx rfl (pc0 := 226) (pc' := 230) rfl (hb hby at_226) (by decide) (by decide) ?_
      show Steps p.tables e below (T16.setTop (mkF m 230 #[.val (.int p0), .val (.int p1), .val (.int p2), .val (.int p3), .val (.int p4), .val (.int ba), .val (.int bb), .val (.int (0 : Int32)), .val (.ref b1), .val (.int t1), .val (.int t2), .val (.ref b5), .val (.int (own_z (own_st [] t1 (0 : Int32)))), .val (.int (own_st [] t1 (0 : Int32))), .val (.int (own_z (own_st [] t2 (own_st [] t1 (0 : Int32))))), .val (.int (own_st [] t2 (own_st [] t1 (0 : Int32)))), .val (.int (own_st [] t1 (0 : Int32))), .val (.int (own_st [] t2 (own_st [] t1 (0 : Int32))))] [(.int (1 : Int32))])) _
      exact retN X16 hx (t := .boolean) Bd.returns (by simp) (hb hby at_230) hr
    · show Q0 Z p0 p1 p2 p3 p4 h0 n0 _ T16.heap _
      rw [e16q]
      exact ⟨rfl, N16⟩
  · skip
    subst hln
    obtain ⟨T17, h17, k17, X17, e17, E17, A17, st17⟩ := newP X0 hx hZ (hw _ (List.mem_of_getElem? (i := 0) rfl)) e0 (g := (mkF m 36 #[.val (.int p0), .val (.int p1), .val (.int p2), .val (.int p3), .val (.int p4), .val (.int ba), .val (.int bb), .val (.int (1 : Int32)), .unset, .unset, .unset, .unset, .unset, .unset, .unset, .unset, .unset, .unset] [(.int (1 : Int32))])) rfl (hb hby at_36) rfl (by decide) (cap := 1) (by decide) (by decide) (by decide) (by decide)
    obtain ⟨b17, g17⟩ : ∃ z, z = h0.size := ⟨_, rfl⟩
    rw [← g17] at A17 st17
    have g_b17 : n0 ≤ b17 := Nat.le_trans Z0 (Nat.le_of_eq g17.symm)
    have Zs18 := Nat.le_trans Z0 E17.1
    have V_b17 : Arv Z h17 b17 k17 .byte (1 : Int32) [(.int (0 : Int32))] (.int (0 : Int32)) := (Arv.new A17 (by decide)).pad (pad_rep [] (.int (0 : Int32)) 1)
    obtain ⟨cl19, Ar19, q19, S19, N19m, H19, G19⟩ := id V_b17
    have hin19 : ¬ ((0 : Int32) < 0 ∨ cl19.slots.size ≤ ((0 : Int32)).toNatClampNeg) := inb_of S19 ⟨by decide, by decide⟩
    obtain ⟨T19, h19, X19, e19, W19, st19⟩ := stB X17 hx hZ e17 Ar19 (j := (0 : Int32)) hin19 (g := (mkF m 42 #[.val (.int p0), .val (.int p1), .val (.int p2), .val (.int p3), .val (.int p4), .val (.int ba), .val (.int bb), .val (.int (1 : Int32)), .unset, .unset, .unset, .unset, .unset, .unset, .unset, .unset, .unset, .unset] [(.int ba), (.int (0 : Int32)), (.ref b17), (.ref b17)])) rfl rfl (hb hby at_42)
    have V19_b17 : Arv Z h19 b17 k17 .byte (1 : Int32) [(.int (nar .byte ba))] (.int (0 : Int32)) := Arv.set Ar19 q19 S19 N19m H19 G19 (fits_nar_byte _) W19 0 rfl (Nat.le_of_ble_eq_true rfl)
    rw [hba] at V19_b17
    have Zs20 := Nat.le_trans Zs18 (Keep.of_wr W19).1
    have N19 := Fr.snoc X19 N0 g_b17
    have pre13 : ∀ t, Steps p.tables e below (T19.setTop (mkF m 63 #[.val (.int p0), .val (.int p1), .val (.int p2), .val (.int p3), .val (.int p4), .val (.int ba), .val (.int bb), .val (.int (1 : Int32)), .val (.ref b17), .unset, .unset, .unset, .unset, .unset, .unset, .unset, .unset, .unset] [])) t → Steps p.tables e below (s₁.setTop (entryFrame m #[(.int p0), (.int p1), (.int p2), (.int p3), (.int p4)] maxLocals)) t := by
      intro t k
      refine pre1 t ?_
      show Steps p.tables e below (s₁.setTop (mkF m 16 #[.val (.int p0), .val (.int p1), .val (.int p2), .val (.int p3), .val (.int p4), .val (.int ba), .val (.int bb), .val (.int (1 : Int32)), .unset, .unset, .unset, .unset, .unset, .unset, .unset, .unset, .unset, .unset] [])) _
      refine XS.iload X0.here hx rfl (hb hby at_16) rfl ?_
      show Steps p.tables e below (s₁.setTop (mkF m 18 #[.val (.int p0), .val (.int p1), .val (.int p2), .val (.int p3), .val (.int p4), .val (.int ba), .val (.int bb), .val (.int (1 : Int32)), .unset, .unset, .unset, .unset, .unset, .unset, .unset, .unset, .unset, .unset] [(.int (1 : Int32))])) _
      refine XS.ifYes X0.here hx rfl (pc0 := 18) (pc' := 29) rfl (hb hby at_18) rfl ((if0 _ _).trans (feq (by decide : ¬ ((1 : Int32) = (0 : Int32)))).2) (by decide) (by decide) ?_
      show Steps p.tables e below (s₁.setTop (mkF m 29 #[.val (.int p0), .val (.int p1), .val (.int p2), .val (.int p3), .val (.int p4), .val (.int ba), .val (.int bb), .val (.int (1 : Int32)), .unset, .unset, .unset, .unset, .unset, .unset, .unset, .unset, .unset, .unset] [])) _
      refine XS.iload X0.here hx rfl (hb hby at_29) rfl ?_
      show Steps p.tables e below (s₁.setTop (mkF m 31 #[.val (.int p0), .val (.int p1), .val (.int p2), .val (.int p3), .val (.int p4), .val (.int ba), .val (.int bb), .val (.int (1 : Int32)), .unset, .unset, .unset, .unset, .unset, .unset, .unset, .unset, .unset, .unset] [(.int (1 : Int32))])) _
      refine XS.iconst X0.here hx rfl (hb hby at_31) ?_
      show Steps p.tables e below (s₁.setTop (mkF m 32 #[.val (.int p0), .val (.int p1), .val (.int p2), .val (.int p3), .val (.int p4), .val (.int ba), .val (.int bb), .val (.int (1 : Int32)), .unset, .unset, .unset, .unset, .unset, .unset, .unset, .unset, .unset, .unset] [(.int (1 : Int32)), (.int (1 : Int32))])) _
      refine XS.icmpNo X0.here hx rfl (hb hby at_32) rfl (teq (rfl : (1 : Int32) = (1 : Int32))).2 ?_
      show Steps p.tables e below (s₁.setTop (mkF m 35 #[.val (.int p0), .val (.int p1), .val (.int p2), .val (.int p3), .val (.int p4), .val (.int ba), .val (.int bb), .val (.int (1 : Int32)), .unset, .unset, .unset, .unset, .unset, .unset, .unset, .unset, .unset, .unset] [])) _
      refine XS.iconst X0.here hx rfl (hb hby at_35) ?_
      show Steps p.tables e below (s₁.setTop (mkF m 36 #[.val (.int p0), .val (.int p1), .val (.int p2), .val (.int p3), .val (.int p4), .val (.int ba), .val (.int bb), .val (.int (1 : Int32)), .unset, .unset, .unset, .unset, .unset, .unset, .unset, .unset, .unset, .unset] [(.int (1 : Int32))])) _
      refine st17 _ ?_
      show Steps p.tables e below (T17.setTop (mkF m 38 #[.val (.int p0), .val (.int p1), .val (.int p2), .val (.int p3), .val (.int p4), .val (.int ba), .val (.int bb), .val (.int (1 : Int32)), .unset, .unset, .unset, .unset, .unset, .unset, .unset, .unset, .unset, .unset] [(.ref b17)])) _
      refine XS.dup X17.here hx rfl (hb hby at_38) rfl rfl ?_
      show Steps p.tables e below (T17.setTop (mkF m 39 #[.val (.int p0), .val (.int p1), .val (.int p2), .val (.int p3), .val (.int p4), .val (.int ba), .val (.int bb), .val (.int (1 : Int32)), .unset, .unset, .unset, .unset, .unset, .unset, .unset, .unset, .unset, .unset] [(.ref b17), (.ref b17)])) _
      refine XS.iconst X17.here hx rfl (hb hby at_39) ?_
      show Steps p.tables e below (T17.setTop (mkF m 40 #[.val (.int p0), .val (.int p1), .val (.int p2), .val (.int p3), .val (.int p4), .val (.int ba), .val (.int bb), .val (.int (1 : Int32)), .unset, .unset, .unset, .unset, .unset, .unset, .unset, .unset, .unset, .unset] [(.int (0 : Int32)), (.ref b17), (.ref b17)])) _
      refine XS.iload X17.here hx rfl (hb hby at_40) rfl ?_
      show Steps p.tables e below (T17.setTop (mkF m 42 #[.val (.int p0), .val (.int p1), .val (.int p2), .val (.int p3), .val (.int p4), .val (.int ba), .val (.int bb), .val (.int (1 : Int32)), .unset, .unset, .unset, .unset, .unset, .unset, .unset, .unset, .unset, .unset] [(.int ba), (.int (0 : Int32)), (.ref b17), (.ref b17)])) _
      refine st19 _ ?_
      show Steps p.tables e below (T19.setTop (mkF m 43 #[.val (.int p0), .val (.int p1), .val (.int p2), .val (.int p3), .val (.int p4), .val (.int ba), .val (.int bb), .val (.int (1 : Int32)), .unset, .unset, .unset, .unset, .unset, .unset, .unset, .unset, .unset, .unset] [(.ref b17)])) _
      refine XS.astore X19.here hx rfl (hb hby at_43) rfl rfl (l' := #[.val (.int p0), .val (.int p1), .val (.int p2), .val (.int p3), .val (.int p4), .val (.int ba), .val (.int bb), .val (.int (1 : Int32)), .val (.ref b17), .unset, .unset, .unset, .unset, .unset, .unset, .unset, .unset, .unset]) rfl ?_
      show Steps p.tables e below (T19.setTop (mkF m 45 #[.val (.int p0), .val (.int p1), .val (.int p2), .val (.int p3), .val (.int p4), .val (.int ba), .val (.int bb), .val (.int (1 : Int32)), .val (.ref b17), .unset, .unset, .unset, .unset, .unset, .unset, .unset, .unset, .unset] [])) _
      refine XS.goto X19.here hx rfl (pc0 := 45) (pc' := 63) rfl (hb hby at_45) (by decide) (by decide) ?_
      exact k
    obtain ⟨_, _, ⟨T21, L21, k21, n21⟩, -, X21, ⟨Lc21, hQ21, l21, y21, z21⟩, st21⟩ := Jvm.LawKit.callS X19 hx (y := (⟨"com/example/governor/governor/server/StopAtBeginsPinLaw", "pick", "(IBBB)B"⟩ : MethodName)) hown (mvT hZ (hw _ (List.mem_of_getElem? (i := 1) rfl))) (mvT hZ (hw _ (List.mem_of_getElem? (i := 2) rfl))) (mvT hZ (hw _ (List.mem_of_getElem? (i := 3) rfl))) (mvT hZ (hw _ (List.mem_of_getElem? (i := 4) rfl))) (by decide) (backOf (W := 0) (rm1 l Z a0 hw [] ((p4.toUInt32 >>> ((2 : Int32) &&& 31).toUInt32).toInt32) ba bb (p2.toInt8.toInt32) h19 n0 Zs20 hba hbb (own_nb _)) hZ (hw _ (List.mem_of_getElem? (i := 4) rfl)) (hw _ (List.mem_of_getElem? (i := 3) rfl)) (by decide) (by decide)) (g := (mkF m 73 #[.val (.int p0), .val (.int p1), .val (.int p2), .val (.int p3), .val (.int p4), .val (.int ba), .val (.int bb), .val (.int (1 : Int32)), .val (.ref b17), .unset, .unset, .unset, .unset, .unset, .unset, .unset, .unset, .unset] [(.int (p2.toInt8.toInt32)), (.int bb), (.int ba), (.int ((p4.toUInt32 >>> ((2 : Int32) &&& 31).toUInt32).toInt32))])) rfl (by rw [hml]; rfl) (argsL := [(.int ((p4.toUInt32 >>> ((2 : Int32) &&& 31).toUInt32).toInt32)), (.int ba), (.int bb), (.int (p2.toInt8.toInt32))]) (rest := []) (lenOf pd_0 rfl) rfl (by show 2 * 0 + _ ≤ _; exact Nat.le_of_eq rfl) (hb hby at_73) (fun _ _ => ⟨rfl, e19, (by decide : 1 + 0 ≤ _), (by decide : 1 + 0 ≤ _)⟩)
    dsimp only [Pt.U, Pt.locs, Pt.cells, Pt.slots] at X21 l21 y21 z21 st21 hQ21
    subst l21 y21 z21
    obtain ⟨rfl, N21q, e21q⟩ := hQ21
    have N21 := Fr.app N19 N21q
    obtain ⟨_, _, ⟨T22, L22, k22, n22⟩, -, X22, ⟨Lc22, hQ22, l22, y22, z22⟩, st22⟩ := Jvm.LawKit.callS X21 hx (y := (⟨"com/example/governor/governor/server/StopAtBeginsPinLaw", "pick", "(IBBB)B"⟩ : MethodName)) hown (mvT hZ (hw _ (List.mem_of_getElem? (i := 1) rfl))) (mvT hZ (hw _ (List.mem_of_getElem? (i := 2) rfl))) (mvT hZ (hw _ (List.mem_of_getElem? (i := 3) rfl))) (mvT hZ (hw _ (List.mem_of_getElem? (i := 4) rfl))) (by decide) (backOf (W := 0) (rm1 l Z a0 hw [] ((p4.toUInt32 >>> ((4 : Int32) &&& 31).toUInt32).toInt32) ba bb (p3.toInt8.toInt32) h19 n0 Zs20 hba hbb (own_nb _)) hZ (hw _ (List.mem_of_getElem? (i := 4) rfl)) (hw _ (List.mem_of_getElem? (i := 3) rfl)) (by decide) (by decide)) (g := (mkF m 88 #[.val (.int p0), .val (.int p1), .val (.int p2), .val (.int p3), .val (.int p4), .val (.int ba), .val (.int bb), .val (.int (1 : Int32)), .val (.ref b17), .val (.int (own_pick ((p4.toUInt32 >>> ((2 : Int32) &&& 31).toUInt32).toInt32) ba bb (p2.toInt8.toInt32))), .unset, .unset, .unset, .unset, .unset, .unset, .unset, .unset] [(.int (p3.toInt8.toInt32)), (.int bb), (.int ba), (.int ((p4.toUInt32 >>> ((4 : Int32) &&& 31).toUInt32).toInt32))])) rfl (by rw [hml]; rfl) (argsL := [(.int ((p4.toUInt32 >>> ((4 : Int32) &&& 31).toUInt32).toInt32)), (.int ba), (.int bb), (.int (p3.toInt8.toInt32))]) (rest := []) (lenOf pd_0 rfl) rfl (by show 2 * 0 + _ ≤ _; exact Nat.le_of_eq rfl) (hb hby at_88) (fun _ _ => ⟨rfl, e21q, (by decide : 1 + 0 ≤ _), (by decide : 1 + 0 ≤ _)⟩)
    dsimp only [Pt.U, Pt.locs, Pt.cells, Pt.slots] at X22 l22 y22 z22 st22 hQ22
    subst l22 y22 z22
    obtain ⟨rfl, N22q, e22q⟩ := hQ22
    have N22 := Fr.app N21 N22q
    have pre14 : ∀ t, Steps p.tables e below (T22.setTop (mkF m 93 #[.val (.int p0), .val (.int p1), .val (.int p2), .val (.int p3), .val (.int p4), .val (.int ba), .val (.int bb), .val (.int (1 : Int32)), .val (.ref b17), .val (.int (own_pick ((p4.toUInt32 >>> ((2 : Int32) &&& 31).toUInt32).toInt32) ba bb (p2.toInt8.toInt32))), .val (.int (own_pick ((p4.toUInt32 >>> ((4 : Int32) &&& 31).toUInt32).toInt32) ba bb (p3.toInt8.toInt32))), .unset, .unset, .unset, .unset, .unset, .unset, .unset] [])) t → Steps p.tables e below (s₁.setTop (entryFrame m #[(.int p0), (.int p1), (.int p2), (.int p3), (.int p4)] maxLocals)) t := by
      intro t k
      refine pre13 t ?_
      show Steps p.tables e below (T19.setTop (mkF m 63 #[.val (.int p0), .val (.int p1), .val (.int p2), .val (.int p3), .val (.int p4), .val (.int ba), .val (.int bb), .val (.int (1 : Int32)), .val (.ref b17), .unset, .unset, .unset, .unset, .unset, .unset, .unset, .unset, .unset] [])) _
      refine XS.iload X19.here hx rfl (hb hby at_63) rfl ?_
      show Steps p.tables e below (T19.setTop (mkF m 65 #[.val (.int p0), .val (.int p1), .val (.int p2), .val (.int p3), .val (.int p4), .val (.int ba), .val (.int bb), .val (.int (1 : Int32)), .val (.ref b17), .unset, .unset, .unset, .unset, .unset, .unset, .unset, .unset, .unset] [(.int p4)])) _
      refine XS.iconst X19.here hx rfl (hb hby at_65) ?_
      show Steps p.tables e below (T19.setTop (mkF m 66 #[.val (.int p0), .val (.int p1), .val (.int p2), .val (.int p3), .val (.int p4), .val (.int ba), .val (.int bb), .val (.int (1 : Int32)), .val (.ref b17), .unset, .unset, .unset, .unset, .unset, .unset, .unset, .unset, .unset] [(.int (2 : Int32)), (.int p4)])) _
      refine XS.iushr X19.here hx rfl (hb hby at_66) rfl ?_
      show Steps p.tables e below (T19.setTop (mkF m 67 #[.val (.int p0), .val (.int p1), .val (.int p2), .val (.int p3), .val (.int p4), .val (.int ba), .val (.int bb), .val (.int (1 : Int32)), .val (.ref b17), .unset, .unset, .unset, .unset, .unset, .unset, .unset, .unset, .unset] [(.int ((p4.toUInt32 >>> ((2 : Int32) &&& 31).toUInt32).toInt32))])) _
      refine XS.iload X19.here hx rfl (hb hby at_67) rfl ?_
      show Steps p.tables e below (T19.setTop (mkF m 69 #[.val (.int p0), .val (.int p1), .val (.int p2), .val (.int p3), .val (.int p4), .val (.int ba), .val (.int bb), .val (.int (1 : Int32)), .val (.ref b17), .unset, .unset, .unset, .unset, .unset, .unset, .unset, .unset, .unset] [(.int ba), (.int ((p4.toUInt32 >>> ((2 : Int32) &&& 31).toUInt32).toInt32))])) _
      refine XS.iload X19.here hx rfl (hb hby at_69) rfl ?_
      show Steps p.tables e below (T19.setTop (mkF m 71 #[.val (.int p0), .val (.int p1), .val (.int p2), .val (.int p3), .val (.int p4), .val (.int ba), .val (.int bb), .val (.int (1 : Int32)), .val (.ref b17), .unset, .unset, .unset, .unset, .unset, .unset, .unset, .unset, .unset] [(.int bb), (.int ba), (.int ((p4.toUInt32 >>> ((2 : Int32) &&& 31).toUInt32).toInt32))])) _
      refine XS.iloadN X19.here hx rfl (hb hby at_71) rfl ?_
      show Steps p.tables e below (T19.setTop (mkF m 72 #[.val (.int p0), .val (.int p1), .val (.int p2), .val (.int p3), .val (.int p4), .val (.int ba), .val (.int bb), .val (.int (1 : Int32)), .val (.ref b17), .unset, .unset, .unset, .unset, .unset, .unset, .unset, .unset, .unset] [(.int p2), (.int bb), (.int ba), (.int ((p4.toUInt32 >>> ((2 : Int32) &&& 31).toUInt32).toInt32))])) _
      refine XS.i2b X19.here hx rfl (hb hby at_72) rfl ?_
      show Steps p.tables e below (T19.setTop (mkF m 73 #[.val (.int p0), .val (.int p1), .val (.int p2), .val (.int p3), .val (.int p4), .val (.int ba), .val (.int bb), .val (.int (1 : Int32)), .val (.ref b17), .unset, .unset, .unset, .unset, .unset, .unset, .unset, .unset, .unset] [(.int (p2.toInt8.toInt32)), (.int bb), (.int ba), (.int ((p4.toUInt32 >>> ((2 : Int32) &&& 31).toUInt32).toInt32))])) _
      refine st21 _ ?_
      show Steps p.tables e below (T21.setTop (mkF m 76 #[.val (.int p0), .val (.int p1), .val (.int p2), .val (.int p3), .val (.int p4), .val (.int ba), .val (.int bb), .val (.int (1 : Int32)), .val (.ref b17), .unset, .unset, .unset, .unset, .unset, .unset, .unset, .unset, .unset] [(.int (own_pick ((p4.toUInt32 >>> ((2 : Int32) &&& 31).toUInt32).toInt32) ba bb (p2.toInt8.toInt32)))])) _
      refine XS.istore X21.here hx rfl (hb hby at_76) rfl (l' := #[.val (.int p0), .val (.int p1), .val (.int p2), .val (.int p3), .val (.int p4), .val (.int ba), .val (.int bb), .val (.int (1 : Int32)), .val (.ref b17), .val (.int (own_pick ((p4.toUInt32 >>> ((2 : Int32) &&& 31).toUInt32).toInt32) ba bb (p2.toInt8.toInt32))), .unset, .unset, .unset, .unset, .unset, .unset, .unset, .unset]) rfl ?_
      show Steps p.tables e below (T21.setTop (mkF m 78 #[.val (.int p0), .val (.int p1), .val (.int p2), .val (.int p3), .val (.int p4), .val (.int ba), .val (.int bb), .val (.int (1 : Int32)), .val (.ref b17), .val (.int (own_pick ((p4.toUInt32 >>> ((2 : Int32) &&& 31).toUInt32).toInt32) ba bb (p2.toInt8.toInt32))), .unset, .unset, .unset, .unset, .unset, .unset, .unset, .unset] [])) _
      refine XS.iload X21.here hx rfl (hb hby at_78) rfl ?_
      show Steps p.tables e below (T21.setTop (mkF m 80 #[.val (.int p0), .val (.int p1), .val (.int p2), .val (.int p3), .val (.int p4), .val (.int ba), .val (.int bb), .val (.int (1 : Int32)), .val (.ref b17), .val (.int (own_pick ((p4.toUInt32 >>> ((2 : Int32) &&& 31).toUInt32).toInt32) ba bb (p2.toInt8.toInt32))), .unset, .unset, .unset, .unset, .unset, .unset, .unset, .unset] [(.int p4)])) _
      refine XS.iconst X21.here hx rfl (hb hby at_80) ?_
      show Steps p.tables e below (T21.setTop (mkF m 81 #[.val (.int p0), .val (.int p1), .val (.int p2), .val (.int p3), .val (.int p4), .val (.int ba), .val (.int bb), .val (.int (1 : Int32)), .val (.ref b17), .val (.int (own_pick ((p4.toUInt32 >>> ((2 : Int32) &&& 31).toUInt32).toInt32) ba bb (p2.toInt8.toInt32))), .unset, .unset, .unset, .unset, .unset, .unset, .unset, .unset] [(.int (4 : Int32)), (.int p4)])) _
      refine XS.iushr X21.here hx rfl (hb hby at_81) rfl ?_
      show Steps p.tables e below (T21.setTop (mkF m 82 #[.val (.int p0), .val (.int p1), .val (.int p2), .val (.int p3), .val (.int p4), .val (.int ba), .val (.int bb), .val (.int (1 : Int32)), .val (.ref b17), .val (.int (own_pick ((p4.toUInt32 >>> ((2 : Int32) &&& 31).toUInt32).toInt32) ba bb (p2.toInt8.toInt32))), .unset, .unset, .unset, .unset, .unset, .unset, .unset, .unset] [(.int ((p4.toUInt32 >>> ((4 : Int32) &&& 31).toUInt32).toInt32))])) _
      refine XS.iload X21.here hx rfl (hb hby at_82) rfl ?_
      show Steps p.tables e below (T21.setTop (mkF m 84 #[.val (.int p0), .val (.int p1), .val (.int p2), .val (.int p3), .val (.int p4), .val (.int ba), .val (.int bb), .val (.int (1 : Int32)), .val (.ref b17), .val (.int (own_pick ((p4.toUInt32 >>> ((2 : Int32) &&& 31).toUInt32).toInt32) ba bb (p2.toInt8.toInt32))), .unset, .unset, .unset, .unset, .unset, .unset, .unset, .unset] [(.int ba), (.int ((p4.toUInt32 >>> ((4 : Int32) &&& 31).toUInt32).toInt32))])) _
      refine XS.iload X21.here hx rfl (hb hby at_84) rfl ?_
      show Steps p.tables e below (T21.setTop (mkF m 86 #[.val (.int p0), .val (.int p1), .val (.int p2), .val (.int p3), .val (.int p4), .val (.int ba), .val (.int bb), .val (.int (1 : Int32)), .val (.ref b17), .val (.int (own_pick ((p4.toUInt32 >>> ((2 : Int32) &&& 31).toUInt32).toInt32) ba bb (p2.toInt8.toInt32))), .unset, .unset, .unset, .unset, .unset, .unset, .unset, .unset] [(.int bb), (.int ba), (.int ((p4.toUInt32 >>> ((4 : Int32) &&& 31).toUInt32).toInt32))])) _
      refine XS.iloadN X21.here hx rfl (hb hby at_86) rfl ?_
      show Steps p.tables e below (T21.setTop (mkF m 87 #[.val (.int p0), .val (.int p1), .val (.int p2), .val (.int p3), .val (.int p4), .val (.int ba), .val (.int bb), .val (.int (1 : Int32)), .val (.ref b17), .val (.int (own_pick ((p4.toUInt32 >>> ((2 : Int32) &&& 31).toUInt32).toInt32) ba bb (p2.toInt8.toInt32))), .unset, .unset, .unset, .unset, .unset, .unset, .unset, .unset] [(.int p3), (.int bb), (.int ba), (.int ((p4.toUInt32 >>> ((4 : Int32) &&& 31).toUInt32).toInt32))])) _
      refine XS.i2b X21.here hx rfl (hb hby at_87) rfl ?_
      show Steps p.tables e below (T21.setTop (mkF m 88 #[.val (.int p0), .val (.int p1), .val (.int p2), .val (.int p3), .val (.int p4), .val (.int ba), .val (.int bb), .val (.int (1 : Int32)), .val (.ref b17), .val (.int (own_pick ((p4.toUInt32 >>> ((2 : Int32) &&& 31).toUInt32).toInt32) ba bb (p2.toInt8.toInt32))), .unset, .unset, .unset, .unset, .unset, .unset, .unset, .unset] [(.int (p3.toInt8.toInt32)), (.int bb), (.int ba), (.int ((p4.toUInt32 >>> ((4 : Int32) &&& 31).toUInt32).toInt32))])) _
      refine st22 _ ?_
      show Steps p.tables e below (T22.setTop (mkF m 91 #[.val (.int p0), .val (.int p1), .val (.int p2), .val (.int p3), .val (.int p4), .val (.int ba), .val (.int bb), .val (.int (1 : Int32)), .val (.ref b17), .val (.int (own_pick ((p4.toUInt32 >>> ((2 : Int32) &&& 31).toUInt32).toInt32) ba bb (p2.toInt8.toInt32))), .unset, .unset, .unset, .unset, .unset, .unset, .unset, .unset] [(.int (own_pick ((p4.toUInt32 >>> ((4 : Int32) &&& 31).toUInt32).toInt32) ba bb (p3.toInt8.toInt32)))])) _
      refine XS.istore X22.here hx rfl (hb hby at_91) rfl (l' := #[.val (.int p0), .val (.int p1), .val (.int p2), .val (.int p3), .val (.int p4), .val (.int ba), .val (.int bb), .val (.int (1 : Int32)), .val (.ref b17), .val (.int (own_pick ((p4.toUInt32 >>> ((2 : Int32) &&& 31).toUInt32).toInt32) ba bb (p2.toInt8.toInt32))), .val (.int (own_pick ((p4.toUInt32 >>> ((4 : Int32) &&& 31).toUInt32).toInt32) ba bb (p3.toInt8.toInt32))), .unset, .unset, .unset, .unset, .unset, .unset, .unset]) rfl ?_
      exact k
    have ht1 : nar .byte (own_pick ((p4.toUInt32 >>> ((2 : Int32) &&& 31).toUInt32).toInt32) ba bb (p2.toInt8.toInt32)) = (own_pick ((p4.toUInt32 >>> ((2 : Int32) &&& 31).toUInt32).toInt32) ba bb (p2.toInt8.toInt32)) := own_pickb hba hbb (own_nb _)
    have ht2 : nar .byte (own_pick ((p4.toUInt32 >>> ((4 : Int32) &&& 31).toUInt32).toInt32) ba bb (p3.toInt8.toInt32)) = (own_pick ((p4.toUInt32 >>> ((4 : Int32) &&& 31).toUInt32).toInt32) ba bb (p3.toInt8.toInt32)) := own_pickb hba hbb (own_nb _)
    obtain ⟨t1, et1⟩ : ∃ z, z = (own_pick ((p4.toUInt32 >>> ((2 : Int32) &&& 31).toUInt32).toInt32) ba bb (p2.toInt8.toInt32)) := ⟨_, rfl⟩
    rw [← et1] at pre14 ht1
    obtain ⟨t2, et2⟩ : ∃ z, z = (own_pick ((p4.toUInt32 >>> ((4 : Int32) &&& 31).toUInt32).toInt32) ba bb (p3.toInt8.toInt32)) := ⟨_, rfl⟩
    rw [← et2] at pre14 ht2
    have hs1 : nar .byte (own_st [ba] t1 (0 : Int32)) = (own_st [ba] t1 (0 : Int32)) := own_stb ht1 _ own_n0
    have hs2 : nar .byte (own_st [ba] t2 (own_st [ba] t1 (0 : Int32))) = (own_st [ba] t2 (own_st [ba] t1 (0 : Int32))) := own_stb ht2 _ hs1
    obtain ⟨T23, h23, X23, e23, E23, A23, D23, -, st23⟩ := newO X22 hx hZ hown (hw _ (List.mem_of_getElem? (i := 5) rfl)) (hw _ (List.mem_of_getElem? (i := 6) rfl)) (hw _ (List.mem_of_getElem? (i := 7) rfl)) e22q (g := (mkF m 93 #[.val (.int p0), .val (.int p1), .val (.int p2), .val (.int p3), .val (.int p4), .val (.int ba), .val (.int bb), .val (.int (1 : Int32)), .val (.ref b17), .val (.int t1), .val (.int t2), .unset, .unset, .unset, .unset, .unset, .unset, .unset] [])) rfl (hb hby at_93) (by decide) (by decide)
    obtain ⟨b23, g23⟩ : ∃ z, z = h19.size := ⟨_, rfl⟩
    rw [← g23] at A23 D23 st23
    have ne_b17_b23 : b17 ≠ b23 := Nat.ne_of_lt (Nat.lt_of_lt_of_le V19_b17.lt (Nat.le_of_eq g23.symm))
    have g_b23 : n0 ≤ b23 := Nat.le_trans Zs20 (Nat.le_of_eq g23.symm)
    have V_b17_23 := V19_b17.ext E23
    have Zs24 := Nat.le_trans Zs20 E23.1
    have F_types_b23 : Fld Z h23 b23 "com/example/governor/governor/server/MessageScanner$StopAt" "types" "[B" .null := D23 (Or.inr (hw _ (List.mem_of_getElem? (i := 15) rfl))) (ty := (.array .byte)) (by decide)
    have F_stoppedAt_b23 : Fld Z h23 b23 "com/example/governor/governor/server/MessageScanner$StopAt" "stoppedAt" "B" (.int (0 : Int32)) := D23 (Or.inl (hw _ (List.mem_of_getElem? (i := 22) rfl))) (ty := .byte) (by decide)
    obtain ⟨_, _, ⟨T25, L25, k25, n25⟩, -, X25, ⟨Lc25, hQ25, l25, y25, z25⟩, st25⟩ := X23.specialBack hx (y := (⟨"com/example/governor/governor/server/MessageScanner$StopAt", "<init>", "([B)V"⟩ : MethodName)) rfl hown (mvT hZ (hw _ (List.mem_of_getElem? (i := 8) rfl))) (mvT hZ (hw _ (List.mem_of_getElem? (i := 9) rfl))) (mvT hZ (hw _ (List.mem_of_getElem? (i := 10) rfl))) (by decide) (backOf (W := 1) (rm2 l Z a0 hw [] b23 b17 h23 n0 Zs24 F_types_b23 F_stoppedAt_b23 A23 g_b23) hZ (hw _ (List.mem_of_getElem? (i := 10) rfl)) (hw _ (List.mem_of_getElem? (i := 7) rfl)) (by decide) (by decide)) (g := (mkF m 99 #[.val (.int p0), .val (.int p1), .val (.int p2), .val (.int p3), .val (.int p4), .val (.int ba), .val (.int bb), .val (.int (1 : Int32)), .val (.ref b17), .val (.int t1), .val (.int t2), .unset, .unset, .unset, .unset, .unset, .unset, .unset] [(.ref b17), (.ref b23), (.ref b23)])) rfl (by rw [hml]; rfl) (Steps.refl _) (a := b23) (argsL := [(.ref b17)]) (rest := [(.ref b23)]) (lenOf pd_1 rfl) rfl (by show 2 * 0 + _ ≤ _; exact Nat.le_of_eq rfl) (hb hby at_99) (fun _ _ => ⟨rfl, e23, (by decide : 2 + 0 ≤ _), (by decide : 3 + 0 ≤ _)⟩)
    dsimp only [Pt.U, Pt.locs, Pt.cells, Pt.slots] at X25 l25 y25 z25 st25 hQ25
    subst l25 y25 z25
    obtain ⟨rfl, N25q, K25q, E25q, Fa25q, Fb25q⟩ := hQ25
    have N25 := Fr.app N22 N25q
    have V_b17_25 := V_b17_23.keep K25q (ninS ne_b17_b23 nin0)
    have E_b23_25 := A23.keep K25q
    have Zs26 := Nat.le_trans Zs24 K25q.1
    obtain ⟨cq27, kq27, q27a, q27b, q27c⟩ := isOf hZ rfl E25q
    obtain ⟨_, _, ⟨T27, L27, k27, n27⟩, -, X27, ⟨Lc27, hQ27, l27, y27, z27⟩, st27⟩ := X25.virtualBack hx (y := (⟨"com/example/governor/governor/server/MessageScanner$StopAt", "begins", "(B)Z"⟩ : MethodName)) (z := (⟨"com/example/governor/governor/server/MessageScanner$StopAt", "begins", "(B)Z"⟩ : MethodName)) hown (mvT hZ (hw _ (List.mem_of_getElem? (i := 16) rfl))) (mvT hZ (hw _ (List.mem_of_getElem? (i := 17) rfl))) (notFace_of_selects (args := #[]) (mvT hZ (hw _ (List.mem_of_getElem? (i := 19) rfl)))) (mvT hZ (hw _ (List.mem_of_getElem? (i := 19) rfl))) (mvT hZ (hw _ (List.mem_of_getElem? (i := 18) rfl))) (by decide) (backOf (W := 0) (rm4x1 l Z a0 hw [] b23 t1 b17 (0 : Int32) k17 ba T25.heap n0 Zs26 Fa25q Fb25q E25q g_b23 V_b17_25 ne_b17_b23 ht1) hZ (hw _ (List.mem_of_getElem? (i := 20) rfl)) (hw _ (List.mem_of_getElem? (i := 7) rfl)) (by decide) (by decide)) q27a q27c (g := (mkF m 108 #[.val (.int p0), .val (.int p1), .val (.int p2), .val (.int p3), .val (.int p4), .val (.int ba), .val (.int bb), .val (.int (1 : Int32)), .val (.ref b17), .val (.int t1), .val (.int t2), .val (.ref b23), .unset, .unset, .unset, .unset, .unset, .unset] [(.int t1), (.ref b23)])) rfl (by rw [hml]; rfl) (Steps.refl _) (argsL := [(.int t1)]) (rest := []) (lenOf pd_2 rfl) rfl (by show 2 * 0 + _ ≤ _; exact Nat.le_of_eq rfl) (hb hby at_108) (fun _ _ => ⟨rfl, rfl, (by decide : 2 + 0 ≤ _), (by decide : 3 + 0 ≤ _)⟩)
    dsimp only [Pt.U, Pt.locs, Pt.cells, Pt.slots] at X27 l27 y27 z27 st27 hQ27
    subst l27 y27 z27
    obtain ⟨rfl, N27q, K27q, E27q, Fa27q, Fb27q⟩ := hQ27
    have N27 := Fr.app N25 N27q
    have V_b17_27 := V_b17_25.keep K27q (ninS ne_b17_b23 nin0)
    have E_b23_27 := E25q.keep K27q
    have Zs28 := Nat.le_trans Zs26 K27q.1
    obtain ⟨cq29, kq29, q29a, q29b, q29c⟩ := isOf hZ rfl E27q
    obtain ⟨_, _, ⟨T29, L29, k29, n29⟩, -, X29, ⟨Lc29, hQ29, l29, y29, z29⟩, st29⟩ := X27.virtualBack hx (y := (⟨"com/example/governor/governor/server/MessageScanner$StopAt", "stoppedAt", "()B"⟩ : MethodName)) (z := (⟨"com/example/governor/governor/server/MessageScanner$StopAt", "stoppedAt", "()B"⟩ : MethodName)) hown (mvT hZ (hw _ (List.mem_of_getElem? (i := 23) rfl))) (mvT hZ (hw _ (List.mem_of_getElem? (i := 24) rfl))) (notFace_of_selects (args := #[]) (mvT hZ (hw _ (List.mem_of_getElem? (i := 26) rfl)))) (mvT hZ (hw _ (List.mem_of_getElem? (i := 26) rfl))) (mvT hZ (hw _ (List.mem_of_getElem? (i := 25) rfl))) (by decide) (backOf (W := 0) (rm5 l Z a0 hw [] b23 (own_st [ba] t1 (0 : Int32)) T27.heap n0 Zs28 Fb27q hs1) hZ (hw _ (List.mem_of_getElem? (i := 27) rfl)) (hw _ (List.mem_of_getElem? (i := 7) rfl)) (by decide) (by decide)) q29a q29c (g := (mkF m 115 #[.val (.int p0), .val (.int p1), .val (.int p2), .val (.int p3), .val (.int p4), .val (.int ba), .val (.int bb), .val (.int (1 : Int32)), .val (.ref b17), .val (.int t1), .val (.int t2), .val (.ref b23), .val (.int (own_z (own_st [ba] t1 (0 : Int32)))), .unset, .unset, .unset, .unset, .unset] [(.ref b23)])) rfl (by rw [hml]; rfl) (Steps.refl _) (argsL := []) (rest := []) (lenOf pd_3 rfl) rfl (by show 2 * 0 + _ ≤ _; exact Nat.le_of_eq rfl) (hb hby at_115) (fun _ _ => ⟨rfl, rfl, (by decide : 2 + 0 ≤ _), (by decide : 3 + 0 ≤ _)⟩)
    dsimp only [Pt.U, Pt.locs, Pt.cells, Pt.slots] at X29 l29 y29 z29 st29 hQ29
    subst l29 y29 z29
    obtain ⟨rfl, N29q, e29q⟩ := hQ29
    have N29 := Fr.app N27 N29q
    obtain ⟨cq30, kq30, q30a, q30b, q30c⟩ := isOf hZ e29q E27q
    obtain ⟨_, _, ⟨T30, L30, k30, n30⟩, -, X30, ⟨Lc30, hQ30, l30, y30, z30⟩, st30⟩ := X29.virtualBack hx (y := (⟨"com/example/governor/governor/server/MessageScanner$StopAt", "begins", "(B)Z"⟩ : MethodName)) (z := (⟨"com/example/governor/governor/server/MessageScanner$StopAt", "begins", "(B)Z"⟩ : MethodName)) hown (mvT hZ (hw _ (List.mem_of_getElem? (i := 16) rfl))) (mvT hZ (hw _ (List.mem_of_getElem? (i := 17) rfl))) (notFace_of_selects (args := #[]) (mvT hZ (hw _ (List.mem_of_getElem? (i := 19) rfl)))) (mvT hZ (hw _ (List.mem_of_getElem? (i := 19) rfl))) (mvT hZ (hw _ (List.mem_of_getElem? (i := 18) rfl))) (by decide) (backOf (W := 0) (rm4x1 l Z a0 hw [] b23 t2 b17 (own_st [ba] t1 (0 : Int32)) k17 ba T27.heap n0 Zs28 Fa27q Fb27q E27q g_b23 V_b17_27 ne_b17_b23 ht2) hZ (hw _ (List.mem_of_getElem? (i := 20) rfl)) (hw _ (List.mem_of_getElem? (i := 7) rfl)) (by decide) (by decide)) q30a q30c (g := (mkF m 124 #[.val (.int p0), .val (.int p1), .val (.int p2), .val (.int p3), .val (.int p4), .val (.int ba), .val (.int bb), .val (.int (1 : Int32)), .val (.ref b17), .val (.int t1), .val (.int t2), .val (.ref b23), .val (.int (own_z (own_st [ba] t1 (0 : Int32)))), .val (.int (own_st [ba] t1 (0 : Int32))), .unset, .unset, .unset, .unset] [(.int t2), (.ref b23)])) rfl (by rw [hml]; rfl) (Steps.refl _) (argsL := [(.int t2)]) (rest := []) (lenOf pd_2 rfl) rfl (by show 2 * 0 + _ ≤ _; exact Nat.le_of_eq rfl) (hb hby at_124) (fun _ _ => ⟨rfl, e29q, (by decide : 2 + 0 ≤ _), (by decide : 3 + 0 ≤ _)⟩)
    dsimp only [Pt.U, Pt.locs, Pt.cells, Pt.slots] at X30 l30 y30 z30 st30 hQ30
    subst l30 y30 z30
    obtain ⟨rfl, N30q, K30q, E30q, Fa30q, Fb30q⟩ := hQ30
    have N30 := Fr.app N29 N30q
    have V_b17_30 := V_b17_27.keep K30q (ninS ne_b17_b23 nin0)
    have E_b23_30 := E27q.keep K30q
    have Zs31 := Nat.le_trans Zs28 K30q.1
    obtain ⟨cq32, kq32, q32a, q32b, q32c⟩ := isOf hZ rfl E30q
    obtain ⟨_, _, ⟨T32, L32, k32, n32⟩, -, X32, ⟨Lc32, hQ32, l32, y32, z32⟩, st32⟩ := X30.virtualBack hx (y := (⟨"com/example/governor/governor/server/MessageScanner$StopAt", "stoppedAt", "()B"⟩ : MethodName)) (z := (⟨"com/example/governor/governor/server/MessageScanner$StopAt", "stoppedAt", "()B"⟩ : MethodName)) hown (mvT hZ (hw _ (List.mem_of_getElem? (i := 23) rfl))) (mvT hZ (hw _ (List.mem_of_getElem? (i := 24) rfl))) (notFace_of_selects (args := #[]) (mvT hZ (hw _ (List.mem_of_getElem? (i := 26) rfl)))) (mvT hZ (hw _ (List.mem_of_getElem? (i := 26) rfl))) (mvT hZ (hw _ (List.mem_of_getElem? (i := 25) rfl))) (by decide) (backOf (W := 0) (rm5 l Z a0 hw [] b23 (own_st [ba] t2 (own_st [ba] t1 (0 : Int32))) T30.heap n0 Zs31 Fb30q hs2) hZ (hw _ (List.mem_of_getElem? (i := 27) rfl)) (hw _ (List.mem_of_getElem? (i := 7) rfl)) (by decide) (by decide)) q32a q32c (g := (mkF m 131 #[.val (.int p0), .val (.int p1), .val (.int p2), .val (.int p3), .val (.int p4), .val (.int ba), .val (.int bb), .val (.int (1 : Int32)), .val (.ref b17), .val (.int t1), .val (.int t2), .val (.ref b23), .val (.int (own_z (own_st [ba] t1 (0 : Int32)))), .val (.int (own_st [ba] t1 (0 : Int32))), .val (.int (own_z (own_st [ba] t2 (own_st [ba] t1 (0 : Int32))))), .unset, .unset, .unset] [(.ref b23)])) rfl (by rw [hml]; rfl) (Steps.refl _) (argsL := []) (rest := []) (lenOf pd_3 rfl) rfl (by show 2 * 0 + _ ≤ _; exact Nat.le_of_eq rfl) (hb hby at_131) (fun _ _ => ⟨rfl, rfl, (by decide : 2 + 0 ≤ _), (by decide : 3 + 0 ≤ _)⟩)
    dsimp only [Pt.U, Pt.locs, Pt.cells, Pt.slots] at X32 l32 y32 z32 st32 hQ32
    subst l32 y32 z32
    obtain ⟨rfl, N32q, e32q⟩ := hQ32
    have N32 := Fr.app N30 N32q
    have pre15 : ∀ t, Steps p.tables e below (T32.setTop (mkF m 136 #[.val (.int p0), .val (.int p1), .val (.int p2), .val (.int p3), .val (.int p4), .val (.int ba), .val (.int bb), .val (.int (1 : Int32)), .val (.ref b17), .val (.int t1), .val (.int t2), .val (.ref b23), .val (.int (own_z (own_st [ba] t1 (0 : Int32)))), .val (.int (own_st [ba] t1 (0 : Int32))), .val (.int (own_z (own_st [ba] t2 (own_st [ba] t1 (0 : Int32))))), .val (.int (own_st [ba] t2 (own_st [ba] t1 (0 : Int32)))), .unset, .unset] [])) t → Steps p.tables e below (s₁.setTop (entryFrame m #[(.int p0), (.int p1), (.int p2), (.int p3), (.int p4)] maxLocals)) t := by
      intro t k
      refine pre14 t ?_
      show Steps p.tables e below (T22.setTop (mkF m 93 #[.val (.int p0), .val (.int p1), .val (.int p2), .val (.int p3), .val (.int p4), .val (.int ba), .val (.int bb), .val (.int (1 : Int32)), .val (.ref b17), .val (.int t1), .val (.int t2), .unset, .unset, .unset, .unset, .unset, .unset, .unset] [])) _
      refine st23 _ ?_
      show Steps p.tables e below (T23.setTop (mkF m 96 #[.val (.int p0), .val (.int p1), .val (.int p2), .val (.int p3), .val (.int p4), .val (.int ba), .val (.int bb), .val (.int (1 : Int32)), .val (.ref b17), .val (.int t1), .val (.int t2), .unset, .unset, .unset, .unset, .unset, .unset, .unset] [(.ref b23)])) _
      refine XS.dup X23.here hx rfl (hb hby at_96) rfl rfl ?_
      show Steps p.tables e below (T23.setTop (mkF m 97 #[.val (.int p0), .val (.int p1), .val (.int p2), .val (.int p3), .val (.int p4), .val (.int ba), .val (.int bb), .val (.int (1 : Int32)), .val (.ref b17), .val (.int t1), .val (.int t2), .unset, .unset, .unset, .unset, .unset, .unset, .unset] [(.ref b23), (.ref b23)])) _
      refine XS.aload X23.here hx rfl (hb hby at_97) rfl rfl ?_
      show Steps p.tables e below (T23.setTop (mkF m 99 #[.val (.int p0), .val (.int p1), .val (.int p2), .val (.int p3), .val (.int p4), .val (.int ba), .val (.int bb), .val (.int (1 : Int32)), .val (.ref b17), .val (.int t1), .val (.int t2), .unset, .unset, .unset, .unset, .unset, .unset, .unset] [(.ref b17), (.ref b23), (.ref b23)])) _
      refine st25.trans ?_
      show Steps p.tables e below (T25.setTop (mkF m 102 #[.val (.int p0), .val (.int p1), .val (.int p2), .val (.int p3), .val (.int p4), .val (.int ba), .val (.int bb), .val (.int (1 : Int32)), .val (.ref b17), .val (.int t1), .val (.int t2), .unset, .unset, .unset, .unset, .unset, .unset, .unset] [(.ref b23)])) _
      refine XS.astore X25.here hx rfl (hb hby at_102) rfl rfl (l' := #[.val (.int p0), .val (.int p1), .val (.int p2), .val (.int p3), .val (.int p4), .val (.int ba), .val (.int bb), .val (.int (1 : Int32)), .val (.ref b17), .val (.int t1), .val (.int t2), .val (.ref b23), .unset, .unset, .unset, .unset, .unset, .unset]) rfl ?_
      show Steps p.tables e below (T25.setTop (mkF m 104 #[.val (.int p0), .val (.int p1), .val (.int p2), .val (.int p3), .val (.int p4), .val (.int ba), .val (.int bb), .val (.int (1 : Int32)), .val (.ref b17), .val (.int t1), .val (.int t2), .val (.ref b23), .unset, .unset, .unset, .unset, .unset, .unset] [])) _
      refine XS.aload X25.here hx rfl (hb hby at_104) rfl rfl ?_
      show Steps p.tables e below (T25.setTop (mkF m 106 #[.val (.int p0), .val (.int p1), .val (.int p2), .val (.int p3), .val (.int p4), .val (.int ba), .val (.int bb), .val (.int (1 : Int32)), .val (.ref b17), .val (.int t1), .val (.int t2), .val (.ref b23), .unset, .unset, .unset, .unset, .unset, .unset] [(.ref b23)])) _
      refine XS.iload X25.here hx rfl (hb hby at_106) rfl ?_
      show Steps p.tables e below (T25.setTop (mkF m 108 #[.val (.int p0), .val (.int p1), .val (.int p2), .val (.int p3), .val (.int p4), .val (.int ba), .val (.int bb), .val (.int (1 : Int32)), .val (.ref b17), .val (.int t1), .val (.int t2), .val (.ref b23), .unset, .unset, .unset, .unset, .unset, .unset] [(.int t1), (.ref b23)])) _
      refine st27.trans ?_
      show Steps p.tables e below (T27.setTop (mkF m 111 #[.val (.int p0), .val (.int p1), .val (.int p2), .val (.int p3), .val (.int p4), .val (.int ba), .val (.int bb), .val (.int (1 : Int32)), .val (.ref b17), .val (.int t1), .val (.int t2), .val (.ref b23), .unset, .unset, .unset, .unset, .unset, .unset] [(.int (own_z (own_st [ba] t1 (0 : Int32))))])) _
      refine XS.istore X27.here hx rfl (hb hby at_111) rfl (l' := #[.val (.int p0), .val (.int p1), .val (.int p2), .val (.int p3), .val (.int p4), .val (.int ba), .val (.int bb), .val (.int (1 : Int32)), .val (.ref b17), .val (.int t1), .val (.int t2), .val (.ref b23), .val (.int (own_z (own_st [ba] t1 (0 : Int32)))), .unset, .unset, .unset, .unset, .unset]) rfl ?_
      show Steps p.tables e below (T27.setTop (mkF m 113 #[.val (.int p0), .val (.int p1), .val (.int p2), .val (.int p3), .val (.int p4), .val (.int ba), .val (.int bb), .val (.int (1 : Int32)), .val (.ref b17), .val (.int t1), .val (.int t2), .val (.ref b23), .val (.int (own_z (own_st [ba] t1 (0 : Int32)))), .unset, .unset, .unset, .unset, .unset] [])) _
      refine XS.aload X27.here hx rfl (hb hby at_113) rfl rfl ?_
      show Steps p.tables e below (T27.setTop (mkF m 115 #[.val (.int p0), .val (.int p1), .val (.int p2), .val (.int p3), .val (.int p4), .val (.int ba), .val (.int bb), .val (.int (1 : Int32)), .val (.ref b17), .val (.int t1), .val (.int t2), .val (.ref b23), .val (.int (own_z (own_st [ba] t1 (0 : Int32)))), .unset, .unset, .unset, .unset, .unset] [(.ref b23)])) _
      refine st29.trans ?_
      show Steps p.tables e below (T29.setTop (mkF m 118 #[.val (.int p0), .val (.int p1), .val (.int p2), .val (.int p3), .val (.int p4), .val (.int ba), .val (.int bb), .val (.int (1 : Int32)), .val (.ref b17), .val (.int t1), .val (.int t2), .val (.ref b23), .val (.int (own_z (own_st [ba] t1 (0 : Int32)))), .unset, .unset, .unset, .unset, .unset] [(.int (own_st [ba] t1 (0 : Int32)))])) _
      refine XS.istore X29.here hx rfl (hb hby at_118) rfl (l' := #[.val (.int p0), .val (.int p1), .val (.int p2), .val (.int p3), .val (.int p4), .val (.int ba), .val (.int bb), .val (.int (1 : Int32)), .val (.ref b17), .val (.int t1), .val (.int t2), .val (.ref b23), .val (.int (own_z (own_st [ba] t1 (0 : Int32)))), .val (.int (own_st [ba] t1 (0 : Int32))), .unset, .unset, .unset, .unset]) rfl ?_
      show Steps p.tables e below (T29.setTop (mkF m 120 #[.val (.int p0), .val (.int p1), .val (.int p2), .val (.int p3), .val (.int p4), .val (.int ba), .val (.int bb), .val (.int (1 : Int32)), .val (.ref b17), .val (.int t1), .val (.int t2), .val (.ref b23), .val (.int (own_z (own_st [ba] t1 (0 : Int32)))), .val (.int (own_st [ba] t1 (0 : Int32))), .unset, .unset, .unset, .unset] [])) _
      refine XS.aload X29.here hx rfl (hb hby at_120) rfl rfl ?_
      show Steps p.tables e below (T29.setTop (mkF m 122 #[.val (.int p0), .val (.int p1), .val (.int p2), .val (.int p3), .val (.int p4), .val (.int ba), .val (.int bb), .val (.int (1 : Int32)), .val (.ref b17), .val (.int t1), .val (.int t2), .val (.ref b23), .val (.int (own_z (own_st [ba] t1 (0 : Int32)))), .val (.int (own_st [ba] t1 (0 : Int32))), .unset, .unset, .unset, .unset] [(.ref b23)])) _
      refine XS.iload X29.here hx rfl (hb hby at_122) rfl ?_
      show Steps p.tables e below (T29.setTop (mkF m 124 #[.val (.int p0), .val (.int p1), .val (.int p2), .val (.int p3), .val (.int p4), .val (.int ba), .val (.int bb), .val (.int (1 : Int32)), .val (.ref b17), .val (.int t1), .val (.int t2), .val (.ref b23), .val (.int (own_z (own_st [ba] t1 (0 : Int32)))), .val (.int (own_st [ba] t1 (0 : Int32))), .unset, .unset, .unset, .unset] [(.int t2), (.ref b23)])) _
      refine st30.trans ?_
      show Steps p.tables e below (T30.setTop (mkF m 127 #[.val (.int p0), .val (.int p1), .val (.int p2), .val (.int p3), .val (.int p4), .val (.int ba), .val (.int bb), .val (.int (1 : Int32)), .val (.ref b17), .val (.int t1), .val (.int t2), .val (.ref b23), .val (.int (own_z (own_st [ba] t1 (0 : Int32)))), .val (.int (own_st [ba] t1 (0 : Int32))), .unset, .unset, .unset, .unset] [(.int (own_z (own_st [ba] t2 (own_st [ba] t1 (0 : Int32)))))])) _
      refine XS.istore X30.here hx rfl (hb hby at_127) rfl (l' := #[.val (.int p0), .val (.int p1), .val (.int p2), .val (.int p3), .val (.int p4), .val (.int ba), .val (.int bb), .val (.int (1 : Int32)), .val (.ref b17), .val (.int t1), .val (.int t2), .val (.ref b23), .val (.int (own_z (own_st [ba] t1 (0 : Int32)))), .val (.int (own_st [ba] t1 (0 : Int32))), .val (.int (own_z (own_st [ba] t2 (own_st [ba] t1 (0 : Int32))))), .unset, .unset, .unset]) rfl ?_
      show Steps p.tables e below (T30.setTop (mkF m 129 #[.val (.int p0), .val (.int p1), .val (.int p2), .val (.int p3), .val (.int p4), .val (.int ba), .val (.int bb), .val (.int (1 : Int32)), .val (.ref b17), .val (.int t1), .val (.int t2), .val (.ref b23), .val (.int (own_z (own_st [ba] t1 (0 : Int32)))), .val (.int (own_st [ba] t1 (0 : Int32))), .val (.int (own_z (own_st [ba] t2 (own_st [ba] t1 (0 : Int32))))), .unset, .unset, .unset] [])) _
      refine XS.aload X30.here hx rfl (hb hby at_129) rfl rfl ?_
      show Steps p.tables e below (T30.setTop (mkF m 131 #[.val (.int p0), .val (.int p1), .val (.int p2), .val (.int p3), .val (.int p4), .val (.int ba), .val (.int bb), .val (.int (1 : Int32)), .val (.ref b17), .val (.int t1), .val (.int t2), .val (.ref b23), .val (.int (own_z (own_st [ba] t1 (0 : Int32)))), .val (.int (own_st [ba] t1 (0 : Int32))), .val (.int (own_z (own_st [ba] t2 (own_st [ba] t1 (0 : Int32))))), .unset, .unset, .unset] [(.ref b23)])) _
      refine st32.trans ?_
      show Steps p.tables e below (T32.setTop (mkF m 134 #[.val (.int p0), .val (.int p1), .val (.int p2), .val (.int p3), .val (.int p4), .val (.int ba), .val (.int bb), .val (.int (1 : Int32)), .val (.ref b17), .val (.int t1), .val (.int t2), .val (.ref b23), .val (.int (own_z (own_st [ba] t1 (0 : Int32)))), .val (.int (own_st [ba] t1 (0 : Int32))), .val (.int (own_z (own_st [ba] t2 (own_st [ba] t1 (0 : Int32))))), .unset, .unset, .unset] [(.int (own_st [ba] t2 (own_st [ba] t1 (0 : Int32))))])) _
      refine XS.istore X32.here hx rfl (hb hby at_134) rfl (l' := #[.val (.int p0), .val (.int p1), .val (.int p2), .val (.int p3), .val (.int p4), .val (.int ba), .val (.int bb), .val (.int (1 : Int32)), .val (.ref b17), .val (.int t1), .val (.int t2), .val (.ref b23), .val (.int (own_z (own_st [ba] t1 (0 : Int32)))), .val (.int (own_st [ba] t1 (0 : Int32))), .val (.int (own_z (own_st [ba] t2 (own_st [ba] t1 (0 : Int32))))), .val (.int (own_st [ba] t2 (own_st [ba] t1 (0 : Int32)))), .unset, .unset]) rfl ?_
      exact k
    obtain ⟨_, _, ⟨T33, L33, k33, n33⟩, -, X33, ⟨Lc33, hQ33, l33, y33, z33⟩, st33⟩ := Jvm.LawKit.callS X32 hx (y := (⟨"com/example/governor/governor/server/StopAtBeginsPinLaw", "inList", "(BIBB)Z"⟩ : MethodName)) hown (mvT hZ (hw _ (List.mem_of_getElem? (i := 28) rfl))) (mvT hZ (hw _ (List.mem_of_getElem? (i := 29) rfl))) (mvT hZ (hw _ (List.mem_of_getElem? (i := 3) rfl))) (mvT hZ (hw _ (List.mem_of_getElem? (i := 30) rfl))) (by decide) (backOf (W := 0) (rm6 l Z a0 hw [] t1 (1 : Int32) ba bb T30.heap n0 Zs31) hZ (hw _ (List.mem_of_getElem? (i := 30) rfl)) (hw _ (List.mem_of_getElem? (i := 3) rfl)) (by decide) (by decide)) (g := (mkF m 144 #[.val (.int p0), .val (.int p1), .val (.int p2), .val (.int p3), .val (.int p4), .val (.int ba), .val (.int bb), .val (.int (1 : Int32)), .val (.ref b17), .val (.int t1), .val (.int t2), .val (.ref b23), .val (.int (own_z (own_st [ba] t1 (0 : Int32)))), .val (.int (own_st [ba] t1 (0 : Int32))), .val (.int (own_z (own_st [ba] t2 (own_st [ba] t1 (0 : Int32))))), .val (.int (own_st [ba] t2 (own_st [ba] t1 (0 : Int32)))), .unset, .unset] [(.int bb), (.int ba), (.int (1 : Int32)), (.int t1)])) rfl (by rw [hml]; rfl) (argsL := [(.int t1), (.int (1 : Int32)), (.int ba), (.int bb)]) (rest := []) (lenOf pd_4 rfl) rfl (by show 2 * 0 + _ ≤ _; exact Nat.le_of_eq rfl) (hb hby at_144) (fun _ _ => ⟨rfl, e32q, (by decide : 2 + 0 ≤ _), (by decide : 3 + 0 ≤ _)⟩)
    dsimp only [Pt.U, Pt.locs, Pt.cells, Pt.slots] at X33 l33 y33 z33 st33 hQ33
    subst l33 y33 z33
    obtain ⟨rfl, N33q, e33q⟩ := hQ33
    have N33 := Fr.app N32 N33q
    have pre16 : ∀ t, Steps p.tables e below (T33.setTop (mkF m 147 #[.val (.int p0), .val (.int p1), .val (.int p2), .val (.int p3), .val (.int p4), .val (.int ba), .val (.int bb), .val (.int (1 : Int32)), .val (.ref b17), .val (.int t1), .val (.int t2), .val (.ref b23), .val (.int (own_z (own_st [ba] t1 (0 : Int32)))), .val (.int (own_st [ba] t1 (0 : Int32))), .val (.int (own_z (own_st [ba] t2 (own_st [ba] t1 (0 : Int32))))), .val (.int (own_st [ba] t2 (own_st [ba] t1 (0 : Int32)))), .unset, .unset] [(.int (own_in t1 (1 : Int32) ba bb))])) t → Steps p.tables e below (s₁.setTop (entryFrame m #[(.int p0), (.int p1), (.int p2), (.int p3), (.int p4)] maxLocals)) t := by
      intro t k
      refine pre15 t ?_
      show Steps p.tables e below (T32.setTop (mkF m 136 #[.val (.int p0), .val (.int p1), .val (.int p2), .val (.int p3), .val (.int p4), .val (.int ba), .val (.int bb), .val (.int (1 : Int32)), .val (.ref b17), .val (.int t1), .val (.int t2), .val (.ref b23), .val (.int (own_z (own_st [ba] t1 (0 : Int32)))), .val (.int (own_st [ba] t1 (0 : Int32))), .val (.int (own_z (own_st [ba] t2 (own_st [ba] t1 (0 : Int32))))), .val (.int (own_st [ba] t2 (own_st [ba] t1 (0 : Int32)))), .unset, .unset] [])) _
      refine XS.iload X32.here hx rfl (hb hby at_136) rfl ?_
      show Steps p.tables e below (T32.setTop (mkF m 138 #[.val (.int p0), .val (.int p1), .val (.int p2), .val (.int p3), .val (.int p4), .val (.int ba), .val (.int bb), .val (.int (1 : Int32)), .val (.ref b17), .val (.int t1), .val (.int t2), .val (.ref b23), .val (.int (own_z (own_st [ba] t1 (0 : Int32)))), .val (.int (own_st [ba] t1 (0 : Int32))), .val (.int (own_z (own_st [ba] t2 (own_st [ba] t1 (0 : Int32))))), .val (.int (own_st [ba] t2 (own_st [ba] t1 (0 : Int32)))), .unset, .unset] [(.int t1)])) _
      refine XS.iload X32.here hx rfl (hb hby at_138) rfl ?_
      show Steps p.tables e below (T32.setTop (mkF m 140 #[.val (.int p0), .val (.int p1), .val (.int p2), .val (.int p3), .val (.int p4), .val (.int ba), .val (.int bb), .val (.int (1 : Int32)), .val (.ref b17), .val (.int t1), .val (.int t2), .val (.ref b23), .val (.int (own_z (own_st [ba] t1 (0 : Int32)))), .val (.int (own_st [ba] t1 (0 : Int32))), .val (.int (own_z (own_st [ba] t2 (own_st [ba] t1 (0 : Int32))))), .val (.int (own_st [ba] t2 (own_st [ba] t1 (0 : Int32)))), .unset, .unset] [(.int (1 : Int32)), (.int t1)])) _
      refine XS.iload X32.here hx rfl (hb hby at_140) rfl ?_
      show Steps p.tables e below (T32.setTop (mkF m 142 #[.val (.int p0), .val (.int p1), .val (.int p2), .val (.int p3), .val (.int p4), .val (.int ba), .val (.int bb), .val (.int (1 : Int32)), .val (.ref b17), .val (.int t1), .val (.int t2), .val (.ref b23), .val (.int (own_z (own_st [ba] t1 (0 : Int32)))), .val (.int (own_st [ba] t1 (0 : Int32))), .val (.int (own_z (own_st [ba] t2 (own_st [ba] t1 (0 : Int32))))), .val (.int (own_st [ba] t2 (own_st [ba] t1 (0 : Int32)))), .unset, .unset] [(.int ba), (.int (1 : Int32)), (.int t1)])) _
      refine XS.iload X32.here hx rfl (hb hby at_142) rfl ?_
      show Steps p.tables e below (T32.setTop (mkF m 144 #[.val (.int p0), .val (.int p1), .val (.int p2), .val (.int p3), .val (.int p4), .val (.int ba), .val (.int bb), .val (.int (1 : Int32)), .val (.ref b17), .val (.int t1), .val (.int t2), .val (.ref b23), .val (.int (own_z (own_st [ba] t1 (0 : Int32)))), .val (.int (own_st [ba] t1 (0 : Int32))), .val (.int (own_z (own_st [ba] t2 (own_st [ba] t1 (0 : Int32))))), .val (.int (own_st [ba] t2 (own_st [ba] t1 (0 : Int32)))), .unset, .unset] [(.int bb), (.int ba), (.int (1 : Int32)), (.int t1)])) _
      refine st33 _ ?_
      exact k
    obtain ⟨e16, hm17, pre17⟩ : ∃ (e16 : Int32), (e16 = (own_st [ba] t1 (0 : Int32))) ∧ ∀ t, Steps p.tables e below (T33.setTop (mkF m 156 #[.val (.int p0), .val (.int p1), .val (.int p2), .val (.int p3), .val (.int p4), .val (.int ba), .val (.int bb), .val (.int (1 : Int32)), .val (.ref b17), .val (.int t1), .val (.int t2), .val (.ref b23), .val (.int (own_z (own_st [ba] t1 (0 : Int32)))), .val (.int (own_st [ba] t1 (0 : Int32))), .val (.int (own_z (own_st [ba] t2 (own_st [ba] t1 (0 : Int32))))), .val (.int (own_st [ba] t2 (own_st [ba] t1 (0 : Int32)))), .unset, .unset] [(.int e16)])) t → Steps p.tables e below (s₁.setTop (entryFrame m #[(.int p0), (.int p1), (.int p2), (.int p3), (.int p4)] maxLocals)) t := by
      by_cases c147 : own_in t1 (1 : Int32) ba bb = 0
      · refine ⟨((0 : Int32)), (by rw [← own_l1 t1 ba bb, if_pos c147]), fun t k => pre16 t ?_⟩
        show Steps p.tables e below (T33.setTop (mkF m 147 #[.val (.int p0), .val (.int p1), .val (.int p2), .val (.int p3), .val (.int p4), .val (.int ba), .val (.int bb), .val (.int (1 : Int32)), .val (.ref b17), .val (.int t1), .val (.int t2), .val (.ref b23), .val (.int (own_z (own_st [ba] t1 (0 : Int32)))), .val (.int (own_st [ba] t1 (0 : Int32))), .val (.int (own_z (own_st [ba] t2 (own_st [ba] t1 (0 : Int32))))), .val (.int (own_st [ba] t2 (own_st [ba] t1 (0 : Int32)))), .unset, .unset] [(.int (own_in t1 (1 : Int32) ba bb))])) _
        refine XS.ifYes X33.here hx rfl (pc0 := 147) (pc' := 155) rfl (hb hby at_147) rfl ((if0 _ _).trans (teq c147).1) (by decide) (by decide) ?_
        show Steps p.tables e below (T33.setTop (mkF m 155 #[.val (.int p0), .val (.int p1), .val (.int p2), .val (.int p3), .val (.int p4), .val (.int ba), .val (.int bb), .val (.int (1 : Int32)), .val (.ref b17), .val (.int t1), .val (.int t2), .val (.ref b23), .val (.int (own_z (own_st [ba] t1 (0 : Int32)))), .val (.int (own_st [ba] t1 (0 : Int32))), .val (.int (own_z (own_st [ba] t2 (own_st [ba] t1 (0 : Int32))))), .val (.int (own_st [ba] t2 (own_st [ba] t1 (0 : Int32)))), .unset, .unset] [])) _
        refine XS.iconst X33.here hx rfl (hb hby at_155) ?_
        exact k
      · refine ⟨(t1), (by rw [← own_l1 t1 ba bb, if_neg c147]), fun t k => pre16 t ?_⟩
        show Steps p.tables e below (T33.setTop (mkF m 147 #[.val (.int p0), .val (.int p1), .val (.int p2), .val (.int p3), .val (.int p4), .val (.int ba), .val (.int bb), .val (.int (1 : Int32)), .val (.ref b17), .val (.int t1), .val (.int t2), .val (.ref b23), .val (.int (own_z (own_st [ba] t1 (0 : Int32)))), .val (.int (own_st [ba] t1 (0 : Int32))), .val (.int (own_z (own_st [ba] t2 (own_st [ba] t1 (0 : Int32))))), .val (.int (own_st [ba] t2 (own_st [ba] t1 (0 : Int32)))), .unset, .unset] [(.int (own_in t1 (1 : Int32) ba bb))])) _
        refine XS.ifNo X33.here hx rfl (hb hby at_147) rfl ((if0 _ _).trans (feq c147).1) ?_
        show Steps p.tables e below (T33.setTop (mkF m 150 #[.val (.int p0), .val (.int p1), .val (.int p2), .val (.int p3), .val (.int p4), .val (.int ba), .val (.int bb), .val (.int (1 : Int32)), .val (.ref b17), .val (.int t1), .val (.int t2), .val (.ref b23), .val (.int (own_z (own_st [ba] t1 (0 : Int32)))), .val (.int (own_st [ba] t1 (0 : Int32))), .val (.int (own_z (own_st [ba] t2 (own_st [ba] t1 (0 : Int32))))), .val (.int (own_st [ba] t2 (own_st [ba] t1 (0 : Int32)))), .unset, .unset] [])) _
        refine XS.iload X33.here hx rfl (hb hby at_150) rfl ?_
        show Steps p.tables e below (T33.setTop (mkF m 152 #[.val (.int p0), .val (.int p1), .val (.int p2), .val (.int p3), .val (.int p4), .val (.int ba), .val (.int bb), .val (.int (1 : Int32)), .val (.ref b17), .val (.int t1), .val (.int t2), .val (.ref b23), .val (.int (own_z (own_st [ba] t1 (0 : Int32)))), .val (.int (own_st [ba] t1 (0 : Int32))), .val (.int (own_z (own_st [ba] t2 (own_st [ba] t1 (0 : Int32))))), .val (.int (own_st [ba] t2 (own_st [ba] t1 (0 : Int32)))), .unset, .unset] [(.int t1)])) _
        refine XS.goto X33.here hx rfl (pc0 := 152) (pc' := 156) rfl (hb hby at_152) (by decide) (by decide) ?_
        exact k
    subst hm17
    obtain ⟨_, _, ⟨T34, L34, k34, n34⟩, -, X34, ⟨Lc34, hQ34, l34, y34, z34⟩, st34⟩ := Jvm.LawKit.callS X33 hx (y := (⟨"com/example/governor/governor/server/StopAtBeginsPinLaw", "inList", "(BIBB)Z"⟩ : MethodName)) hown (mvT hZ (hw _ (List.mem_of_getElem? (i := 28) rfl))) (mvT hZ (hw _ (List.mem_of_getElem? (i := 29) rfl))) (mvT hZ (hw _ (List.mem_of_getElem? (i := 3) rfl))) (mvT hZ (hw _ (List.mem_of_getElem? (i := 30) rfl))) (by decide) (backOf (W := 0) (rm6 l Z a0 hw [] t2 (1 : Int32) ba bb T30.heap n0 Zs31) hZ (hw _ (List.mem_of_getElem? (i := 30) rfl)) (hw _ (List.mem_of_getElem? (i := 3) rfl)) (by decide) (by decide)) (g := (mkF m 166 #[.val (.int p0), .val (.int p1), .val (.int p2), .val (.int p3), .val (.int p4), .val (.int ba), .val (.int bb), .val (.int (1 : Int32)), .val (.ref b17), .val (.int t1), .val (.int t2), .val (.ref b23), .val (.int (own_z (own_st [ba] t1 (0 : Int32)))), .val (.int (own_st [ba] t1 (0 : Int32))), .val (.int (own_z (own_st [ba] t2 (own_st [ba] t1 (0 : Int32))))), .val (.int (own_st [ba] t2 (own_st [ba] t1 (0 : Int32)))), .val (.int (own_st [ba] t1 (0 : Int32))), .unset] [(.int bb), (.int ba), (.int (1 : Int32)), (.int t2)])) rfl (by rw [hml]; rfl) (argsL := [(.int t2), (.int (1 : Int32)), (.int ba), (.int bb)]) (rest := []) (lenOf pd_4 rfl) rfl (by show 2 * 0 + _ ≤ _; exact Nat.le_of_eq rfl) (hb hby at_166) (fun _ _ => ⟨rfl, e33q, (by decide : 2 + 0 ≤ _), (by decide : 3 + 0 ≤ _)⟩)
    dsimp only [Pt.U, Pt.locs, Pt.cells, Pt.slots] at X34 l34 y34 z34 st34 hQ34
    subst l34 y34 z34
    obtain ⟨rfl, N34q, e34q⟩ := hQ34
    have N34 := Fr.app N33 N34q
    have pre18 : ∀ t, Steps p.tables e below (T34.setTop (mkF m 169 #[.val (.int p0), .val (.int p1), .val (.int p2), .val (.int p3), .val (.int p4), .val (.int ba), .val (.int bb), .val (.int (1 : Int32)), .val (.ref b17), .val (.int t1), .val (.int t2), .val (.ref b23), .val (.int (own_z (own_st [ba] t1 (0 : Int32)))), .val (.int (own_st [ba] t1 (0 : Int32))), .val (.int (own_z (own_st [ba] t2 (own_st [ba] t1 (0 : Int32))))), .val (.int (own_st [ba] t2 (own_st [ba] t1 (0 : Int32)))), .val (.int (own_st [ba] t1 (0 : Int32))), .unset] [(.int (own_in t2 (1 : Int32) ba bb))])) t → Steps p.tables e below (s₁.setTop (entryFrame m #[(.int p0), (.int p1), (.int p2), (.int p3), (.int p4)] maxLocals)) t := by
      intro t k
      refine pre17 t ?_
      show Steps p.tables e below (T33.setTop (mkF m 156 #[.val (.int p0), .val (.int p1), .val (.int p2), .val (.int p3), .val (.int p4), .val (.int ba), .val (.int bb), .val (.int (1 : Int32)), .val (.ref b17), .val (.int t1), .val (.int t2), .val (.ref b23), .val (.int (own_z (own_st [ba] t1 (0 : Int32)))), .val (.int (own_st [ba] t1 (0 : Int32))), .val (.int (own_z (own_st [ba] t2 (own_st [ba] t1 (0 : Int32))))), .val (.int (own_st [ba] t2 (own_st [ba] t1 (0 : Int32)))), .unset, .unset] [(.int (own_st [ba] t1 (0 : Int32)))])) _
      refine XS.istore X33.here hx rfl (hb hby at_156) rfl (l' := #[.val (.int p0), .val (.int p1), .val (.int p2), .val (.int p3), .val (.int p4), .val (.int ba), .val (.int bb), .val (.int (1 : Int32)), .val (.ref b17), .val (.int t1), .val (.int t2), .val (.ref b23), .val (.int (own_z (own_st [ba] t1 (0 : Int32)))), .val (.int (own_st [ba] t1 (0 : Int32))), .val (.int (own_z (own_st [ba] t2 (own_st [ba] t1 (0 : Int32))))), .val (.int (own_st [ba] t2 (own_st [ba] t1 (0 : Int32)))), .val (.int (own_st [ba] t1 (0 : Int32))), .unset]) rfl ?_
      show Steps p.tables e below (T33.setTop (mkF m 158 #[.val (.int p0), .val (.int p1), .val (.int p2), .val (.int p3), .val (.int p4), .val (.int ba), .val (.int bb), .val (.int (1 : Int32)), .val (.ref b17), .val (.int t1), .val (.int t2), .val (.ref b23), .val (.int (own_z (own_st [ba] t1 (0 : Int32)))), .val (.int (own_st [ba] t1 (0 : Int32))), .val (.int (own_z (own_st [ba] t2 (own_st [ba] t1 (0 : Int32))))), .val (.int (own_st [ba] t2 (own_st [ba] t1 (0 : Int32)))), .val (.int (own_st [ba] t1 (0 : Int32))), .unset] [])) _
      refine XS.iload X33.here hx rfl (hb hby at_158) rfl ?_
      show Steps p.tables e below (T33.setTop (mkF m 160 #[.val (.int p0), .val (.int p1), .val (.int p2), .val (.int p3), .val (.int p4), .val (.int ba), .val (.int bb), .val (.int (1 : Int32)), .val (.ref b17), .val (.int t1), .val (.int t2), .val (.ref b23), .val (.int (own_z (own_st [ba] t1 (0 : Int32)))), .val (.int (own_st [ba] t1 (0 : Int32))), .val (.int (own_z (own_st [ba] t2 (own_st [ba] t1 (0 : Int32))))), .val (.int (own_st [ba] t2 (own_st [ba] t1 (0 : Int32)))), .val (.int (own_st [ba] t1 (0 : Int32))), .unset] [(.int t2)])) _
      refine XS.iload X33.here hx rfl (hb hby at_160) rfl ?_
      show Steps p.tables e below (T33.setTop (mkF m 162 #[.val (.int p0), .val (.int p1), .val (.int p2), .val (.int p3), .val (.int p4), .val (.int ba), .val (.int bb), .val (.int (1 : Int32)), .val (.ref b17), .val (.int t1), .val (.int t2), .val (.ref b23), .val (.int (own_z (own_st [ba] t1 (0 : Int32)))), .val (.int (own_st [ba] t1 (0 : Int32))), .val (.int (own_z (own_st [ba] t2 (own_st [ba] t1 (0 : Int32))))), .val (.int (own_st [ba] t2 (own_st [ba] t1 (0 : Int32)))), .val (.int (own_st [ba] t1 (0 : Int32))), .unset] [(.int (1 : Int32)), (.int t2)])) _
      refine XS.iload X33.here hx rfl (hb hby at_162) rfl ?_
      show Steps p.tables e below (T33.setTop (mkF m 164 #[.val (.int p0), .val (.int p1), .val (.int p2), .val (.int p3), .val (.int p4), .val (.int ba), .val (.int bb), .val (.int (1 : Int32)), .val (.ref b17), .val (.int t1), .val (.int t2), .val (.ref b23), .val (.int (own_z (own_st [ba] t1 (0 : Int32)))), .val (.int (own_st [ba] t1 (0 : Int32))), .val (.int (own_z (own_st [ba] t2 (own_st [ba] t1 (0 : Int32))))), .val (.int (own_st [ba] t2 (own_st [ba] t1 (0 : Int32)))), .val (.int (own_st [ba] t1 (0 : Int32))), .unset] [(.int ba), (.int (1 : Int32)), (.int t2)])) _
      refine XS.iload X33.here hx rfl (hb hby at_164) rfl ?_
      show Steps p.tables e below (T33.setTop (mkF m 166 #[.val (.int p0), .val (.int p1), .val (.int p2), .val (.int p3), .val (.int p4), .val (.int ba), .val (.int bb), .val (.int (1 : Int32)), .val (.ref b17), .val (.int t1), .val (.int t2), .val (.ref b23), .val (.int (own_z (own_st [ba] t1 (0 : Int32)))), .val (.int (own_st [ba] t1 (0 : Int32))), .val (.int (own_z (own_st [ba] t2 (own_st [ba] t1 (0 : Int32))))), .val (.int (own_st [ba] t2 (own_st [ba] t1 (0 : Int32)))), .val (.int (own_st [ba] t1 (0 : Int32))), .unset] [(.int bb), (.int ba), (.int (1 : Int32)), (.int t2)])) _
      refine st34 _ ?_
      exact k
    obtain ⟨e17, hm19, pre19⟩ : ∃ (e17 : Int32), (e17 = (own_st [ba] t2 (own_st [ba] t1 (0 : Int32)))) ∧ ∀ t, Steps p.tables e below (T34.setTop (mkF m 179 #[.val (.int p0), .val (.int p1), .val (.int p2), .val (.int p3), .val (.int p4), .val (.int ba), .val (.int bb), .val (.int (1 : Int32)), .val (.ref b17), .val (.int t1), .val (.int t2), .val (.ref b23), .val (.int (own_z (own_st [ba] t1 (0 : Int32)))), .val (.int (own_st [ba] t1 (0 : Int32))), .val (.int (own_z (own_st [ba] t2 (own_st [ba] t1 (0 : Int32))))), .val (.int (own_st [ba] t2 (own_st [ba] t1 (0 : Int32)))), .val (.int (own_st [ba] t1 (0 : Int32))), .unset] [(.int e17)])) t → Steps p.tables e below (s₁.setTop (entryFrame m #[(.int p0), (.int p1), (.int p2), (.int p3), (.int p4)] maxLocals)) t := by
      by_cases c169 : own_in t2 (1 : Int32) ba bb = 0
      · refine ⟨((own_st [ba] t1 (0 : Int32))), (by rw [← own_l1 t2 ba bb, if_pos c169]), fun t k => pre18 t ?_⟩
        show Steps p.tables e below (T34.setTop (mkF m 169 #[.val (.int p0), .val (.int p1), .val (.int p2), .val (.int p3), .val (.int p4), .val (.int ba), .val (.int bb), .val (.int (1 : Int32)), .val (.ref b17), .val (.int t1), .val (.int t2), .val (.ref b23), .val (.int (own_z (own_st [ba] t1 (0 : Int32)))), .val (.int (own_st [ba] t1 (0 : Int32))), .val (.int (own_z (own_st [ba] t2 (own_st [ba] t1 (0 : Int32))))), .val (.int (own_st [ba] t2 (own_st [ba] t1 (0 : Int32)))), .val (.int (own_st [ba] t1 (0 : Int32))), .unset] [(.int (own_in t2 (1 : Int32) ba bb))])) _
        refine XS.ifYes X34.here hx rfl (pc0 := 169) (pc' := 177) rfl (hb hby at_169) rfl ((if0 _ _).trans (teq c169).1) (by decide) (by decide) ?_
        show Steps p.tables e below (T34.setTop (mkF m 177 #[.val (.int p0), .val (.int p1), .val (.int p2), .val (.int p3), .val (.int p4), .val (.int ba), .val (.int bb), .val (.int (1 : Int32)), .val (.ref b17), .val (.int t1), .val (.int t2), .val (.ref b23), .val (.int (own_z (own_st [ba] t1 (0 : Int32)))), .val (.int (own_st [ba] t1 (0 : Int32))), .val (.int (own_z (own_st [ba] t2 (own_st [ba] t1 (0 : Int32))))), .val (.int (own_st [ba] t2 (own_st [ba] t1 (0 : Int32)))), .val (.int (own_st [ba] t1 (0 : Int32))), .unset] [])) _
        refine XS.iload X34.here hx rfl (hb hby at_177) rfl ?_
        exact k
      · refine ⟨(t2), (by rw [← own_l1 t2 ba bb, if_neg c169]), fun t k => pre18 t ?_⟩
        show Steps p.tables e below (T34.setTop (mkF m 169 #[.val (.int p0), .val (.int p1), .val (.int p2), .val (.int p3), .val (.int p4), .val (.int ba), .val (.int bb), .val (.int (1 : Int32)), .val (.ref b17), .val (.int t1), .val (.int t2), .val (.ref b23), .val (.int (own_z (own_st [ba] t1 (0 : Int32)))), .val (.int (own_st [ba] t1 (0 : Int32))), .val (.int (own_z (own_st [ba] t2 (own_st [ba] t1 (0 : Int32))))), .val (.int (own_st [ba] t2 (own_st [ba] t1 (0 : Int32)))), .val (.int (own_st [ba] t1 (0 : Int32))), .unset] [(.int (own_in t2 (1 : Int32) ba bb))])) _
        refine XS.ifNo X34.here hx rfl (hb hby at_169) rfl ((if0 _ _).trans (feq c169).1) ?_
        show Steps p.tables e below (T34.setTop (mkF m 172 #[.val (.int p0), .val (.int p1), .val (.int p2), .val (.int p3), .val (.int p4), .val (.int ba), .val (.int bb), .val (.int (1 : Int32)), .val (.ref b17), .val (.int t1), .val (.int t2), .val (.ref b23), .val (.int (own_z (own_st [ba] t1 (0 : Int32)))), .val (.int (own_st [ba] t1 (0 : Int32))), .val (.int (own_z (own_st [ba] t2 (own_st [ba] t1 (0 : Int32))))), .val (.int (own_st [ba] t2 (own_st [ba] t1 (0 : Int32)))), .val (.int (own_st [ba] t1 (0 : Int32))), .unset] [])) _
        refine XS.iload X34.here hx rfl (hb hby at_172) rfl ?_
        show Steps p.tables e below (T34.setTop (mkF m 174 #[.val (.int p0), .val (.int p1), .val (.int p2), .val (.int p3), .val (.int p4), .val (.int ba), .val (.int bb), .val (.int (1 : Int32)), .val (.ref b17), .val (.int t1), .val (.int t2), .val (.ref b23), .val (.int (own_z (own_st [ba] t1 (0 : Int32)))), .val (.int (own_st [ba] t1 (0 : Int32))), .val (.int (own_z (own_st [ba] t2 (own_st [ba] t1 (0 : Int32))))), .val (.int (own_st [ba] t2 (own_st [ba] t1 (0 : Int32)))), .val (.int (own_st [ba] t1 (0 : Int32))), .unset] [(.int t2)])) _
        refine XS.goto X34.here hx rfl (pc0 := 174) (pc' := 179) rfl (hb hby at_174) (by decide) (by decide) ?_
        exact k
    subst hm19
    have pre20 : ∀ t, Steps p.tables e below (T34.setTop (mkF m 185 #[.val (.int p0), .val (.int p1), .val (.int p2), .val (.int p3), .val (.int p4), .val (.int ba), .val (.int bb), .val (.int (1 : Int32)), .val (.ref b17), .val (.int t1), .val (.int t2), .val (.ref b23), .val (.int (own_z (own_st [ba] t1 (0 : Int32)))), .val (.int (own_st [ba] t1 (0 : Int32))), .val (.int (own_z (own_st [ba] t2 (own_st [ba] t1 (0 : Int32))))), .val (.int (own_st [ba] t2 (own_st [ba] t1 (0 : Int32)))), .val (.int (own_st [ba] t1 (0 : Int32))), .val (.int (own_st [ba] t2 (own_st [ba] t1 (0 : Int32))))] [(.int (own_st [ba] t1 (0 : Int32))), (.int (own_z (own_st [ba] t1 (0 : Int32))))])) t → Steps p.tables e below (s₁.setTop (entryFrame m #[(.int p0), (.int p1), (.int p2), (.int p3), (.int p4)] maxLocals)) t := by
      intro t k
      refine pre19 t ?_
      show Steps p.tables e below (T34.setTop (mkF m 179 #[.val (.int p0), .val (.int p1), .val (.int p2), .val (.int p3), .val (.int p4), .val (.int ba), .val (.int bb), .val (.int (1 : Int32)), .val (.ref b17), .val (.int t1), .val (.int t2), .val (.ref b23), .val (.int (own_z (own_st [ba] t1 (0 : Int32)))), .val (.int (own_st [ba] t1 (0 : Int32))), .val (.int (own_z (own_st [ba] t2 (own_st [ba] t1 (0 : Int32))))), .val (.int (own_st [ba] t2 (own_st [ba] t1 (0 : Int32)))), .val (.int (own_st [ba] t1 (0 : Int32))), .unset] [(.int (own_st [ba] t2 (own_st [ba] t1 (0 : Int32))))])) _
      refine XS.istore X34.here hx rfl (hb hby at_179) rfl (l' := #[.val (.int p0), .val (.int p1), .val (.int p2), .val (.int p3), .val (.int p4), .val (.int ba), .val (.int bb), .val (.int (1 : Int32)), .val (.ref b17), .val (.int t1), .val (.int t2), .val (.ref b23), .val (.int (own_z (own_st [ba] t1 (0 : Int32)))), .val (.int (own_st [ba] t1 (0 : Int32))), .val (.int (own_z (own_st [ba] t2 (own_st [ba] t1 (0 : Int32))))), .val (.int (own_st [ba] t2 (own_st [ba] t1 (0 : Int32)))), .val (.int (own_st [ba] t1 (0 : Int32))), .val (.int (own_st [ba] t2 (own_st [ba] t1 (0 : Int32))))]) rfl ?_
      show Steps p.tables e below (T34.setTop (mkF m 181 #[.val (.int p0), .val (.int p1), .val (.int p2), .val (.int p3), .val (.int p4), .val (.int ba), .val (.int bb), .val (.int (1 : Int32)), .val (.ref b17), .val (.int t1), .val (.int t2), .val (.ref b23), .val (.int (own_z (own_st [ba] t1 (0 : Int32)))), .val (.int (own_st [ba] t1 (0 : Int32))), .val (.int (own_z (own_st [ba] t2 (own_st [ba] t1 (0 : Int32))))), .val (.int (own_st [ba] t2 (own_st [ba] t1 (0 : Int32)))), .val (.int (own_st [ba] t1 (0 : Int32))), .val (.int (own_st [ba] t2 (own_st [ba] t1 (0 : Int32))))] [])) _
      refine XS.iload X34.here hx rfl (hb hby at_181) rfl ?_
      show Steps p.tables e below (T34.setTop (mkF m 183 #[.val (.int p0), .val (.int p1), .val (.int p2), .val (.int p3), .val (.int p4), .val (.int ba), .val (.int bb), .val (.int (1 : Int32)), .val (.ref b17), .val (.int t1), .val (.int t2), .val (.ref b23), .val (.int (own_z (own_st [ba] t1 (0 : Int32)))), .val (.int (own_st [ba] t1 (0 : Int32))), .val (.int (own_z (own_st [ba] t2 (own_st [ba] t1 (0 : Int32))))), .val (.int (own_st [ba] t2 (own_st [ba] t1 (0 : Int32)))), .val (.int (own_st [ba] t1 (0 : Int32))), .val (.int (own_st [ba] t2 (own_st [ba] t1 (0 : Int32))))] [(.int (own_z (own_st [ba] t1 (0 : Int32))))])) _
      refine XS.iload X34.here hx rfl (hb hby at_183) rfl ?_
      exact k
    obtain ⟨z1, hm21, pre21⟩ : ∃ (z1 : Int32), (z1 = own_z (own_st [ba] t1 (0 : Int32))) ∧ ∀ t, Steps p.tables e below (T34.setTop (mkF m 193 #[.val (.int p0), .val (.int p1), .val (.int p2), .val (.int p3), .val (.int p4), .val (.int ba), .val (.int bb), .val (.int (1 : Int32)), .val (.ref b17), .val (.int t1), .val (.int t2), .val (.ref b23), .val (.int (own_z (own_st [ba] t1 (0 : Int32)))), .val (.int (own_st [ba] t1 (0 : Int32))), .val (.int (own_z (own_st [ba] t2 (own_st [ba] t1 (0 : Int32))))), .val (.int (own_st [ba] t2 (own_st [ba] t1 (0 : Int32)))), .val (.int (own_st [ba] t1 (0 : Int32))), .val (.int (own_st [ba] t2 (own_st [ba] t1 (0 : Int32))))] [(.int z1), (.int (own_z (own_st [ba] t1 (0 : Int32))))])) t → Steps p.tables e below (s₁.setTop (entryFrame m #[(.int p0), (.int p1), (.int p2), (.int p3), (.int p4)] maxLocals)) t := by
      by_cases c185 : (own_st [ba] t1 (0 : Int32)) = 0
      · refine ⟨((1 : Int32)), (by unfold own_z; rw [if_pos c185]), fun t k => pre20 t ?_⟩
        show Steps p.tables e below (T34.setTop (mkF m 185 #[.val (.int p0), .val (.int p1), .val (.int p2), .val (.int p3), .val (.int p4), .val (.int ba), .val (.int bb), .val (.int (1 : Int32)), .val (.ref b17), .val (.int t1), .val (.int t2), .val (.ref b23), .val (.int (own_z (own_st [ba] t1 (0 : Int32)))), .val (.int (own_st [ba] t1 (0 : Int32))), .val (.int (own_z (own_st [ba] t2 (own_st [ba] t1 (0 : Int32))))), .val (.int (own_st [ba] t2 (own_st [ba] t1 (0 : Int32)))), .val (.int (own_st [ba] t1 (0 : Int32))), .val (.int (own_st [ba] t2 (own_st [ba] t1 (0 : Int32))))] [(.int (own_st [ba] t1 (0 : Int32))), (.int (own_z (own_st [ba] t1 (0 : Int32))))])) _
        refine XS.ifNo X34.here hx rfl (hb hby at_185) rfl ((if0 _ _).trans (teq c185).2) ?_
        show Steps p.tables e below (T34.setTop (mkF m 188 #[.val (.int p0), .val (.int p1), .val (.int p2), .val (.int p3), .val (.int p4), .val (.int ba), .val (.int bb), .val (.int (1 : Int32)), .val (.ref b17), .val (.int t1), .val (.int t2), .val (.ref b23), .val (.int (own_z (own_st [ba] t1 (0 : Int32)))), .val (.int (own_st [ba] t1 (0 : Int32))), .val (.int (own_z (own_st [ba] t2 (own_st [ba] t1 (0 : Int32))))), .val (.int (own_st [ba] t2 (own_st [ba] t1 (0 : Int32)))), .val (.int (own_st [ba] t1 (0 : Int32))), .val (.int (own_st [ba] t2 (own_st [ba] t1 (0 : Int32))))] [(.int (own_z (own_st [ba] t1 (0 : Int32))))])) _
        refine XS.iconst X34.here hx rfl (hb hby at_188) ?_
        show Steps p.tables e below (T34.setTop (mkF m 189 #[.val (.int p0), .val (.int p1), .val (.int p2), .val (.int p3), .val (.int p4), .val (.int ba), .val (.int bb), .val (.int (1 : Int32)), .val (.ref b17), .val (.int t1), .val (.int t2), .val (.ref b23), .val (.int (own_z (own_st [ba] t1 (0 : Int32)))), .val (.int (own_st [ba] t1 (0 : Int32))), .val (.int (own_z (own_st [ba] t2 (own_st [ba] t1 (0 : Int32))))), .val (.int (own_st [ba] t2 (own_st [ba] t1 (0 : Int32)))), .val (.int (own_st [ba] t1 (0 : Int32))), .val (.int (own_st [ba] t2 (own_st [ba] t1 (0 : Int32))))] [(.int (1 : Int32)), (.int (own_z (own_st [ba] t1 (0 : Int32))))])) _
        refine XS.goto X34.here hx rfl (pc0 := 189) (pc' := 193) rfl (hb hby at_189) (by decide) (by decide) ?_
        exact k
      · refine ⟨((0 : Int32)), (by unfold own_z; rw [if_neg c185]), fun t k => pre20 t ?_⟩
        show Steps p.tables e below (T34.setTop (mkF m 185 #[.val (.int p0), .val (.int p1), .val (.int p2), .val (.int p3), .val (.int p4), .val (.int ba), .val (.int bb), .val (.int (1 : Int32)), .val (.ref b17), .val (.int t1), .val (.int t2), .val (.ref b23), .val (.int (own_z (own_st [ba] t1 (0 : Int32)))), .val (.int (own_st [ba] t1 (0 : Int32))), .val (.int (own_z (own_st [ba] t2 (own_st [ba] t1 (0 : Int32))))), .val (.int (own_st [ba] t2 (own_st [ba] t1 (0 : Int32)))), .val (.int (own_st [ba] t1 (0 : Int32))), .val (.int (own_st [ba] t2 (own_st [ba] t1 (0 : Int32))))] [(.int (own_st [ba] t1 (0 : Int32))), (.int (own_z (own_st [ba] t1 (0 : Int32))))])) _
        refine XS.ifYes X34.here hx rfl (pc0 := 185) (pc' := 192) rfl (hb hby at_185) rfl ((if0 _ _).trans (feq c185).2) (by decide) (by decide) ?_
        show Steps p.tables e below (T34.setTop (mkF m 192 #[.val (.int p0), .val (.int p1), .val (.int p2), .val (.int p3), .val (.int p4), .val (.int ba), .val (.int bb), .val (.int (1 : Int32)), .val (.ref b17), .val (.int t1), .val (.int t2), .val (.ref b23), .val (.int (own_z (own_st [ba] t1 (0 : Int32)))), .val (.int (own_st [ba] t1 (0 : Int32))), .val (.int (own_z (own_st [ba] t2 (own_st [ba] t1 (0 : Int32))))), .val (.int (own_st [ba] t2 (own_st [ba] t1 (0 : Int32)))), .val (.int (own_st [ba] t1 (0 : Int32))), .val (.int (own_st [ba] t2 (own_st [ba] t1 (0 : Int32))))] [(.int (own_z (own_st [ba] t1 (0 : Int32))))])) _
        refine XS.iconst X34.here hx rfl (hb hby at_192) ?_
        exact k
    subst hm21
    have pre22 : ∀ t, Steps p.tables e below (T34.setTop (mkF m 207 #[.val (.int p0), .val (.int p1), .val (.int p2), .val (.int p3), .val (.int p4), .val (.int ba), .val (.int bb), .val (.int (1 : Int32)), .val (.ref b17), .val (.int t1), .val (.int t2), .val (.ref b23), .val (.int (own_z (own_st [ba] t1 (0 : Int32)))), .val (.int (own_st [ba] t1 (0 : Int32))), .val (.int (own_z (own_st [ba] t2 (own_st [ba] t1 (0 : Int32))))), .val (.int (own_st [ba] t2 (own_st [ba] t1 (0 : Int32)))), .val (.int (own_st [ba] t1 (0 : Int32))), .val (.int (own_st [ba] t2 (own_st [ba] t1 (0 : Int32))))] [(.int (own_st [ba] t2 (own_st [ba] t1 (0 : Int32)))), (.int (own_z (own_st [ba] t2 (own_st [ba] t1 (0 : Int32)))))])) t → Steps p.tables e below (s₁.setTop (entryFrame m #[(.int p0), (.int p1), (.int p2), (.int p3), (.int p4)] maxLocals)) t := by
      intro t k
      refine pre21 t ?_
      show Steps p.tables e below (T34.setTop (mkF m 193 #[.val (.int p0), .val (.int p1), .val (.int p2), .val (.int p3), .val (.int p4), .val (.int ba), .val (.int bb), .val (.int (1 : Int32)), .val (.ref b17), .val (.int t1), .val (.int t2), .val (.ref b23), .val (.int (own_z (own_st [ba] t1 (0 : Int32)))), .val (.int (own_st [ba] t1 (0 : Int32))), .val (.int (own_z (own_st [ba] t2 (own_st [ba] t1 (0 : Int32))))), .val (.int (own_st [ba] t2 (own_st [ba] t1 (0 : Int32)))), .val (.int (own_st [ba] t1 (0 : Int32))), .val (.int (own_st [ba] t2 (own_st [ba] t1 (0 : Int32))))] [(.int (own_z (own_st [ba] t1 (0 : Int32)))), (.int (own_z (own_st [ba] t1 (0 : Int32))))])) _
      refine XS.icmpNo X34.here hx rfl (hb hby at_193) rfl (teq (rfl : own_z (own_st [ba] t1 (0 : Int32)) = own_z (own_st [ba] t1 (0 : Int32)))).2 ?_
      show Steps p.tables e below (T34.setTop (mkF m 196 #[.val (.int p0), .val (.int p1), .val (.int p2), .val (.int p3), .val (.int p4), .val (.int ba), .val (.int bb), .val (.int (1 : Int32)), .val (.ref b17), .val (.int t1), .val (.int t2), .val (.ref b23), .val (.int (own_z (own_st [ba] t1 (0 : Int32)))), .val (.int (own_st [ba] t1 (0 : Int32))), .val (.int (own_z (own_st [ba] t2 (own_st [ba] t1 (0 : Int32))))), .val (.int (own_st [ba] t2 (own_st [ba] t1 (0 : Int32)))), .val (.int (own_st [ba] t1 (0 : Int32))), .val (.int (own_st [ba] t2 (own_st [ba] t1 (0 : Int32))))] [])) _
      refine XS.iload X34.here hx rfl (hb hby at_196) rfl ?_
      show Steps p.tables e below (T34.setTop (mkF m 198 #[.val (.int p0), .val (.int p1), .val (.int p2), .val (.int p3), .val (.int p4), .val (.int ba), .val (.int bb), .val (.int (1 : Int32)), .val (.ref b17), .val (.int t1), .val (.int t2), .val (.ref b23), .val (.int (own_z (own_st [ba] t1 (0 : Int32)))), .val (.int (own_st [ba] t1 (0 : Int32))), .val (.int (own_z (own_st [ba] t2 (own_st [ba] t1 (0 : Int32))))), .val (.int (own_st [ba] t2 (own_st [ba] t1 (0 : Int32)))), .val (.int (own_st [ba] t1 (0 : Int32))), .val (.int (own_st [ba] t2 (own_st [ba] t1 (0 : Int32))))] [(.int (own_st [ba] t1 (0 : Int32)))])) _
      refine XS.iload X34.here hx rfl (hb hby at_198) rfl ?_
      show Steps p.tables e below (T34.setTop (mkF m 200 #[.val (.int p0), .val (.int p1), .val (.int p2), .val (.int p3), .val (.int p4), .val (.int ba), .val (.int bb), .val (.int (1 : Int32)), .val (.ref b17), .val (.int t1), .val (.int t2), .val (.ref b23), .val (.int (own_z (own_st [ba] t1 (0 : Int32)))), .val (.int (own_st [ba] t1 (0 : Int32))), .val (.int (own_z (own_st [ba] t2 (own_st [ba] t1 (0 : Int32))))), .val (.int (own_st [ba] t2 (own_st [ba] t1 (0 : Int32)))), .val (.int (own_st [ba] t1 (0 : Int32))), .val (.int (own_st [ba] t2 (own_st [ba] t1 (0 : Int32))))] [(.int (own_st [ba] t1 (0 : Int32))), (.int (own_st [ba] t1 (0 : Int32)))])) _
      refine XS.icmpNo X34.here hx rfl (hb hby at_200) rfl (teq (rfl : (own_st [ba] t1 (0 : Int32)) = (own_st [ba] t1 (0 : Int32)))).2 ?_
      show Steps p.tables e below (T34.setTop (mkF m 203 #[.val (.int p0), .val (.int p1), .val (.int p2), .val (.int p3), .val (.int p4), .val (.int ba), .val (.int bb), .val (.int (1 : Int32)), .val (.ref b17), .val (.int t1), .val (.int t2), .val (.ref b23), .val (.int (own_z (own_st [ba] t1 (0 : Int32)))), .val (.int (own_st [ba] t1 (0 : Int32))), .val (.int (own_z (own_st [ba] t2 (own_st [ba] t1 (0 : Int32))))), .val (.int (own_st [ba] t2 (own_st [ba] t1 (0 : Int32)))), .val (.int (own_st [ba] t1 (0 : Int32))), .val (.int (own_st [ba] t2 (own_st [ba] t1 (0 : Int32))))] [])) _
      refine XS.iload X34.here hx rfl (hb hby at_203) rfl ?_
      show Steps p.tables e below (T34.setTop (mkF m 205 #[.val (.int p0), .val (.int p1), .val (.int p2), .val (.int p3), .val (.int p4), .val (.int ba), .val (.int bb), .val (.int (1 : Int32)), .val (.ref b17), .val (.int t1), .val (.int t2), .val (.ref b23), .val (.int (own_z (own_st [ba] t1 (0 : Int32)))), .val (.int (own_st [ba] t1 (0 : Int32))), .val (.int (own_z (own_st [ba] t2 (own_st [ba] t1 (0 : Int32))))), .val (.int (own_st [ba] t2 (own_st [ba] t1 (0 : Int32)))), .val (.int (own_st [ba] t1 (0 : Int32))), .val (.int (own_st [ba] t2 (own_st [ba] t1 (0 : Int32))))] [(.int (own_z (own_st [ba] t2 (own_st [ba] t1 (0 : Int32)))))])) _
      refine XS.iload X34.here hx rfl (hb hby at_205) rfl ?_
      exact k
    obtain ⟨z2, hm23, pre23⟩ : ∃ (z2 : Int32), (z2 = own_z (own_st [ba] t2 (own_st [ba] t1 (0 : Int32)))) ∧ ∀ t, Steps p.tables e below (T34.setTop (mkF m 215 #[.val (.int p0), .val (.int p1), .val (.int p2), .val (.int p3), .val (.int p4), .val (.int ba), .val (.int bb), .val (.int (1 : Int32)), .val (.ref b17), .val (.int t1), .val (.int t2), .val (.ref b23), .val (.int (own_z (own_st [ba] t1 (0 : Int32)))), .val (.int (own_st [ba] t1 (0 : Int32))), .val (.int (own_z (own_st [ba] t2 (own_st [ba] t1 (0 : Int32))))), .val (.int (own_st [ba] t2 (own_st [ba] t1 (0 : Int32)))), .val (.int (own_st [ba] t1 (0 : Int32))), .val (.int (own_st [ba] t2 (own_st [ba] t1 (0 : Int32))))] [(.int z2), (.int (own_z (own_st [ba] t2 (own_st [ba] t1 (0 : Int32)))))])) t → Steps p.tables e below (s₁.setTop (entryFrame m #[(.int p0), (.int p1), (.int p2), (.int p3), (.int p4)] maxLocals)) t := by
      by_cases c207 : (own_st [ba] t2 (own_st [ba] t1 (0 : Int32))) = 0
      · refine ⟨((1 : Int32)), (by unfold own_z; rw [if_pos c207]), fun t k => pre22 t ?_⟩
        show Steps p.tables e below (T34.setTop (mkF m 207 #[.val (.int p0), .val (.int p1), .val (.int p2), .val (.int p3), .val (.int p4), .val (.int ba), .val (.int bb), .val (.int (1 : Int32)), .val (.ref b17), .val (.int t1), .val (.int t2), .val (.ref b23), .val (.int (own_z (own_st [ba] t1 (0 : Int32)))), .val (.int (own_st [ba] t1 (0 : Int32))), .val (.int (own_z (own_st [ba] t2 (own_st [ba] t1 (0 : Int32))))), .val (.int (own_st [ba] t2 (own_st [ba] t1 (0 : Int32)))), .val (.int (own_st [ba] t1 (0 : Int32))), .val (.int (own_st [ba] t2 (own_st [ba] t1 (0 : Int32))))] [(.int (own_st [ba] t2 (own_st [ba] t1 (0 : Int32)))), (.int (own_z (own_st [ba] t2 (own_st [ba] t1 (0 : Int32)))))])) _
        refine XS.ifNo X34.here hx rfl (hb hby at_207) rfl ((if0 _ _).trans (teq c207).2) ?_
        show Steps p.tables e below (T34.setTop (mkF m 210 #[.val (.int p0), .val (.int p1), .val (.int p2), .val (.int p3), .val (.int p4), .val (.int ba), .val (.int bb), .val (.int (1 : Int32)), .val (.ref b17), .val (.int t1), .val (.int t2), .val (.ref b23), .val (.int (own_z (own_st [ba] t1 (0 : Int32)))), .val (.int (own_st [ba] t1 (0 : Int32))), .val (.int (own_z (own_st [ba] t2 (own_st [ba] t1 (0 : Int32))))), .val (.int (own_st [ba] t2 (own_st [ba] t1 (0 : Int32)))), .val (.int (own_st [ba] t1 (0 : Int32))), .val (.int (own_st [ba] t2 (own_st [ba] t1 (0 : Int32))))] [(.int (own_z (own_st [ba] t2 (own_st [ba] t1 (0 : Int32)))))])) _
        refine XS.iconst X34.here hx rfl (hb hby at_210) ?_
        show Steps p.tables e below (T34.setTop (mkF m 211 #[.val (.int p0), .val (.int p1), .val (.int p2), .val (.int p3), .val (.int p4), .val (.int ba), .val (.int bb), .val (.int (1 : Int32)), .val (.ref b17), .val (.int t1), .val (.int t2), .val (.ref b23), .val (.int (own_z (own_st [ba] t1 (0 : Int32)))), .val (.int (own_st [ba] t1 (0 : Int32))), .val (.int (own_z (own_st [ba] t2 (own_st [ba] t1 (0 : Int32))))), .val (.int (own_st [ba] t2 (own_st [ba] t1 (0 : Int32)))), .val (.int (own_st [ba] t1 (0 : Int32))), .val (.int (own_st [ba] t2 (own_st [ba] t1 (0 : Int32))))] [(.int (1 : Int32)), (.int (own_z (own_st [ba] t2 (own_st [ba] t1 (0 : Int32)))))])) _
        refine XS.goto X34.here hx rfl (pc0 := 211) (pc' := 215) rfl (hb hby at_211) (by decide) (by decide) ?_
        exact k
      · refine ⟨((0 : Int32)), (by unfold own_z; rw [if_neg c207]), fun t k => pre22 t ?_⟩
        show Steps p.tables e below (T34.setTop (mkF m 207 #[.val (.int p0), .val (.int p1), .val (.int p2), .val (.int p3), .val (.int p4), .val (.int ba), .val (.int bb), .val (.int (1 : Int32)), .val (.ref b17), .val (.int t1), .val (.int t2), .val (.ref b23), .val (.int (own_z (own_st [ba] t1 (0 : Int32)))), .val (.int (own_st [ba] t1 (0 : Int32))), .val (.int (own_z (own_st [ba] t2 (own_st [ba] t1 (0 : Int32))))), .val (.int (own_st [ba] t2 (own_st [ba] t1 (0 : Int32)))), .val (.int (own_st [ba] t1 (0 : Int32))), .val (.int (own_st [ba] t2 (own_st [ba] t1 (0 : Int32))))] [(.int (own_st [ba] t2 (own_st [ba] t1 (0 : Int32)))), (.int (own_z (own_st [ba] t2 (own_st [ba] t1 (0 : Int32)))))])) _
        refine XS.ifYes X34.here hx rfl (pc0 := 207) (pc' := 214) rfl (hb hby at_207) rfl ((if0 _ _).trans (feq c207).2) (by decide) (by decide) ?_
        show Steps p.tables e below (T34.setTop (mkF m 214 #[.val (.int p0), .val (.int p1), .val (.int p2), .val (.int p3), .val (.int p4), .val (.int ba), .val (.int bb), .val (.int (1 : Int32)), .val (.ref b17), .val (.int t1), .val (.int t2), .val (.ref b23), .val (.int (own_z (own_st [ba] t1 (0 : Int32)))), .val (.int (own_st [ba] t1 (0 : Int32))), .val (.int (own_z (own_st [ba] t2 (own_st [ba] t1 (0 : Int32))))), .val (.int (own_st [ba] t2 (own_st [ba] t1 (0 : Int32)))), .val (.int (own_st [ba] t1 (0 : Int32))), .val (.int (own_st [ba] t2 (own_st [ba] t1 (0 : Int32))))] [(.int (own_z (own_st [ba] t2 (own_st [ba] t1 (0 : Int32)))))])) _
        refine XS.iconst X34.here hx rfl (hb hby at_214) ?_
        exact k
    subst hm23
    obtain ⟨fs, hr, hrun, hended, hW, hsame⟩ := X34.leave (v := some (.int (1 : Int32))) (fun h => by rw [Bd.returns] at h; cases h)
    refine ⟨_, _, pre23 _ ?_, hrun, hended, _, _, rfl, ?_, ⟨_, rfl⟩, hW, hsame.mono (by decide) (by decide)⟩
    · show Steps p.tables e below (T34.setTop (mkF m 215 #[.val (.int p0), .val (.int p1), .val (.int p2), .val (.int p3), .val (.int p4), .val (.int ba), .val (.int bb), .val (.int (1 : Int32)), .val (.ref b17), .val (.int t1), .val (.int t2), .val (.ref b23), .val (.int (own_z (own_st [ba] t1 (0 : Int32)))), .val (.int (own_st [ba] t1 (0 : Int32))), .val (.int (own_z (own_st [ba] t2 (own_st [ba] t1 (0 : Int32))))), .val (.int (own_st [ba] t2 (own_st [ba] t1 (0 : Int32)))), .val (.int (own_st [ba] t1 (0 : Int32))), .val (.int (own_st [ba] t2 (own_st [ba] t1 (0 : Int32))))] [(.int (own_z (own_st [ba] t2 (own_st [ba] t1 (0 : Int32))))), (.int (own_z (own_st [ba] t2 (own_st [ba] t1 (0 : Int32)))))])) _
      refine XS.icmpNo X34.here hx rfl (hb hby at_215) rfl (teq (rfl : own_z (own_st [ba] t2 (own_st [ba] t1 (0 : Int32))) = own_z (own_st [ba] t2 (own_st [ba] t1 (0 : Int32))))).2 ?_
      show Steps p.tables e below (T34.setTop (mkF m 218 #[.val (.int p0), .val (.int p1), .val (.int p2), .val (.int p3), .val (.int p4), .val (.int ba), .val (.int bb), .val (.int (1 : Int32)), .val (.ref b17), .val (.int t1), .val (.int t2), .val (.ref b23), .val (.int (own_z (own_st [ba] t1 (0 : Int32)))), .val (.int (own_st [ba] t1 (0 : Int32))), .val (.int (own_z (own_st [ba] t2 (own_st [ba] t1 (0 : Int32))))), .val (.int (own_st [ba] t2 (own_st [ba] t1 (0 : Int32)))), .val (.int (own_st [ba] t1 (0 : Int32))), .val (.int (own_st [ba] t2 (own_st [ba] t1 (0 : Int32))))] [])) _
      refine XS.iload X34.here hx rfl (hb hby at_218) rfl ?_
      show Steps p.tables e below (T34.setTop (mkF m 220 #[.val (.int p0), .val (.int p1), .val (.int p2), .val (.int p3), .val (.int p4), .val (.int ba), .val (.int bb), .val (.int (1 : Int32)), .val (.ref b17), .val (.int t1), .val (.int t2), .val (.ref b23), .val (.int (own_z (own_st [ba] t1 (0 : Int32)))), .val (.int (own_st [ba] t1 (0 : Int32))), .val (.int (own_z (own_st [ba] t2 (own_st [ba] t1 (0 : Int32))))), .val (.int (own_st [ba] t2 (own_st [ba] t1 (0 : Int32)))), .val (.int (own_st [ba] t1 (0 : Int32))), .val (.int (own_st [ba] t2 (own_st [ba] t1 (0 : Int32))))] [(.int (own_st [ba] t2 (own_st [ba] t1 (0 : Int32))))])) _
      refine XS.iload X34.here hx rfl (hb hby at_220) rfl ?_
      show Steps p.tables e below (T34.setTop (mkF m 222 #[.val (.int p0), .val (.int p1), .val (.int p2), .val (.int p3), .val (.int p4), .val (.int ba), .val (.int bb), .val (.int (1 : Int32)), .val (.ref b17), .val (.int t1), .val (.int t2), .val (.ref b23), .val (.int (own_z (own_st [ba] t1 (0 : Int32)))), .val (.int (own_st [ba] t1 (0 : Int32))), .val (.int (own_z (own_st [ba] t2 (own_st [ba] t1 (0 : Int32))))), .val (.int (own_st [ba] t2 (own_st [ba] t1 (0 : Int32)))), .val (.int (own_st [ba] t1 (0 : Int32))), .val (.int (own_st [ba] t2 (own_st [ba] t1 (0 : Int32))))] [(.int (own_st [ba] t2 (own_st [ba] t1 (0 : Int32)))), (.int (own_st [ba] t2 (own_st [ba] t1 (0 : Int32))))])) _
      refine XS.icmpNo X34.here hx rfl (hb hby at_222) rfl (teq (rfl : (own_st [ba] t2 (own_st [ba] t1 (0 : Int32))) = (own_st [ba] t2 (own_st [ba] t1 (0 : Int32))))).2 ?_
      show Steps p.tables e below (T34.setTop (mkF m 225 #[.val (.int p0), .val (.int p1), .val (.int p2), .val (.int p3), .val (.int p4), .val (.int ba), .val (.int bb), .val (.int (1 : Int32)), .val (.ref b17), .val (.int t1), .val (.int t2), .val (.ref b23), .val (.int (own_z (own_st [ba] t1 (0 : Int32)))), .val (.int (own_st [ba] t1 (0 : Int32))), .val (.int (own_z (own_st [ba] t2 (own_st [ba] t1 (0 : Int32))))), .val (.int (own_st [ba] t2 (own_st [ba] t1 (0 : Int32)))), .val (.int (own_st [ba] t1 (0 : Int32))), .val (.int (own_st [ba] t2 (own_st [ba] t1 (0 : Int32))))] [])) _
      refine XS.iconst X34.here hx rfl (hb hby at_225) ?_
      show Steps p.tables e below (T34.setTop (mkF m 226 #[.val (.int p0), .val (.int p1), .val (.int p2), .val (.int p3), .val (.int p4), .val (.int ba), .val (.int bb), .val (.int (1 : Int32)), .val (.ref b17), .val (.int t1), .val (.int t2), .val (.ref b23), .val (.int (own_z (own_st [ba] t1 (0 : Int32)))), .val (.int (own_st [ba] t1 (0 : Int32))), .val (.int (own_z (own_st [ba] t2 (own_st [ba] t1 (0 : Int32))))), .val (.int (own_st [ba] t2 (own_st [ba] t1 (0 : Int32)))), .val (.int (own_st [ba] t1 (0 : Int32))), .val (.int (own_st [ba] t2 (own_st [ba] t1 (0 : Int32))))] [(.int (1 : Int32))])) _
      refine XS.goto X34.here hx rfl (pc0 := 226) (pc' := 230) rfl (hb hby at_226) (by decide) (by decide) ?_
      show Steps p.tables e below (T34.setTop (mkF m 230 #[.val (.int p0), .val (.int p1), .val (.int p2), .val (.int p3), .val (.int p4), .val (.int ba), .val (.int bb), .val (.int (1 : Int32)), .val (.ref b17), .val (.int t1), .val (.int t2), .val (.ref b23), .val (.int (own_z (own_st [ba] t1 (0 : Int32)))), .val (.int (own_st [ba] t1 (0 : Int32))), .val (.int (own_z (own_st [ba] t2 (own_st [ba] t1 (0 : Int32))))), .val (.int (own_st [ba] t2 (own_st [ba] t1 (0 : Int32)))), .val (.int (own_st [ba] t1 (0 : Int32))), .val (.int (own_st [ba] t2 (own_st [ba] t1 (0 : Int32))))] [(.int (1 : Int32))])) _
      exact retN X34 hx (t := .boolean) Bd.returns (by simp) (hb hby at_230) hr
    · show Q0 Z p0 p1 p2 p3 p4 h0 n0 _ T34.heap _
      rw [e34q]
      exact ⟨rfl, N34⟩
  · skip
    subst hln
    obtain ⟨T35, h35, k35, X35, e35, E35, A35, st35⟩ := newP X0 hx hZ (hw _ (List.mem_of_getElem? (i := 0) rfl)) e0 (g := (mkF m 49 #[.val (.int p0), .val (.int p1), .val (.int p2), .val (.int p3), .val (.int p4), .val (.int ba), .val (.int bb), .val (.int (2 : Int32)), .unset, .unset, .unset, .unset, .unset, .unset, .unset, .unset, .unset, .unset] [(.int (2 : Int32))])) rfl (hb hby at_49) rfl (by decide) (cap := 2) (by decide) (by decide) (by decide) (by decide)
    obtain ⟨b35, g35⟩ : ∃ z, z = h0.size := ⟨_, rfl⟩
    rw [← g35] at A35 st35
    have g_b35 : n0 ≤ b35 := Nat.le_trans Z0 (Nat.le_of_eq g35.symm)
    have Zs36 := Nat.le_trans Z0 E35.1
    have V_b35 : Arv Z h35 b35 k35 .byte (2 : Int32) [(.int (0 : Int32)), (.int (0 : Int32))] (.int (0 : Int32)) := (Arv.new A35 (by decide)).pad (pad_rep [] (.int (0 : Int32)) 2)
    obtain ⟨cl37, Ar37, q37, S37, N37m, H37, G37⟩ := id V_b35
    have hin37 : ¬ ((0 : Int32) < 0 ∨ cl37.slots.size ≤ ((0 : Int32)).toNatClampNeg) := inb_of S37 ⟨by decide, by decide⟩
    obtain ⟨T37, h37, X37, e37, W37, st37⟩ := stB X35 hx hZ e35 Ar37 (j := (0 : Int32)) hin37 (g := (mkF m 55 #[.val (.int p0), .val (.int p1), .val (.int p2), .val (.int p3), .val (.int p4), .val (.int ba), .val (.int bb), .val (.int (2 : Int32)), .unset, .unset, .unset, .unset, .unset, .unset, .unset, .unset, .unset, .unset] [(.int ba), (.int (0 : Int32)), (.ref b35), (.ref b35)])) rfl rfl (hb hby at_55)
    have V37_b35 : Arv Z h37 b35 k35 .byte (2 : Int32) [(.int (nar .byte ba)), (.int (0 : Int32))] (.int (0 : Int32)) := Arv.set Ar37 q37 S37 N37m H37 G37 (fits_nar_byte _) W37 0 rfl (Nat.le_of_ble_eq_true rfl)
    rw [hba] at V37_b35
    have Zs38 := Nat.le_trans Zs36 (Keep.of_wr W37).1
    have N37 := Fr.snoc X37 N0 g_b35
    obtain ⟨cl39, Ar39, q39, S39, N39m, H39, G39⟩ := id V37_b35
    have hin39 : ¬ ((1 : Int32) < 0 ∨ cl39.slots.size ≤ ((1 : Int32)).toNatClampNeg) := inb_of S39 ⟨by decide, by decide⟩
    obtain ⟨T39, h39, X39, e39, W39, st39⟩ := stB X37 hx hZ e37 Ar39 (j := (1 : Int32)) hin39 (g := (mkF m 60 #[.val (.int p0), .val (.int p1), .val (.int p2), .val (.int p3), .val (.int p4), .val (.int ba), .val (.int bb), .val (.int (2 : Int32)), .unset, .unset, .unset, .unset, .unset, .unset, .unset, .unset, .unset, .unset] [(.int bb), (.int (1 : Int32)), (.ref b35), (.ref b35)])) rfl rfl (hb hby at_60)
    have V39_b35 : Arv Z h39 b35 k35 .byte (2 : Int32) [(.int ba), (.int (nar .byte bb))] (.int (0 : Int32)) := Arv.set Ar39 q39 S39 N39m H39 G39 (fits_nar_byte _) W39 1 rfl (Nat.le_of_ble_eq_true rfl)
    rw [hbb] at V39_b35
    have Zs40 := Nat.le_trans Zs38 (Keep.of_wr W39).1
    have N39 := Fr.snoc X39 N37 g_b35
    have pre24 : ∀ t, Steps p.tables e below (T39.setTop (mkF m 63 #[.val (.int p0), .val (.int p1), .val (.int p2), .val (.int p3), .val (.int p4), .val (.int ba), .val (.int bb), .val (.int (2 : Int32)), .val (.ref b35), .unset, .unset, .unset, .unset, .unset, .unset, .unset, .unset, .unset] [])) t → Steps p.tables e below (s₁.setTop (entryFrame m #[(.int p0), (.int p1), (.int p2), (.int p3), (.int p4)] maxLocals)) t := by
      intro t k
      refine pre1 t ?_
      show Steps p.tables e below (s₁.setTop (mkF m 16 #[.val (.int p0), .val (.int p1), .val (.int p2), .val (.int p3), .val (.int p4), .val (.int ba), .val (.int bb), .val (.int (2 : Int32)), .unset, .unset, .unset, .unset, .unset, .unset, .unset, .unset, .unset, .unset] [])) _
      refine XS.iload X0.here hx rfl (hb hby at_16) rfl ?_
      show Steps p.tables e below (s₁.setTop (mkF m 18 #[.val (.int p0), .val (.int p1), .val (.int p2), .val (.int p3), .val (.int p4), .val (.int ba), .val (.int bb), .val (.int (2 : Int32)), .unset, .unset, .unset, .unset, .unset, .unset, .unset, .unset, .unset, .unset] [(.int (2 : Int32))])) _
      refine XS.ifYes X0.here hx rfl (pc0 := 18) (pc' := 29) rfl (hb hby at_18) rfl ((if0 _ _).trans (feq (by decide : ¬ ((2 : Int32) = (0 : Int32)))).2) (by decide) (by decide) ?_
      show Steps p.tables e below (s₁.setTop (mkF m 29 #[.val (.int p0), .val (.int p1), .val (.int p2), .val (.int p3), .val (.int p4), .val (.int ba), .val (.int bb), .val (.int (2 : Int32)), .unset, .unset, .unset, .unset, .unset, .unset, .unset, .unset, .unset, .unset] [])) _
      refine XS.iload X0.here hx rfl (hb hby at_29) rfl ?_
      show Steps p.tables e below (s₁.setTop (mkF m 31 #[.val (.int p0), .val (.int p1), .val (.int p2), .val (.int p3), .val (.int p4), .val (.int ba), .val (.int bb), .val (.int (2 : Int32)), .unset, .unset, .unset, .unset, .unset, .unset, .unset, .unset, .unset, .unset] [(.int (2 : Int32))])) _
      refine XS.iconst X0.here hx rfl (hb hby at_31) ?_
      show Steps p.tables e below (s₁.setTop (mkF m 32 #[.val (.int p0), .val (.int p1), .val (.int p2), .val (.int p3), .val (.int p4), .val (.int ba), .val (.int bb), .val (.int (2 : Int32)), .unset, .unset, .unset, .unset, .unset, .unset, .unset, .unset, .unset, .unset] [(.int (1 : Int32)), (.int (2 : Int32))])) _
      refine XS.icmpYes X0.here hx rfl (pc0 := 32) (pc' := 48) rfl (hb hby at_32) rfl (feq (by decide : ¬ ((2 : Int32) = (1 : Int32)))).2 (by decide) (by decide) ?_
      show Steps p.tables e below (s₁.setTop (mkF m 48 #[.val (.int p0), .val (.int p1), .val (.int p2), .val (.int p3), .val (.int p4), .val (.int ba), .val (.int bb), .val (.int (2 : Int32)), .unset, .unset, .unset, .unset, .unset, .unset, .unset, .unset, .unset, .unset] [])) _
      refine XS.iconst X0.here hx rfl (hb hby at_48) ?_
      show Steps p.tables e below (s₁.setTop (mkF m 49 #[.val (.int p0), .val (.int p1), .val (.int p2), .val (.int p3), .val (.int p4), .val (.int ba), .val (.int bb), .val (.int (2 : Int32)), .unset, .unset, .unset, .unset, .unset, .unset, .unset, .unset, .unset, .unset] [(.int (2 : Int32))])) _
      refine st35 _ ?_
      show Steps p.tables e below (T35.setTop (mkF m 51 #[.val (.int p0), .val (.int p1), .val (.int p2), .val (.int p3), .val (.int p4), .val (.int ba), .val (.int bb), .val (.int (2 : Int32)), .unset, .unset, .unset, .unset, .unset, .unset, .unset, .unset, .unset, .unset] [(.ref b35)])) _
      refine XS.dup X35.here hx rfl (hb hby at_51) rfl rfl ?_
      show Steps p.tables e below (T35.setTop (mkF m 52 #[.val (.int p0), .val (.int p1), .val (.int p2), .val (.int p3), .val (.int p4), .val (.int ba), .val (.int bb), .val (.int (2 : Int32)), .unset, .unset, .unset, .unset, .unset, .unset, .unset, .unset, .unset, .unset] [(.ref b35), (.ref b35)])) _
      refine XS.iconst X35.here hx rfl (hb hby at_52) ?_
      show Steps p.tables e below (T35.setTop (mkF m 53 #[.val (.int p0), .val (.int p1), .val (.int p2), .val (.int p3), .val (.int p4), .val (.int ba), .val (.int bb), .val (.int (2 : Int32)), .unset, .unset, .unset, .unset, .unset, .unset, .unset, .unset, .unset, .unset] [(.int (0 : Int32)), (.ref b35), (.ref b35)])) _
      refine XS.iload X35.here hx rfl (hb hby at_53) rfl ?_
      show Steps p.tables e below (T35.setTop (mkF m 55 #[.val (.int p0), .val (.int p1), .val (.int p2), .val (.int p3), .val (.int p4), .val (.int ba), .val (.int bb), .val (.int (2 : Int32)), .unset, .unset, .unset, .unset, .unset, .unset, .unset, .unset, .unset, .unset] [(.int ba), (.int (0 : Int32)), (.ref b35), (.ref b35)])) _
      refine st37 _ ?_
      show Steps p.tables e below (T37.setTop (mkF m 56 #[.val (.int p0), .val (.int p1), .val (.int p2), .val (.int p3), .val (.int p4), .val (.int ba), .val (.int bb), .val (.int (2 : Int32)), .unset, .unset, .unset, .unset, .unset, .unset, .unset, .unset, .unset, .unset] [(.ref b35)])) _
      refine XS.dup X37.here hx rfl (hb hby at_56) rfl rfl ?_
      show Steps p.tables e below (T37.setTop (mkF m 57 #[.val (.int p0), .val (.int p1), .val (.int p2), .val (.int p3), .val (.int p4), .val (.int ba), .val (.int bb), .val (.int (2 : Int32)), .unset, .unset, .unset, .unset, .unset, .unset, .unset, .unset, .unset, .unset] [(.ref b35), (.ref b35)])) _
      refine XS.iconst X37.here hx rfl (hb hby at_57) ?_
      show Steps p.tables e below (T37.setTop (mkF m 58 #[.val (.int p0), .val (.int p1), .val (.int p2), .val (.int p3), .val (.int p4), .val (.int ba), .val (.int bb), .val (.int (2 : Int32)), .unset, .unset, .unset, .unset, .unset, .unset, .unset, .unset, .unset, .unset] [(.int (1 : Int32)), (.ref b35), (.ref b35)])) _
      refine XS.iload X37.here hx rfl (hb hby at_58) rfl ?_
      show Steps p.tables e below (T37.setTop (mkF m 60 #[.val (.int p0), .val (.int p1), .val (.int p2), .val (.int p3), .val (.int p4), .val (.int ba), .val (.int bb), .val (.int (2 : Int32)), .unset, .unset, .unset, .unset, .unset, .unset, .unset, .unset, .unset, .unset] [(.int bb), (.int (1 : Int32)), (.ref b35), (.ref b35)])) _
      refine st39 _ ?_
      show Steps p.tables e below (T39.setTop (mkF m 61 #[.val (.int p0), .val (.int p1), .val (.int p2), .val (.int p3), .val (.int p4), .val (.int ba), .val (.int bb), .val (.int (2 : Int32)), .unset, .unset, .unset, .unset, .unset, .unset, .unset, .unset, .unset, .unset] [(.ref b35)])) _
      refine XS.astore X39.here hx rfl (hb hby at_61) rfl rfl (l' := #[.val (.int p0), .val (.int p1), .val (.int p2), .val (.int p3), .val (.int p4), .val (.int ba), .val (.int bb), .val (.int (2 : Int32)), .val (.ref b35), .unset, .unset, .unset, .unset, .unset, .unset, .unset, .unset, .unset]) rfl ?_
      exact k
    obtain ⟨_, _, ⟨T41, L41, k41, n41⟩, -, X41, ⟨Lc41, hQ41, l41, y41, z41⟩, st41⟩ := Jvm.LawKit.callS X39 hx (y := (⟨"com/example/governor/governor/server/StopAtBeginsPinLaw", "pick", "(IBBB)B"⟩ : MethodName)) hown (mvT hZ (hw _ (List.mem_of_getElem? (i := 1) rfl))) (mvT hZ (hw _ (List.mem_of_getElem? (i := 2) rfl))) (mvT hZ (hw _ (List.mem_of_getElem? (i := 3) rfl))) (mvT hZ (hw _ (List.mem_of_getElem? (i := 4) rfl))) (by decide) (backOf (W := 0) (rm1 l Z a0 hw [] ((p4.toUInt32 >>> ((2 : Int32) &&& 31).toUInt32).toInt32) ba bb (p2.toInt8.toInt32) h39 n0 Zs40 hba hbb (own_nb _)) hZ (hw _ (List.mem_of_getElem? (i := 4) rfl)) (hw _ (List.mem_of_getElem? (i := 3) rfl)) (by decide) (by decide)) (g := (mkF m 73 #[.val (.int p0), .val (.int p1), .val (.int p2), .val (.int p3), .val (.int p4), .val (.int ba), .val (.int bb), .val (.int (2 : Int32)), .val (.ref b35), .unset, .unset, .unset, .unset, .unset, .unset, .unset, .unset, .unset] [(.int (p2.toInt8.toInt32)), (.int bb), (.int ba), (.int ((p4.toUInt32 >>> ((2 : Int32) &&& 31).toUInt32).toInt32))])) rfl (by rw [hml]; rfl) (argsL := [(.int ((p4.toUInt32 >>> ((2 : Int32) &&& 31).toUInt32).toInt32)), (.int ba), (.int bb), (.int (p2.toInt8.toInt32))]) (rest := []) (lenOf pd_0 rfl) rfl (by show 2 * 0 + _ ≤ _; exact Nat.le_of_eq rfl) (hb hby at_73) (fun _ _ => ⟨rfl, e39, (by decide : 1 + 0 ≤ _), (by decide : 2 + 0 ≤ _)⟩)
    dsimp only [Pt.U, Pt.locs, Pt.cells, Pt.slots] at X41 l41 y41 z41 st41 hQ41
    subst l41 y41 z41
    obtain ⟨rfl, N41q, e41q⟩ := hQ41
    have N41 := Fr.app N39 N41q
    obtain ⟨_, _, ⟨T42, L42, k42, n42⟩, -, X42, ⟨Lc42, hQ42, l42, y42, z42⟩, st42⟩ := Jvm.LawKit.callS X41 hx (y := (⟨"com/example/governor/governor/server/StopAtBeginsPinLaw", "pick", "(IBBB)B"⟩ : MethodName)) hown (mvT hZ (hw _ (List.mem_of_getElem? (i := 1) rfl))) (mvT hZ (hw _ (List.mem_of_getElem? (i := 2) rfl))) (mvT hZ (hw _ (List.mem_of_getElem? (i := 3) rfl))) (mvT hZ (hw _ (List.mem_of_getElem? (i := 4) rfl))) (by decide) (backOf (W := 0) (rm1 l Z a0 hw [] ((p4.toUInt32 >>> ((4 : Int32) &&& 31).toUInt32).toInt32) ba bb (p3.toInt8.toInt32) h39 n0 Zs40 hba hbb (own_nb _)) hZ (hw _ (List.mem_of_getElem? (i := 4) rfl)) (hw _ (List.mem_of_getElem? (i := 3) rfl)) (by decide) (by decide)) (g := (mkF m 88 #[.val (.int p0), .val (.int p1), .val (.int p2), .val (.int p3), .val (.int p4), .val (.int ba), .val (.int bb), .val (.int (2 : Int32)), .val (.ref b35), .val (.int (own_pick ((p4.toUInt32 >>> ((2 : Int32) &&& 31).toUInt32).toInt32) ba bb (p2.toInt8.toInt32))), .unset, .unset, .unset, .unset, .unset, .unset, .unset, .unset] [(.int (p3.toInt8.toInt32)), (.int bb), (.int ba), (.int ((p4.toUInt32 >>> ((4 : Int32) &&& 31).toUInt32).toInt32))])) rfl (by rw [hml]; rfl) (argsL := [(.int ((p4.toUInt32 >>> ((4 : Int32) &&& 31).toUInt32).toInt32)), (.int ba), (.int bb), (.int (p3.toInt8.toInt32))]) (rest := []) (lenOf pd_0 rfl) rfl (by show 2 * 0 + _ ≤ _; exact Nat.le_of_eq rfl) (hb hby at_88) (fun _ _ => ⟨rfl, e41q, (by decide : 1 + 0 ≤ _), (by decide : 2 + 0 ≤ _)⟩)
    dsimp only [Pt.U, Pt.locs, Pt.cells, Pt.slots] at X42 l42 y42 z42 st42 hQ42
    subst l42 y42 z42
    obtain ⟨rfl, N42q, e42q⟩ := hQ42
    have N42 := Fr.app N41 N42q
    have pre25 : ∀ t, Steps p.tables e below (T42.setTop (mkF m 93 #[.val (.int p0), .val (.int p1), .val (.int p2), .val (.int p3), .val (.int p4), .val (.int ba), .val (.int bb), .val (.int (2 : Int32)), .val (.ref b35), .val (.int (own_pick ((p4.toUInt32 >>> ((2 : Int32) &&& 31).toUInt32).toInt32) ba bb (p2.toInt8.toInt32))), .val (.int (own_pick ((p4.toUInt32 >>> ((4 : Int32) &&& 31).toUInt32).toInt32) ba bb (p3.toInt8.toInt32))), .unset, .unset, .unset, .unset, .unset, .unset, .unset] [])) t → Steps p.tables e below (s₁.setTop (entryFrame m #[(.int p0), (.int p1), (.int p2), (.int p3), (.int p4)] maxLocals)) t := by
      intro t k
      refine pre24 t ?_
      show Steps p.tables e below (T39.setTop (mkF m 63 #[.val (.int p0), .val (.int p1), .val (.int p2), .val (.int p3), .val (.int p4), .val (.int ba), .val (.int bb), .val (.int (2 : Int32)), .val (.ref b35), .unset, .unset, .unset, .unset, .unset, .unset, .unset, .unset, .unset] [])) _
      refine XS.iload X39.here hx rfl (hb hby at_63) rfl ?_
      show Steps p.tables e below (T39.setTop (mkF m 65 #[.val (.int p0), .val (.int p1), .val (.int p2), .val (.int p3), .val (.int p4), .val (.int ba), .val (.int bb), .val (.int (2 : Int32)), .val (.ref b35), .unset, .unset, .unset, .unset, .unset, .unset, .unset, .unset, .unset] [(.int p4)])) _
      refine XS.iconst X39.here hx rfl (hb hby at_65) ?_
      show Steps p.tables e below (T39.setTop (mkF m 66 #[.val (.int p0), .val (.int p1), .val (.int p2), .val (.int p3), .val (.int p4), .val (.int ba), .val (.int bb), .val (.int (2 : Int32)), .val (.ref b35), .unset, .unset, .unset, .unset, .unset, .unset, .unset, .unset, .unset] [(.int (2 : Int32)), (.int p4)])) _
      refine XS.iushr X39.here hx rfl (hb hby at_66) rfl ?_
      show Steps p.tables e below (T39.setTop (mkF m 67 #[.val (.int p0), .val (.int p1), .val (.int p2), .val (.int p3), .val (.int p4), .val (.int ba), .val (.int bb), .val (.int (2 : Int32)), .val (.ref b35), .unset, .unset, .unset, .unset, .unset, .unset, .unset, .unset, .unset] [(.int ((p4.toUInt32 >>> ((2 : Int32) &&& 31).toUInt32).toInt32))])) _
      refine XS.iload X39.here hx rfl (hb hby at_67) rfl ?_
      show Steps p.tables e below (T39.setTop (mkF m 69 #[.val (.int p0), .val (.int p1), .val (.int p2), .val (.int p3), .val (.int p4), .val (.int ba), .val (.int bb), .val (.int (2 : Int32)), .val (.ref b35), .unset, .unset, .unset, .unset, .unset, .unset, .unset, .unset, .unset] [(.int ba), (.int ((p4.toUInt32 >>> ((2 : Int32) &&& 31).toUInt32).toInt32))])) _
      refine XS.iload X39.here hx rfl (hb hby at_69) rfl ?_
      show Steps p.tables e below (T39.setTop (mkF m 71 #[.val (.int p0), .val (.int p1), .val (.int p2), .val (.int p3), .val (.int p4), .val (.int ba), .val (.int bb), .val (.int (2 : Int32)), .val (.ref b35), .unset, .unset, .unset, .unset, .unset, .unset, .unset, .unset, .unset] [(.int bb), (.int ba), (.int ((p4.toUInt32 >>> ((2 : Int32) &&& 31).toUInt32).toInt32))])) _
      refine XS.iloadN X39.here hx rfl (hb hby at_71) rfl ?_
      show Steps p.tables e below (T39.setTop (mkF m 72 #[.val (.int p0), .val (.int p1), .val (.int p2), .val (.int p3), .val (.int p4), .val (.int ba), .val (.int bb), .val (.int (2 : Int32)), .val (.ref b35), .unset, .unset, .unset, .unset, .unset, .unset, .unset, .unset, .unset] [(.int p2), (.int bb), (.int ba), (.int ((p4.toUInt32 >>> ((2 : Int32) &&& 31).toUInt32).toInt32))])) _
      refine XS.i2b X39.here hx rfl (hb hby at_72) rfl ?_
      show Steps p.tables e below (T39.setTop (mkF m 73 #[.val (.int p0), .val (.int p1), .val (.int p2), .val (.int p3), .val (.int p4), .val (.int ba), .val (.int bb), .val (.int (2 : Int32)), .val (.ref b35), .unset, .unset, .unset, .unset, .unset, .unset, .unset, .unset, .unset] [(.int (p2.toInt8.toInt32)), (.int bb), (.int ba), (.int ((p4.toUInt32 >>> ((2 : Int32) &&& 31).toUInt32).toInt32))])) _
      refine st41 _ ?_
      show Steps p.tables e below (T41.setTop (mkF m 76 #[.val (.int p0), .val (.int p1), .val (.int p2), .val (.int p3), .val (.int p4), .val (.int ba), .val (.int bb), .val (.int (2 : Int32)), .val (.ref b35), .unset, .unset, .unset, .unset, .unset, .unset, .unset, .unset, .unset] [(.int (own_pick ((p4.toUInt32 >>> ((2 : Int32) &&& 31).toUInt32).toInt32) ba bb (p2.toInt8.toInt32)))])) _
      refine XS.istore X41.here hx rfl (hb hby at_76) rfl (l' := #[.val (.int p0), .val (.int p1), .val (.int p2), .val (.int p3), .val (.int p4), .val (.int ba), .val (.int bb), .val (.int (2 : Int32)), .val (.ref b35), .val (.int (own_pick ((p4.toUInt32 >>> ((2 : Int32) &&& 31).toUInt32).toInt32) ba bb (p2.toInt8.toInt32))), .unset, .unset, .unset, .unset, .unset, .unset, .unset, .unset]) rfl ?_
      show Steps p.tables e below (T41.setTop (mkF m 78 #[.val (.int p0), .val (.int p1), .val (.int p2), .val (.int p3), .val (.int p4), .val (.int ba), .val (.int bb), .val (.int (2 : Int32)), .val (.ref b35), .val (.int (own_pick ((p4.toUInt32 >>> ((2 : Int32) &&& 31).toUInt32).toInt32) ba bb (p2.toInt8.toInt32))), .unset, .unset, .unset, .unset, .unset, .unset, .unset, .unset] [])) _
      refine XS.iload X41.here hx rfl (hb hby at_78) rfl ?_
      show Steps p.tables e below (T41.setTop (mkF m 80 #[.val (.int p0), .val (.int p1), .val (.int p2), .val (.int p3), .val (.int p4), .val (.int ba), .val (.int bb), .val (.int (2 : Int32)), .val (.ref b35), .val (.int (own_pick ((p4.toUInt32 >>> ((2 : Int32) &&& 31).toUInt32).toInt32) ba bb (p2.toInt8.toInt32))), .unset, .unset, .unset, .unset, .unset, .unset, .unset, .unset] [(.int p4)])) _
      refine XS.iconst X41.here hx rfl (hb hby at_80) ?_
      show Steps p.tables e below (T41.setTop (mkF m 81 #[.val (.int p0), .val (.int p1), .val (.int p2), .val (.int p3), .val (.int p4), .val (.int ba), .val (.int bb), .val (.int (2 : Int32)), .val (.ref b35), .val (.int (own_pick ((p4.toUInt32 >>> ((2 : Int32) &&& 31).toUInt32).toInt32) ba bb (p2.toInt8.toInt32))), .unset, .unset, .unset, .unset, .unset, .unset, .unset, .unset] [(.int (4 : Int32)), (.int p4)])) _
      refine XS.iushr X41.here hx rfl (hb hby at_81) rfl ?_
      show Steps p.tables e below (T41.setTop (mkF m 82 #[.val (.int p0), .val (.int p1), .val (.int p2), .val (.int p3), .val (.int p4), .val (.int ba), .val (.int bb), .val (.int (2 : Int32)), .val (.ref b35), .val (.int (own_pick ((p4.toUInt32 >>> ((2 : Int32) &&& 31).toUInt32).toInt32) ba bb (p2.toInt8.toInt32))), .unset, .unset, .unset, .unset, .unset, .unset, .unset, .unset] [(.int ((p4.toUInt32 >>> ((4 : Int32) &&& 31).toUInt32).toInt32))])) _
      refine XS.iload X41.here hx rfl (hb hby at_82) rfl ?_
      show Steps p.tables e below (T41.setTop (mkF m 84 #[.val (.int p0), .val (.int p1), .val (.int p2), .val (.int p3), .val (.int p4), .val (.int ba), .val (.int bb), .val (.int (2 : Int32)), .val (.ref b35), .val (.int (own_pick ((p4.toUInt32 >>> ((2 : Int32) &&& 31).toUInt32).toInt32) ba bb (p2.toInt8.toInt32))), .unset, .unset, .unset, .unset, .unset, .unset, .unset, .unset] [(.int ba), (.int ((p4.toUInt32 >>> ((4 : Int32) &&& 31).toUInt32).toInt32))])) _
      refine XS.iload X41.here hx rfl (hb hby at_84) rfl ?_
      show Steps p.tables e below (T41.setTop (mkF m 86 #[.val (.int p0), .val (.int p1), .val (.int p2), .val (.int p3), .val (.int p4), .val (.int ba), .val (.int bb), .val (.int (2 : Int32)), .val (.ref b35), .val (.int (own_pick ((p4.toUInt32 >>> ((2 : Int32) &&& 31).toUInt32).toInt32) ba bb (p2.toInt8.toInt32))), .unset, .unset, .unset, .unset, .unset, .unset, .unset, .unset] [(.int bb), (.int ba), (.int ((p4.toUInt32 >>> ((4 : Int32) &&& 31).toUInt32).toInt32))])) _
      refine XS.iloadN X41.here hx rfl (hb hby at_86) rfl ?_
      show Steps p.tables e below (T41.setTop (mkF m 87 #[.val (.int p0), .val (.int p1), .val (.int p2), .val (.int p3), .val (.int p4), .val (.int ba), .val (.int bb), .val (.int (2 : Int32)), .val (.ref b35), .val (.int (own_pick ((p4.toUInt32 >>> ((2 : Int32) &&& 31).toUInt32).toInt32) ba bb (p2.toInt8.toInt32))), .unset, .unset, .unset, .unset, .unset, .unset, .unset, .unset] [(.int p3), (.int bb), (.int ba), (.int ((p4.toUInt32 >>> ((4 : Int32) &&& 31).toUInt32).toInt32))])) _
      refine XS.i2b X41.here hx rfl (hb hby at_87) rfl ?_
      show Steps p.tables e below (T41.setTop (mkF m 88 #[.val (.int p0), .val (.int p1), .val (.int p2), .val (.int p3), .val (.int p4), .val (.int ba), .val (.int bb), .val (.int (2 : Int32)), .val (.ref b35), .val (.int (own_pick ((p4.toUInt32 >>> ((2 : Int32) &&& 31).toUInt32).toInt32) ba bb (p2.toInt8.toInt32))), .unset, .unset, .unset, .unset, .unset, .unset, .unset, .unset] [(.int (p3.toInt8.toInt32)), (.int bb), (.int ba), (.int ((p4.toUInt32 >>> ((4 : Int32) &&& 31).toUInt32).toInt32))])) _
      refine st42 _ ?_
      show Steps p.tables e below (T42.setTop (mkF m 91 #[.val (.int p0), .val (.int p1), .val (.int p2), .val (.int p3), .val (.int p4), .val (.int ba), .val (.int bb), .val (.int (2 : Int32)), .val (.ref b35), .val (.int (own_pick ((p4.toUInt32 >>> ((2 : Int32) &&& 31).toUInt32).toInt32) ba bb (p2.toInt8.toInt32))), .unset, .unset, .unset, .unset, .unset, .unset, .unset, .unset] [(.int (own_pick ((p4.toUInt32 >>> ((4 : Int32) &&& 31).toUInt32).toInt32) ba bb (p3.toInt8.toInt32)))])) _
      refine XS.istore X42.here hx rfl (hb hby at_91) rfl (l' := #[.val (.int p0), .val (.int p1), .val (.int p2), .val (.int p3), .val (.int p4), .val (.int ba), .val (.int bb), .val (.int (2 : Int32)), .val (.ref b35), .val (.int (own_pick ((p4.toUInt32 >>> ((2 : Int32) &&& 31).toUInt32).toInt32) ba bb (p2.toInt8.toInt32))), .val (.int (own_pick ((p4.toUInt32 >>> ((4 : Int32) &&& 31).toUInt32).toInt32) ba bb (p3.toInt8.toInt32))), .unset, .unset, .unset, .unset, .unset, .unset, .unset]) rfl ?_
      exact k
    have ht1 : nar .byte (own_pick ((p4.toUInt32 >>> ((2 : Int32) &&& 31).toUInt32).toInt32) ba bb (p2.toInt8.toInt32)) = (own_pick ((p4.toUInt32 >>> ((2 : Int32) &&& 31).toUInt32).toInt32) ba bb (p2.toInt8.toInt32)) := own_pickb hba hbb (own_nb _)
    have ht2 : nar .byte (own_pick ((p4.toUInt32 >>> ((4 : Int32) &&& 31).toUInt32).toInt32) ba bb (p3.toInt8.toInt32)) = (own_pick ((p4.toUInt32 >>> ((4 : Int32) &&& 31).toUInt32).toInt32) ba bb (p3.toInt8.toInt32)) := own_pickb hba hbb (own_nb _)
    obtain ⟨t1, et1⟩ : ∃ z, z = (own_pick ((p4.toUInt32 >>> ((2 : Int32) &&& 31).toUInt32).toInt32) ba bb (p2.toInt8.toInt32)) := ⟨_, rfl⟩
    rw [← et1] at pre25 ht1
    obtain ⟨t2, et2⟩ : ∃ z, z = (own_pick ((p4.toUInt32 >>> ((4 : Int32) &&& 31).toUInt32).toInt32) ba bb (p3.toInt8.toInt32)) := ⟨_, rfl⟩
    rw [← et2] at pre25 ht2
    have hs1 : nar .byte (own_st [ba, bb] t1 (0 : Int32)) = (own_st [ba, bb] t1 (0 : Int32)) := own_stb ht1 _ own_n0
    have hs2 : nar .byte (own_st [ba, bb] t2 (own_st [ba, bb] t1 (0 : Int32))) = (own_st [ba, bb] t2 (own_st [ba, bb] t1 (0 : Int32))) := own_stb ht2 _ hs1
    obtain ⟨T43, h43, X43, e43, E43, A43, D43, -, st43⟩ := newO X42 hx hZ hown (hw _ (List.mem_of_getElem? (i := 5) rfl)) (hw _ (List.mem_of_getElem? (i := 6) rfl)) (hw _ (List.mem_of_getElem? (i := 7) rfl)) e42q (g := (mkF m 93 #[.val (.int p0), .val (.int p1), .val (.int p2), .val (.int p3), .val (.int p4), .val (.int ba), .val (.int bb), .val (.int (2 : Int32)), .val (.ref b35), .val (.int t1), .val (.int t2), .unset, .unset, .unset, .unset, .unset, .unset, .unset] [])) rfl (hb hby at_93) (by decide) (by decide)
    obtain ⟨b43, g43⟩ : ∃ z, z = h39.size := ⟨_, rfl⟩
    rw [← g43] at A43 D43 st43
    have ne_b35_b43 : b35 ≠ b43 := Nat.ne_of_lt (Nat.lt_of_lt_of_le V39_b35.lt (Nat.le_of_eq g43.symm))
    have g_b43 : n0 ≤ b43 := Nat.le_trans Zs40 (Nat.le_of_eq g43.symm)
    have V_b35_43 := V39_b35.ext E43
    have Zs44 := Nat.le_trans Zs40 E43.1
    have F_types_b43 : Fld Z h43 b43 "com/example/governor/governor/server/MessageScanner$StopAt" "types" "[B" .null := D43 (Or.inr (hw _ (List.mem_of_getElem? (i := 15) rfl))) (ty := (.array .byte)) (by decide)
    have F_stoppedAt_b43 : Fld Z h43 b43 "com/example/governor/governor/server/MessageScanner$StopAt" "stoppedAt" "B" (.int (0 : Int32)) := D43 (Or.inl (hw _ (List.mem_of_getElem? (i := 22) rfl))) (ty := .byte) (by decide)
    obtain ⟨_, _, ⟨T45, L45, k45, n45⟩, -, X45, ⟨Lc45, hQ45, l45, y45, z45⟩, st45⟩ := X43.specialBack hx (y := (⟨"com/example/governor/governor/server/MessageScanner$StopAt", "<init>", "([B)V"⟩ : MethodName)) rfl hown (mvT hZ (hw _ (List.mem_of_getElem? (i := 8) rfl))) (mvT hZ (hw _ (List.mem_of_getElem? (i := 9) rfl))) (mvT hZ (hw _ (List.mem_of_getElem? (i := 10) rfl))) (by decide) (backOf (W := 1) (rm2 l Z a0 hw [] b43 b35 h43 n0 Zs44 F_types_b43 F_stoppedAt_b43 A43 g_b43) hZ (hw _ (List.mem_of_getElem? (i := 10) rfl)) (hw _ (List.mem_of_getElem? (i := 7) rfl)) (by decide) (by decide)) (g := (mkF m 99 #[.val (.int p0), .val (.int p1), .val (.int p2), .val (.int p3), .val (.int p4), .val (.int ba), .val (.int bb), .val (.int (2 : Int32)), .val (.ref b35), .val (.int t1), .val (.int t2), .unset, .unset, .unset, .unset, .unset, .unset, .unset] [(.ref b35), (.ref b43), (.ref b43)])) rfl (by rw [hml]; rfl) (Steps.refl _) (a := b43) (argsL := [(.ref b35)]) (rest := [(.ref b43)]) (lenOf pd_1 rfl) rfl (by show 2 * 0 + _ ≤ _; exact Nat.le_of_eq rfl) (hb hby at_99) (fun _ _ => ⟨rfl, e43, (by decide : 2 + 0 ≤ _), (by decide : 4 + 0 ≤ _)⟩)
    dsimp only [Pt.U, Pt.locs, Pt.cells, Pt.slots] at X45 l45 y45 z45 st45 hQ45
    subst l45 y45 z45
    obtain ⟨rfl, N45q, K45q, E45q, Fa45q, Fb45q⟩ := hQ45
    have N45 := Fr.app N42 N45q
    have V_b35_45 := V_b35_43.keep K45q (ninS ne_b35_b43 nin0)
    have E_b43_45 := A43.keep K45q
    have Zs46 := Nat.le_trans Zs44 K45q.1
    obtain ⟨cq47, kq47, q47a, q47b, q47c⟩ := isOf hZ rfl E45q
    obtain ⟨_, _, ⟨T47, L47, k47, n47⟩, -, X47, ⟨Lc47, hQ47, l47, y47, z47⟩, st47⟩ := X45.virtualBack hx (y := (⟨"com/example/governor/governor/server/MessageScanner$StopAt", "begins", "(B)Z"⟩ : MethodName)) (z := (⟨"com/example/governor/governor/server/MessageScanner$StopAt", "begins", "(B)Z"⟩ : MethodName)) hown (mvT hZ (hw _ (List.mem_of_getElem? (i := 16) rfl))) (mvT hZ (hw _ (List.mem_of_getElem? (i := 17) rfl))) (notFace_of_selects (args := #[]) (mvT hZ (hw _ (List.mem_of_getElem? (i := 19) rfl)))) (mvT hZ (hw _ (List.mem_of_getElem? (i := 19) rfl))) (mvT hZ (hw _ (List.mem_of_getElem? (i := 18) rfl))) (by decide) (backOf (W := 0) (rm4x2 l Z a0 hw [] b43 t1 b35 (0 : Int32) k35 ba bb T45.heap n0 Zs46 Fa45q Fb45q E45q g_b43 V_b35_45 ne_b35_b43 ht1) hZ (hw _ (List.mem_of_getElem? (i := 20) rfl)) (hw _ (List.mem_of_getElem? (i := 7) rfl)) (by decide) (by decide)) q47a q47c (g := (mkF m 108 #[.val (.int p0), .val (.int p1), .val (.int p2), .val (.int p3), .val (.int p4), .val (.int ba), .val (.int bb), .val (.int (2 : Int32)), .val (.ref b35), .val (.int t1), .val (.int t2), .val (.ref b43), .unset, .unset, .unset, .unset, .unset, .unset] [(.int t1), (.ref b43)])) rfl (by rw [hml]; rfl) (Steps.refl _) (argsL := [(.int t1)]) (rest := []) (lenOf pd_2 rfl) rfl (by show 2 * 0 + _ ≤ _; exact Nat.le_of_eq rfl) (hb hby at_108) (fun _ _ => ⟨rfl, rfl, (by decide : 2 + 0 ≤ _), (by decide : 4 + 0 ≤ _)⟩)
    dsimp only [Pt.U, Pt.locs, Pt.cells, Pt.slots] at X47 l47 y47 z47 st47 hQ47
    subst l47 y47 z47
    obtain ⟨rfl, N47q, K47q, E47q, Fa47q, Fb47q⟩ := hQ47
    have N47 := Fr.app N45 N47q
    have V_b35_47 := V_b35_45.keep K47q (ninS ne_b35_b43 nin0)
    have E_b43_47 := E45q.keep K47q
    have Zs48 := Nat.le_trans Zs46 K47q.1
    obtain ⟨cq49, kq49, q49a, q49b, q49c⟩ := isOf hZ rfl E47q
    obtain ⟨_, _, ⟨T49, L49, k49, n49⟩, -, X49, ⟨Lc49, hQ49, l49, y49, z49⟩, st49⟩ := X47.virtualBack hx (y := (⟨"com/example/governor/governor/server/MessageScanner$StopAt", "stoppedAt", "()B"⟩ : MethodName)) (z := (⟨"com/example/governor/governor/server/MessageScanner$StopAt", "stoppedAt", "()B"⟩ : MethodName)) hown (mvT hZ (hw _ (List.mem_of_getElem? (i := 23) rfl))) (mvT hZ (hw _ (List.mem_of_getElem? (i := 24) rfl))) (notFace_of_selects (args := #[]) (mvT hZ (hw _ (List.mem_of_getElem? (i := 26) rfl)))) (mvT hZ (hw _ (List.mem_of_getElem? (i := 26) rfl))) (mvT hZ (hw _ (List.mem_of_getElem? (i := 25) rfl))) (by decide) (backOf (W := 0) (rm5 l Z a0 hw [] b43 (own_st [ba, bb] t1 (0 : Int32)) T47.heap n0 Zs48 Fb47q hs1) hZ (hw _ (List.mem_of_getElem? (i := 27) rfl)) (hw _ (List.mem_of_getElem? (i := 7) rfl)) (by decide) (by decide)) q49a q49c (g := (mkF m 115 #[.val (.int p0), .val (.int p1), .val (.int p2), .val (.int p3), .val (.int p4), .val (.int ba), .val (.int bb), .val (.int (2 : Int32)), .val (.ref b35), .val (.int t1), .val (.int t2), .val (.ref b43), .val (.int (own_z (own_st [ba, bb] t1 (0 : Int32)))), .unset, .unset, .unset, .unset, .unset] [(.ref b43)])) rfl (by rw [hml]; rfl) (Steps.refl _) (argsL := []) (rest := []) (lenOf pd_3 rfl) rfl (by show 2 * 0 + _ ≤ _; exact Nat.le_of_eq rfl) (hb hby at_115) (fun _ _ => ⟨rfl, rfl, (by decide : 2 + 0 ≤ _), (by decide : 4 + 0 ≤ _)⟩)
    dsimp only [Pt.U, Pt.locs, Pt.cells, Pt.slots] at X49 l49 y49 z49 st49 hQ49
    subst l49 y49 z49
    obtain ⟨rfl, N49q, e49q⟩ := hQ49
    have N49 := Fr.app N47 N49q
    obtain ⟨cq50, kq50, q50a, q50b, q50c⟩ := isOf hZ e49q E47q
    obtain ⟨_, _, ⟨T50, L50, k50, n50⟩, -, X50, ⟨Lc50, hQ50, l50, y50, z50⟩, st50⟩ := X49.virtualBack hx (y := (⟨"com/example/governor/governor/server/MessageScanner$StopAt", "begins", "(B)Z"⟩ : MethodName)) (z := (⟨"com/example/governor/governor/server/MessageScanner$StopAt", "begins", "(B)Z"⟩ : MethodName)) hown (mvT hZ (hw _ (List.mem_of_getElem? (i := 16) rfl))) (mvT hZ (hw _ (List.mem_of_getElem? (i := 17) rfl))) (notFace_of_selects (args := #[]) (mvT hZ (hw _ (List.mem_of_getElem? (i := 19) rfl)))) (mvT hZ (hw _ (List.mem_of_getElem? (i := 19) rfl))) (mvT hZ (hw _ (List.mem_of_getElem? (i := 18) rfl))) (by decide) (backOf (W := 0) (rm4x2 l Z a0 hw [] b43 t2 b35 (own_st [ba, bb] t1 (0 : Int32)) k35 ba bb T47.heap n0 Zs48 Fa47q Fb47q E47q g_b43 V_b35_47 ne_b35_b43 ht2) hZ (hw _ (List.mem_of_getElem? (i := 20) rfl)) (hw _ (List.mem_of_getElem? (i := 7) rfl)) (by decide) (by decide)) q50a q50c (g := (mkF m 124 #[.val (.int p0), .val (.int p1), .val (.int p2), .val (.int p3), .val (.int p4), .val (.int ba), .val (.int bb), .val (.int (2 : Int32)), .val (.ref b35), .val (.int t1), .val (.int t2), .val (.ref b43), .val (.int (own_z (own_st [ba, bb] t1 (0 : Int32)))), .val (.int (own_st [ba, bb] t1 (0 : Int32))), .unset, .unset, .unset, .unset] [(.int t2), (.ref b43)])) rfl (by rw [hml]; rfl) (Steps.refl _) (argsL := [(.int t2)]) (rest := []) (lenOf pd_2 rfl) rfl (by show 2 * 0 + _ ≤ _; exact Nat.le_of_eq rfl) (hb hby at_124) (fun _ _ => ⟨rfl, e49q, (by decide : 2 + 0 ≤ _), (by decide : 4 + 0 ≤ _)⟩)
    dsimp only [Pt.U, Pt.locs, Pt.cells, Pt.slots] at X50 l50 y50 z50 st50 hQ50
    subst l50 y50 z50
    obtain ⟨rfl, N50q, K50q, E50q, Fa50q, Fb50q⟩ := hQ50
    have N50 := Fr.app N49 N50q
    have V_b35_50 := V_b35_47.keep K50q (ninS ne_b35_b43 nin0)
    have E_b43_50 := E47q.keep K50q
    have Zs51 := Nat.le_trans Zs48 K50q.1
    obtain ⟨cq52, kq52, q52a, q52b, q52c⟩ := isOf hZ rfl E50q
    obtain ⟨_, _, ⟨T52, L52, k52, n52⟩, -, X52, ⟨Lc52, hQ52, l52, y52, z52⟩, st52⟩ := X50.virtualBack hx (y := (⟨"com/example/governor/governor/server/MessageScanner$StopAt", "stoppedAt", "()B"⟩ : MethodName)) (z := (⟨"com/example/governor/governor/server/MessageScanner$StopAt", "stoppedAt", "()B"⟩ : MethodName)) hown (mvT hZ (hw _ (List.mem_of_getElem? (i := 23) rfl))) (mvT hZ (hw _ (List.mem_of_getElem? (i := 24) rfl))) (notFace_of_selects (args := #[]) (mvT hZ (hw _ (List.mem_of_getElem? (i := 26) rfl)))) (mvT hZ (hw _ (List.mem_of_getElem? (i := 26) rfl))) (mvT hZ (hw _ (List.mem_of_getElem? (i := 25) rfl))) (by decide) (backOf (W := 0) (rm5 l Z a0 hw [] b43 (own_st [ba, bb] t2 (own_st [ba, bb] t1 (0 : Int32))) T50.heap n0 Zs51 Fb50q hs2) hZ (hw _ (List.mem_of_getElem? (i := 27) rfl)) (hw _ (List.mem_of_getElem? (i := 7) rfl)) (by decide) (by decide)) q52a q52c (g := (mkF m 131 #[.val (.int p0), .val (.int p1), .val (.int p2), .val (.int p3), .val (.int p4), .val (.int ba), .val (.int bb), .val (.int (2 : Int32)), .val (.ref b35), .val (.int t1), .val (.int t2), .val (.ref b43), .val (.int (own_z (own_st [ba, bb] t1 (0 : Int32)))), .val (.int (own_st [ba, bb] t1 (0 : Int32))), .val (.int (own_z (own_st [ba, bb] t2 (own_st [ba, bb] t1 (0 : Int32))))), .unset, .unset, .unset] [(.ref b43)])) rfl (by rw [hml]; rfl) (Steps.refl _) (argsL := []) (rest := []) (lenOf pd_3 rfl) rfl (by show 2 * 0 + _ ≤ _; exact Nat.le_of_eq rfl) (hb hby at_131) (fun _ _ => ⟨rfl, rfl, (by decide : 2 + 0 ≤ _), (by decide : 4 + 0 ≤ _)⟩)
    dsimp only [Pt.U, Pt.locs, Pt.cells, Pt.slots] at X52 l52 y52 z52 st52 hQ52
    subst l52 y52 z52
    obtain ⟨rfl, N52q, e52q⟩ := hQ52
    have N52 := Fr.app N50 N52q
    have pre26 : ∀ t, Steps p.tables e below (T52.setTop (mkF m 136 #[.val (.int p0), .val (.int p1), .val (.int p2), .val (.int p3), .val (.int p4), .val (.int ba), .val (.int bb), .val (.int (2 : Int32)), .val (.ref b35), .val (.int t1), .val (.int t2), .val (.ref b43), .val (.int (own_z (own_st [ba, bb] t1 (0 : Int32)))), .val (.int (own_st [ba, bb] t1 (0 : Int32))), .val (.int (own_z (own_st [ba, bb] t2 (own_st [ba, bb] t1 (0 : Int32))))), .val (.int (own_st [ba, bb] t2 (own_st [ba, bb] t1 (0 : Int32)))), .unset, .unset] [])) t → Steps p.tables e below (s₁.setTop (entryFrame m #[(.int p0), (.int p1), (.int p2), (.int p3), (.int p4)] maxLocals)) t := by
      intro t k
      refine pre25 t ?_
      show Steps p.tables e below (T42.setTop (mkF m 93 #[.val (.int p0), .val (.int p1), .val (.int p2), .val (.int p3), .val (.int p4), .val (.int ba), .val (.int bb), .val (.int (2 : Int32)), .val (.ref b35), .val (.int t1), .val (.int t2), .unset, .unset, .unset, .unset, .unset, .unset, .unset] [])) _
      refine st43 _ ?_
      show Steps p.tables e below (T43.setTop (mkF m 96 #[.val (.int p0), .val (.int p1), .val (.int p2), .val (.int p3), .val (.int p4), .val (.int ba), .val (.int bb), .val (.int (2 : Int32)), .val (.ref b35), .val (.int t1), .val (.int t2), .unset, .unset, .unset, .unset, .unset, .unset, .unset] [(.ref b43)])) _
      refine XS.dup X43.here hx rfl (hb hby at_96) rfl rfl ?_
      show Steps p.tables e below (T43.setTop (mkF m 97 #[.val (.int p0), .val (.int p1), .val (.int p2), .val (.int p3), .val (.int p4), .val (.int ba), .val (.int bb), .val (.int (2 : Int32)), .val (.ref b35), .val (.int t1), .val (.int t2), .unset, .unset, .unset, .unset, .unset, .unset, .unset] [(.ref b43), (.ref b43)])) _
      refine XS.aload X43.here hx rfl (hb hby at_97) rfl rfl ?_
      show Steps p.tables e below (T43.setTop (mkF m 99 #[.val (.int p0), .val (.int p1), .val (.int p2), .val (.int p3), .val (.int p4), .val (.int ba), .val (.int bb), .val (.int (2 : Int32)), .val (.ref b35), .val (.int t1), .val (.int t2), .unset, .unset, .unset, .unset, .unset, .unset, .unset] [(.ref b35), (.ref b43), (.ref b43)])) _
      refine st45.trans ?_
      show Steps p.tables e below (T45.setTop (mkF m 102 #[.val (.int p0), .val (.int p1), .val (.int p2), .val (.int p3), .val (.int p4), .val (.int ba), .val (.int bb), .val (.int (2 : Int32)), .val (.ref b35), .val (.int t1), .val (.int t2), .unset, .unset, .unset, .unset, .unset, .unset, .unset] [(.ref b43)])) _
      refine XS.astore X45.here hx rfl (hb hby at_102) rfl rfl (l' := #[.val (.int p0), .val (.int p1), .val (.int p2), .val (.int p3), .val (.int p4), .val (.int ba), .val (.int bb), .val (.int (2 : Int32)), .val (.ref b35), .val (.int t1), .val (.int t2), .val (.ref b43), .unset, .unset, .unset, .unset, .unset, .unset]) rfl ?_
      show Steps p.tables e below (T45.setTop (mkF m 104 #[.val (.int p0), .val (.int p1), .val (.int p2), .val (.int p3), .val (.int p4), .val (.int ba), .val (.int bb), .val (.int (2 : Int32)), .val (.ref b35), .val (.int t1), .val (.int t2), .val (.ref b43), .unset, .unset, .unset, .unset, .unset, .unset] [])) _
      refine XS.aload X45.here hx rfl (hb hby at_104) rfl rfl ?_
      show Steps p.tables e below (T45.setTop (mkF m 106 #[.val (.int p0), .val (.int p1), .val (.int p2), .val (.int p3), .val (.int p4), .val (.int ba), .val (.int bb), .val (.int (2 : Int32)), .val (.ref b35), .val (.int t1), .val (.int t2), .val (.ref b43), .unset, .unset, .unset, .unset, .unset, .unset] [(.ref b43)])) _
      refine XS.iload X45.here hx rfl (hb hby at_106) rfl ?_
      show Steps p.tables e below (T45.setTop (mkF m 108 #[.val (.int p0), .val (.int p1), .val (.int p2), .val (.int p3), .val (.int p4), .val (.int ba), .val (.int bb), .val (.int (2 : Int32)), .val (.ref b35), .val (.int t1), .val (.int t2), .val (.ref b43), .unset, .unset, .unset, .unset, .unset, .unset] [(.int t1), (.ref b43)])) _
      refine st47.trans ?_
      show Steps p.tables e below (T47.setTop (mkF m 111 #[.val (.int p0), .val (.int p1), .val (.int p2), .val (.int p3), .val (.int p4), .val (.int ba), .val (.int bb), .val (.int (2 : Int32)), .val (.ref b35), .val (.int t1), .val (.int t2), .val (.ref b43), .unset, .unset, .unset, .unset, .unset, .unset] [(.int (own_z (own_st [ba, bb] t1 (0 : Int32))))])) _
      refine XS.istore X47.here hx rfl (hb hby at_111) rfl (l' := #[.val (.int p0), .val (.int p1), .val (.int p2), .val (.int p3), .val (.int p4), .val (.int ba), .val (.int bb), .val (.int (2 : Int32)), .val (.ref b35), .val (.int t1), .val (.int t2), .val (.ref b43), .val (.int (own_z (own_st [ba, bb] t1 (0 : Int32)))), .unset, .unset, .unset, .unset, .unset]) rfl ?_
      show Steps p.tables e below (T47.setTop (mkF m 113 #[.val (.int p0), .val (.int p1), .val (.int p2), .val (.int p3), .val (.int p4), .val (.int ba), .val (.int bb), .val (.int (2 : Int32)), .val (.ref b35), .val (.int t1), .val (.int t2), .val (.ref b43), .val (.int (own_z (own_st [ba, bb] t1 (0 : Int32)))), .unset, .unset, .unset, .unset, .unset] [])) _
      refine XS.aload X47.here hx rfl (hb hby at_113) rfl rfl ?_
      show Steps p.tables e below (T47.setTop (mkF m 115 #[.val (.int p0), .val (.int p1), .val (.int p2), .val (.int p3), .val (.int p4), .val (.int ba), .val (.int bb), .val (.int (2 : Int32)), .val (.ref b35), .val (.int t1), .val (.int t2), .val (.ref b43), .val (.int (own_z (own_st [ba, bb] t1 (0 : Int32)))), .unset, .unset, .unset, .unset, .unset] [(.ref b43)])) _
      refine st49.trans ?_
      show Steps p.tables e below (T49.setTop (mkF m 118 #[.val (.int p0), .val (.int p1), .val (.int p2), .val (.int p3), .val (.int p4), .val (.int ba), .val (.int bb), .val (.int (2 : Int32)), .val (.ref b35), .val (.int t1), .val (.int t2), .val (.ref b43), .val (.int (own_z (own_st [ba, bb] t1 (0 : Int32)))), .unset, .unset, .unset, .unset, .unset] [(.int (own_st [ba, bb] t1 (0 : Int32)))])) _
      refine XS.istore X49.here hx rfl (hb hby at_118) rfl (l' := #[.val (.int p0), .val (.int p1), .val (.int p2), .val (.int p3), .val (.int p4), .val (.int ba), .val (.int bb), .val (.int (2 : Int32)), .val (.ref b35), .val (.int t1), .val (.int t2), .val (.ref b43), .val (.int (own_z (own_st [ba, bb] t1 (0 : Int32)))), .val (.int (own_st [ba, bb] t1 (0 : Int32))), .unset, .unset, .unset, .unset]) rfl ?_
      show Steps p.tables e below (T49.setTop (mkF m 120 #[.val (.int p0), .val (.int p1), .val (.int p2), .val (.int p3), .val (.int p4), .val (.int ba), .val (.int bb), .val (.int (2 : Int32)), .val (.ref b35), .val (.int t1), .val (.int t2), .val (.ref b43), .val (.int (own_z (own_st [ba, bb] t1 (0 : Int32)))), .val (.int (own_st [ba, bb] t1 (0 : Int32))), .unset, .unset, .unset, .unset] [])) _
      refine XS.aload X49.here hx rfl (hb hby at_120) rfl rfl ?_
      show Steps p.tables e below (T49.setTop (mkF m 122 #[.val (.int p0), .val (.int p1), .val (.int p2), .val (.int p3), .val (.int p4), .val (.int ba), .val (.int bb), .val (.int (2 : Int32)), .val (.ref b35), .val (.int t1), .val (.int t2), .val (.ref b43), .val (.int (own_z (own_st [ba, bb] t1 (0 : Int32)))), .val (.int (own_st [ba, bb] t1 (0 : Int32))), .unset, .unset, .unset, .unset] [(.ref b43)])) _
      refine XS.iload X49.here hx rfl (hb hby at_122) rfl ?_
      show Steps p.tables e below (T49.setTop (mkF m 124 #[.val (.int p0), .val (.int p1), .val (.int p2), .val (.int p3), .val (.int p4), .val (.int ba), .val (.int bb), .val (.int (2 : Int32)), .val (.ref b35), .val (.int t1), .val (.int t2), .val (.ref b43), .val (.int (own_z (own_st [ba, bb] t1 (0 : Int32)))), .val (.int (own_st [ba, bb] t1 (0 : Int32))), .unset, .unset, .unset, .unset] [(.int t2), (.ref b43)])) _
      refine st50.trans ?_
      show Steps p.tables e below (T50.setTop (mkF m 127 #[.val (.int p0), .val (.int p1), .val (.int p2), .val (.int p3), .val (.int p4), .val (.int ba), .val (.int bb), .val (.int (2 : Int32)), .val (.ref b35), .val (.int t1), .val (.int t2), .val (.ref b43), .val (.int (own_z (own_st [ba, bb] t1 (0 : Int32)))), .val (.int (own_st [ba, bb] t1 (0 : Int32))), .unset, .unset, .unset, .unset] [(.int (own_z (own_st [ba, bb] t2 (own_st [ba, bb] t1 (0 : Int32)))))])) _
      refine XS.istore X50.here hx rfl (hb hby at_127) rfl (l' := #[.val (.int p0), .val (.int p1), .val (.int p2), .val (.int p3), .val (.int p4), .val (.int ba), .val (.int bb), .val (.int (2 : Int32)), .val (.ref b35), .val (.int t1), .val (.int t2), .val (.ref b43), .val (.int (own_z (own_st [ba, bb] t1 (0 : Int32)))), .val (.int (own_st [ba, bb] t1 (0 : Int32))), .val (.int (own_z (own_st [ba, bb] t2 (own_st [ba, bb] t1 (0 : Int32))))), .unset, .unset, .unset]) rfl ?_
      show Steps p.tables e below (T50.setTop (mkF m 129 #[.val (.int p0), .val (.int p1), .val (.int p2), .val (.int p3), .val (.int p4), .val (.int ba), .val (.int bb), .val (.int (2 : Int32)), .val (.ref b35), .val (.int t1), .val (.int t2), .val (.ref b43), .val (.int (own_z (own_st [ba, bb] t1 (0 : Int32)))), .val (.int (own_st [ba, bb] t1 (0 : Int32))), .val (.int (own_z (own_st [ba, bb] t2 (own_st [ba, bb] t1 (0 : Int32))))), .unset, .unset, .unset] [])) _
      refine XS.aload X50.here hx rfl (hb hby at_129) rfl rfl ?_
      show Steps p.tables e below (T50.setTop (mkF m 131 #[.val (.int p0), .val (.int p1), .val (.int p2), .val (.int p3), .val (.int p4), .val (.int ba), .val (.int bb), .val (.int (2 : Int32)), .val (.ref b35), .val (.int t1), .val (.int t2), .val (.ref b43), .val (.int (own_z (own_st [ba, bb] t1 (0 : Int32)))), .val (.int (own_st [ba, bb] t1 (0 : Int32))), .val (.int (own_z (own_st [ba, bb] t2 (own_st [ba, bb] t1 (0 : Int32))))), .unset, .unset, .unset] [(.ref b43)])) _
      refine st52.trans ?_
      show Steps p.tables e below (T52.setTop (mkF m 134 #[.val (.int p0), .val (.int p1), .val (.int p2), .val (.int p3), .val (.int p4), .val (.int ba), .val (.int bb), .val (.int (2 : Int32)), .val (.ref b35), .val (.int t1), .val (.int t2), .val (.ref b43), .val (.int (own_z (own_st [ba, bb] t1 (0 : Int32)))), .val (.int (own_st [ba, bb] t1 (0 : Int32))), .val (.int (own_z (own_st [ba, bb] t2 (own_st [ba, bb] t1 (0 : Int32))))), .unset, .unset, .unset] [(.int (own_st [ba, bb] t2 (own_st [ba, bb] t1 (0 : Int32))))])) _
      refine XS.istore X52.here hx rfl (hb hby at_134) rfl (l' := #[.val (.int p0), .val (.int p1), .val (.int p2), .val (.int p3), .val (.int p4), .val (.int ba), .val (.int bb), .val (.int (2 : Int32)), .val (.ref b35), .val (.int t1), .val (.int t2), .val (.ref b43), .val (.int (own_z (own_st [ba, bb] t1 (0 : Int32)))), .val (.int (own_st [ba, bb] t1 (0 : Int32))), .val (.int (own_z (own_st [ba, bb] t2 (own_st [ba, bb] t1 (0 : Int32))))), .val (.int (own_st [ba, bb] t2 (own_st [ba, bb] t1 (0 : Int32)))), .unset, .unset]) rfl ?_
      exact k
    obtain ⟨_, _, ⟨T53, L53, k53, n53⟩, -, X53, ⟨Lc53, hQ53, l53, y53, z53⟩, st53⟩ := Jvm.LawKit.callS X52 hx (y := (⟨"com/example/governor/governor/server/StopAtBeginsPinLaw", "inList", "(BIBB)Z"⟩ : MethodName)) hown (mvT hZ (hw _ (List.mem_of_getElem? (i := 28) rfl))) (mvT hZ (hw _ (List.mem_of_getElem? (i := 29) rfl))) (mvT hZ (hw _ (List.mem_of_getElem? (i := 3) rfl))) (mvT hZ (hw _ (List.mem_of_getElem? (i := 30) rfl))) (by decide) (backOf (W := 0) (rm6 l Z a0 hw [] t1 (2 : Int32) ba bb T50.heap n0 Zs51) hZ (hw _ (List.mem_of_getElem? (i := 30) rfl)) (hw _ (List.mem_of_getElem? (i := 3) rfl)) (by decide) (by decide)) (g := (mkF m 144 #[.val (.int p0), .val (.int p1), .val (.int p2), .val (.int p3), .val (.int p4), .val (.int ba), .val (.int bb), .val (.int (2 : Int32)), .val (.ref b35), .val (.int t1), .val (.int t2), .val (.ref b43), .val (.int (own_z (own_st [ba, bb] t1 (0 : Int32)))), .val (.int (own_st [ba, bb] t1 (0 : Int32))), .val (.int (own_z (own_st [ba, bb] t2 (own_st [ba, bb] t1 (0 : Int32))))), .val (.int (own_st [ba, bb] t2 (own_st [ba, bb] t1 (0 : Int32)))), .unset, .unset] [(.int bb), (.int ba), (.int (2 : Int32)), (.int t1)])) rfl (by rw [hml]; rfl) (argsL := [(.int t1), (.int (2 : Int32)), (.int ba), (.int bb)]) (rest := []) (lenOf pd_4 rfl) rfl (by show 2 * 0 + _ ≤ _; exact Nat.le_of_eq rfl) (hb hby at_144) (fun _ _ => ⟨rfl, e52q, (by decide : 2 + 0 ≤ _), (by decide : 4 + 0 ≤ _)⟩)
    dsimp only [Pt.U, Pt.locs, Pt.cells, Pt.slots] at X53 l53 y53 z53 st53 hQ53
    subst l53 y53 z53
    obtain ⟨rfl, N53q, e53q⟩ := hQ53
    have N53 := Fr.app N52 N53q
    have pre27 : ∀ t, Steps p.tables e below (T53.setTop (mkF m 147 #[.val (.int p0), .val (.int p1), .val (.int p2), .val (.int p3), .val (.int p4), .val (.int ba), .val (.int bb), .val (.int (2 : Int32)), .val (.ref b35), .val (.int t1), .val (.int t2), .val (.ref b43), .val (.int (own_z (own_st [ba, bb] t1 (0 : Int32)))), .val (.int (own_st [ba, bb] t1 (0 : Int32))), .val (.int (own_z (own_st [ba, bb] t2 (own_st [ba, bb] t1 (0 : Int32))))), .val (.int (own_st [ba, bb] t2 (own_st [ba, bb] t1 (0 : Int32)))), .unset, .unset] [(.int (own_in t1 (2 : Int32) ba bb))])) t → Steps p.tables e below (s₁.setTop (entryFrame m #[(.int p0), (.int p1), (.int p2), (.int p3), (.int p4)] maxLocals)) t := by
      intro t k
      refine pre26 t ?_
      show Steps p.tables e below (T52.setTop (mkF m 136 #[.val (.int p0), .val (.int p1), .val (.int p2), .val (.int p3), .val (.int p4), .val (.int ba), .val (.int bb), .val (.int (2 : Int32)), .val (.ref b35), .val (.int t1), .val (.int t2), .val (.ref b43), .val (.int (own_z (own_st [ba, bb] t1 (0 : Int32)))), .val (.int (own_st [ba, bb] t1 (0 : Int32))), .val (.int (own_z (own_st [ba, bb] t2 (own_st [ba, bb] t1 (0 : Int32))))), .val (.int (own_st [ba, bb] t2 (own_st [ba, bb] t1 (0 : Int32)))), .unset, .unset] [])) _
      refine XS.iload X52.here hx rfl (hb hby at_136) rfl ?_
      show Steps p.tables e below (T52.setTop (mkF m 138 #[.val (.int p0), .val (.int p1), .val (.int p2), .val (.int p3), .val (.int p4), .val (.int ba), .val (.int bb), .val (.int (2 : Int32)), .val (.ref b35), .val (.int t1), .val (.int t2), .val (.ref b43), .val (.int (own_z (own_st [ba, bb] t1 (0 : Int32)))), .val (.int (own_st [ba, bb] t1 (0 : Int32))), .val (.int (own_z (own_st [ba, bb] t2 (own_st [ba, bb] t1 (0 : Int32))))), .val (.int (own_st [ba, bb] t2 (own_st [ba, bb] t1 (0 : Int32)))), .unset, .unset] [(.int t1)])) _
      refine XS.iload X52.here hx rfl (hb hby at_138) rfl ?_
      show Steps p.tables e below (T52.setTop (mkF m 140 #[.val (.int p0), .val (.int p1), .val (.int p2), .val (.int p3), .val (.int p4), .val (.int ba), .val (.int bb), .val (.int (2 : Int32)), .val (.ref b35), .val (.int t1), .val (.int t2), .val (.ref b43), .val (.int (own_z (own_st [ba, bb] t1 (0 : Int32)))), .val (.int (own_st [ba, bb] t1 (0 : Int32))), .val (.int (own_z (own_st [ba, bb] t2 (own_st [ba, bb] t1 (0 : Int32))))), .val (.int (own_st [ba, bb] t2 (own_st [ba, bb] t1 (0 : Int32)))), .unset, .unset] [(.int (2 : Int32)), (.int t1)])) _
      refine XS.iload X52.here hx rfl (hb hby at_140) rfl ?_
      show Steps p.tables e below (T52.setTop (mkF m 142 #[.val (.int p0), .val (.int p1), .val (.int p2), .val (.int p3), .val (.int p4), .val (.int ba), .val (.int bb), .val (.int (2 : Int32)), .val (.ref b35), .val (.int t1), .val (.int t2), .val (.ref b43), .val (.int (own_z (own_st [ba, bb] t1 (0 : Int32)))), .val (.int (own_st [ba, bb] t1 (0 : Int32))), .val (.int (own_z (own_st [ba, bb] t2 (own_st [ba, bb] t1 (0 : Int32))))), .val (.int (own_st [ba, bb] t2 (own_st [ba, bb] t1 (0 : Int32)))), .unset, .unset] [(.int ba), (.int (2 : Int32)), (.int t1)])) _
      refine XS.iload X52.here hx rfl (hb hby at_142) rfl ?_
      show Steps p.tables e below (T52.setTop (mkF m 144 #[.val (.int p0), .val (.int p1), .val (.int p2), .val (.int p3), .val (.int p4), .val (.int ba), .val (.int bb), .val (.int (2 : Int32)), .val (.ref b35), .val (.int t1), .val (.int t2), .val (.ref b43), .val (.int (own_z (own_st [ba, bb] t1 (0 : Int32)))), .val (.int (own_st [ba, bb] t1 (0 : Int32))), .val (.int (own_z (own_st [ba, bb] t2 (own_st [ba, bb] t1 (0 : Int32))))), .val (.int (own_st [ba, bb] t2 (own_st [ba, bb] t1 (0 : Int32)))), .unset, .unset] [(.int bb), (.int ba), (.int (2 : Int32)), (.int t1)])) _
      refine st53 _ ?_
      exact k
    obtain ⟨e16, hm28, pre28⟩ : ∃ (e16 : Int32), (e16 = (own_st [ba, bb] t1 (0 : Int32))) ∧ ∀ t, Steps p.tables e below (T53.setTop (mkF m 156 #[.val (.int p0), .val (.int p1), .val (.int p2), .val (.int p3), .val (.int p4), .val (.int ba), .val (.int bb), .val (.int (2 : Int32)), .val (.ref b35), .val (.int t1), .val (.int t2), .val (.ref b43), .val (.int (own_z (own_st [ba, bb] t1 (0 : Int32)))), .val (.int (own_st [ba, bb] t1 (0 : Int32))), .val (.int (own_z (own_st [ba, bb] t2 (own_st [ba, bb] t1 (0 : Int32))))), .val (.int (own_st [ba, bb] t2 (own_st [ba, bb] t1 (0 : Int32)))), .unset, .unset] [(.int e16)])) t → Steps p.tables e below (s₁.setTop (entryFrame m #[(.int p0), (.int p1), (.int p2), (.int p3), (.int p4)] maxLocals)) t := by
      by_cases c147 : own_in t1 (2 : Int32) ba bb = 0
      · refine ⟨((0 : Int32)), (by rw [← own_l2 t1 ba bb, if_pos c147]), fun t k => pre27 t ?_⟩
        show Steps p.tables e below (T53.setTop (mkF m 147 #[.val (.int p0), .val (.int p1), .val (.int p2), .val (.int p3), .val (.int p4), .val (.int ba), .val (.int bb), .val (.int (2 : Int32)), .val (.ref b35), .val (.int t1), .val (.int t2), .val (.ref b43), .val (.int (own_z (own_st [ba, bb] t1 (0 : Int32)))), .val (.int (own_st [ba, bb] t1 (0 : Int32))), .val (.int (own_z (own_st [ba, bb] t2 (own_st [ba, bb] t1 (0 : Int32))))), .val (.int (own_st [ba, bb] t2 (own_st [ba, bb] t1 (0 : Int32)))), .unset, .unset] [(.int (own_in t1 (2 : Int32) ba bb))])) _
        refine XS.ifYes X53.here hx rfl (pc0 := 147) (pc' := 155) rfl (hb hby at_147) rfl ((if0 _ _).trans (teq c147).1) (by decide) (by decide) ?_
        show Steps p.tables e below (T53.setTop (mkF m 155 #[.val (.int p0), .val (.int p1), .val (.int p2), .val (.int p3), .val (.int p4), .val (.int ba), .val (.int bb), .val (.int (2 : Int32)), .val (.ref b35), .val (.int t1), .val (.int t2), .val (.ref b43), .val (.int (own_z (own_st [ba, bb] t1 (0 : Int32)))), .val (.int (own_st [ba, bb] t1 (0 : Int32))), .val (.int (own_z (own_st [ba, bb] t2 (own_st [ba, bb] t1 (0 : Int32))))), .val (.int (own_st [ba, bb] t2 (own_st [ba, bb] t1 (0 : Int32)))), .unset, .unset] [])) _
        refine XS.iconst X53.here hx rfl (hb hby at_155) ?_
        exact k
      · refine ⟨(t1), (by rw [← own_l2 t1 ba bb, if_neg c147]), fun t k => pre27 t ?_⟩
        show Steps p.tables e below (T53.setTop (mkF m 147 #[.val (.int p0), .val (.int p1), .val (.int p2), .val (.int p3), .val (.int p4), .val (.int ba), .val (.int bb), .val (.int (2 : Int32)), .val (.ref b35), .val (.int t1), .val (.int t2), .val (.ref b43), .val (.int (own_z (own_st [ba, bb] t1 (0 : Int32)))), .val (.int (own_st [ba, bb] t1 (0 : Int32))), .val (.int (own_z (own_st [ba, bb] t2 (own_st [ba, bb] t1 (0 : Int32))))), .val (.int (own_st [ba, bb] t2 (own_st [ba, bb] t1 (0 : Int32)))), .unset, .unset] [(.int (own_in t1 (2 : Int32) ba bb))])) _
        refine XS.ifNo X53.here hx rfl (hb hby at_147) rfl ((if0 _ _).trans (feq c147).1) ?_
        show Steps p.tables e below (T53.setTop (mkF m 150 #[.val (.int p0), .val (.int p1), .val (.int p2), .val (.int p3), .val (.int p4), .val (.int ba), .val (.int bb), .val (.int (2 : Int32)), .val (.ref b35), .val (.int t1), .val (.int t2), .val (.ref b43), .val (.int (own_z (own_st [ba, bb] t1 (0 : Int32)))), .val (.int (own_st [ba, bb] t1 (0 : Int32))), .val (.int (own_z (own_st [ba, bb] t2 (own_st [ba, bb] t1 (0 : Int32))))), .val (.int (own_st [ba, bb] t2 (own_st [ba, bb] t1 (0 : Int32)))), .unset, .unset] [])) _
        refine XS.iload X53.here hx rfl (hb hby at_150) rfl ?_
        show Steps p.tables e below (T53.setTop (mkF m 152 #[.val (.int p0), .val (.int p1), .val (.int p2), .val (.int p3), .val (.int p4), .val (.int ba), .val (.int bb), .val (.int (2 : Int32)), .val (.ref b35), .val (.int t1), .val (.int t2), .val (.ref b43), .val (.int (own_z (own_st [ba, bb] t1 (0 : Int32)))), .val (.int (own_st [ba, bb] t1 (0 : Int32))), .val (.int (own_z (own_st [ba, bb] t2 (own_st [ba, bb] t1 (0 : Int32))))), .val (.int (own_st [ba, bb] t2 (own_st [ba, bb] t1 (0 : Int32)))), .unset, .unset] [(.int t1)])) _
        refine XS.goto X53.here hx rfl (pc0 := 152) (pc' := 156) rfl (hb hby at_152) (by decide) (by decide) ?_
        exact k
    subst hm28
    obtain ⟨_, _, ⟨T54, L54, k54, n54⟩, -, X54, ⟨Lc54, hQ54, l54, y54, z54⟩, st54⟩ := Jvm.LawKit.callS X53 hx (y := (⟨"com/example/governor/governor/server/StopAtBeginsPinLaw", "inList", "(BIBB)Z"⟩ : MethodName)) hown (mvT hZ (hw _ (List.mem_of_getElem? (i := 28) rfl))) (mvT hZ (hw _ (List.mem_of_getElem? (i := 29) rfl))) (mvT hZ (hw _ (List.mem_of_getElem? (i := 3) rfl))) (mvT hZ (hw _ (List.mem_of_getElem? (i := 30) rfl))) (by decide) (backOf (W := 0) (rm6 l Z a0 hw [] t2 (2 : Int32) ba bb T50.heap n0 Zs51) hZ (hw _ (List.mem_of_getElem? (i := 30) rfl)) (hw _ (List.mem_of_getElem? (i := 3) rfl)) (by decide) (by decide)) (g := (mkF m 166 #[.val (.int p0), .val (.int p1), .val (.int p2), .val (.int p3), .val (.int p4), .val (.int ba), .val (.int bb), .val (.int (2 : Int32)), .val (.ref b35), .val (.int t1), .val (.int t2), .val (.ref b43), .val (.int (own_z (own_st [ba, bb] t1 (0 : Int32)))), .val (.int (own_st [ba, bb] t1 (0 : Int32))), .val (.int (own_z (own_st [ba, bb] t2 (own_st [ba, bb] t1 (0 : Int32))))), .val (.int (own_st [ba, bb] t2 (own_st [ba, bb] t1 (0 : Int32)))), .val (.int (own_st [ba, bb] t1 (0 : Int32))), .unset] [(.int bb), (.int ba), (.int (2 : Int32)), (.int t2)])) rfl (by rw [hml]; rfl) (argsL := [(.int t2), (.int (2 : Int32)), (.int ba), (.int bb)]) (rest := []) (lenOf pd_4 rfl) rfl (by show 2 * 0 + _ ≤ _; exact Nat.le_of_eq rfl) (hb hby at_166) (fun _ _ => ⟨rfl, e53q, (by decide : 2 + 0 ≤ _), (by decide : 4 + 0 ≤ _)⟩)
    dsimp only [Pt.U, Pt.locs, Pt.cells, Pt.slots] at X54 l54 y54 z54 st54 hQ54
    subst l54 y54 z54
    obtain ⟨rfl, N54q, e54q⟩ := hQ54
    have N54 := Fr.app N53 N54q
    have pre29 : ∀ t, Steps p.tables e below (T54.setTop (mkF m 169 #[.val (.int p0), .val (.int p1), .val (.int p2), .val (.int p3), .val (.int p4), .val (.int ba), .val (.int bb), .val (.int (2 : Int32)), .val (.ref b35), .val (.int t1), .val (.int t2), .val (.ref b43), .val (.int (own_z (own_st [ba, bb] t1 (0 : Int32)))), .val (.int (own_st [ba, bb] t1 (0 : Int32))), .val (.int (own_z (own_st [ba, bb] t2 (own_st [ba, bb] t1 (0 : Int32))))), .val (.int (own_st [ba, bb] t2 (own_st [ba, bb] t1 (0 : Int32)))), .val (.int (own_st [ba, bb] t1 (0 : Int32))), .unset] [(.int (own_in t2 (2 : Int32) ba bb))])) t → Steps p.tables e below (s₁.setTop (entryFrame m #[(.int p0), (.int p1), (.int p2), (.int p3), (.int p4)] maxLocals)) t := by
      intro t k
      refine pre28 t ?_
      show Steps p.tables e below (T53.setTop (mkF m 156 #[.val (.int p0), .val (.int p1), .val (.int p2), .val (.int p3), .val (.int p4), .val (.int ba), .val (.int bb), .val (.int (2 : Int32)), .val (.ref b35), .val (.int t1), .val (.int t2), .val (.ref b43), .val (.int (own_z (own_st [ba, bb] t1 (0 : Int32)))), .val (.int (own_st [ba, bb] t1 (0 : Int32))), .val (.int (own_z (own_st [ba, bb] t2 (own_st [ba, bb] t1 (0 : Int32))))), .val (.int (own_st [ba, bb] t2 (own_st [ba, bb] t1 (0 : Int32)))), .unset, .unset] [(.int (own_st [ba, bb] t1 (0 : Int32)))])) _
      refine XS.istore X53.here hx rfl (hb hby at_156) rfl (l' := #[.val (.int p0), .val (.int p1), .val (.int p2), .val (.int p3), .val (.int p4), .val (.int ba), .val (.int bb), .val (.int (2 : Int32)), .val (.ref b35), .val (.int t1), .val (.int t2), .val (.ref b43), .val (.int (own_z (own_st [ba, bb] t1 (0 : Int32)))), .val (.int (own_st [ba, bb] t1 (0 : Int32))), .val (.int (own_z (own_st [ba, bb] t2 (own_st [ba, bb] t1 (0 : Int32))))), .val (.int (own_st [ba, bb] t2 (own_st [ba, bb] t1 (0 : Int32)))), .val (.int (own_st [ba, bb] t1 (0 : Int32))), .unset]) rfl ?_
      show Steps p.tables e below (T53.setTop (mkF m 158 #[.val (.int p0), .val (.int p1), .val (.int p2), .val (.int p3), .val (.int p4), .val (.int ba), .val (.int bb), .val (.int (2 : Int32)), .val (.ref b35), .val (.int t1), .val (.int t2), .val (.ref b43), .val (.int (own_z (own_st [ba, bb] t1 (0 : Int32)))), .val (.int (own_st [ba, bb] t1 (0 : Int32))), .val (.int (own_z (own_st [ba, bb] t2 (own_st [ba, bb] t1 (0 : Int32))))), .val (.int (own_st [ba, bb] t2 (own_st [ba, bb] t1 (0 : Int32)))), .val (.int (own_st [ba, bb] t1 (0 : Int32))), .unset] [])) _
      refine XS.iload X53.here hx rfl (hb hby at_158) rfl ?_
      show Steps p.tables e below (T53.setTop (mkF m 160 #[.val (.int p0), .val (.int p1), .val (.int p2), .val (.int p3), .val (.int p4), .val (.int ba), .val (.int bb), .val (.int (2 : Int32)), .val (.ref b35), .val (.int t1), .val (.int t2), .val (.ref b43), .val (.int (own_z (own_st [ba, bb] t1 (0 : Int32)))), .val (.int (own_st [ba, bb] t1 (0 : Int32))), .val (.int (own_z (own_st [ba, bb] t2 (own_st [ba, bb] t1 (0 : Int32))))), .val (.int (own_st [ba, bb] t2 (own_st [ba, bb] t1 (0 : Int32)))), .val (.int (own_st [ba, bb] t1 (0 : Int32))), .unset] [(.int t2)])) _
      refine XS.iload X53.here hx rfl (hb hby at_160) rfl ?_
      show Steps p.tables e below (T53.setTop (mkF m 162 #[.val (.int p0), .val (.int p1), .val (.int p2), .val (.int p3), .val (.int p4), .val (.int ba), .val (.int bb), .val (.int (2 : Int32)), .val (.ref b35), .val (.int t1), .val (.int t2), .val (.ref b43), .val (.int (own_z (own_st [ba, bb] t1 (0 : Int32)))), .val (.int (own_st [ba, bb] t1 (0 : Int32))), .val (.int (own_z (own_st [ba, bb] t2 (own_st [ba, bb] t1 (0 : Int32))))), .val (.int (own_st [ba, bb] t2 (own_st [ba, bb] t1 (0 : Int32)))), .val (.int (own_st [ba, bb] t1 (0 : Int32))), .unset] [(.int (2 : Int32)), (.int t2)])) _
      refine XS.iload X53.here hx rfl (hb hby at_162) rfl ?_
      show Steps p.tables e below (T53.setTop (mkF m 164 #[.val (.int p0), .val (.int p1), .val (.int p2), .val (.int p3), .val (.int p4), .val (.int ba), .val (.int bb), .val (.int (2 : Int32)), .val (.ref b35), .val (.int t1), .val (.int t2), .val (.ref b43), .val (.int (own_z (own_st [ba, bb] t1 (0 : Int32)))), .val (.int (own_st [ba, bb] t1 (0 : Int32))), .val (.int (own_z (own_st [ba, bb] t2 (own_st [ba, bb] t1 (0 : Int32))))), .val (.int (own_st [ba, bb] t2 (own_st [ba, bb] t1 (0 : Int32)))), .val (.int (own_st [ba, bb] t1 (0 : Int32))), .unset] [(.int ba), (.int (2 : Int32)), (.int t2)])) _
      refine XS.iload X53.here hx rfl (hb hby at_164) rfl ?_
      show Steps p.tables e below (T53.setTop (mkF m 166 #[.val (.int p0), .val (.int p1), .val (.int p2), .val (.int p3), .val (.int p4), .val (.int ba), .val (.int bb), .val (.int (2 : Int32)), .val (.ref b35), .val (.int t1), .val (.int t2), .val (.ref b43), .val (.int (own_z (own_st [ba, bb] t1 (0 : Int32)))), .val (.int (own_st [ba, bb] t1 (0 : Int32))), .val (.int (own_z (own_st [ba, bb] t2 (own_st [ba, bb] t1 (0 : Int32))))), .val (.int (own_st [ba, bb] t2 (own_st [ba, bb] t1 (0 : Int32)))), .val (.int (own_st [ba, bb] t1 (0 : Int32))), .unset] [(.int bb), (.int ba), (.int (2 : Int32)), (.int t2)])) _
      refine st54 _ ?_
      exact k
    obtain ⟨e17, hm30, pre30⟩ : ∃ (e17 : Int32), (e17 = (own_st [ba, bb] t2 (own_st [ba, bb] t1 (0 : Int32)))) ∧ ∀ t, Steps p.tables e below (T54.setTop (mkF m 179 #[.val (.int p0), .val (.int p1), .val (.int p2), .val (.int p3), .val (.int p4), .val (.int ba), .val (.int bb), .val (.int (2 : Int32)), .val (.ref b35), .val (.int t1), .val (.int t2), .val (.ref b43), .val (.int (own_z (own_st [ba, bb] t1 (0 : Int32)))), .val (.int (own_st [ba, bb] t1 (0 : Int32))), .val (.int (own_z (own_st [ba, bb] t2 (own_st [ba, bb] t1 (0 : Int32))))), .val (.int (own_st [ba, bb] t2 (own_st [ba, bb] t1 (0 : Int32)))), .val (.int (own_st [ba, bb] t1 (0 : Int32))), .unset] [(.int e17)])) t → Steps p.tables e below (s₁.setTop (entryFrame m #[(.int p0), (.int p1), (.int p2), (.int p3), (.int p4)] maxLocals)) t := by
      by_cases c169 : own_in t2 (2 : Int32) ba bb = 0
      · refine ⟨((own_st [ba, bb] t1 (0 : Int32))), (by rw [← own_l2 t2 ba bb, if_pos c169]), fun t k => pre29 t ?_⟩
        show Steps p.tables e below (T54.setTop (mkF m 169 #[.val (.int p0), .val (.int p1), .val (.int p2), .val (.int p3), .val (.int p4), .val (.int ba), .val (.int bb), .val (.int (2 : Int32)), .val (.ref b35), .val (.int t1), .val (.int t2), .val (.ref b43), .val (.int (own_z (own_st [ba, bb] t1 (0 : Int32)))), .val (.int (own_st [ba, bb] t1 (0 : Int32))), .val (.int (own_z (own_st [ba, bb] t2 (own_st [ba, bb] t1 (0 : Int32))))), .val (.int (own_st [ba, bb] t2 (own_st [ba, bb] t1 (0 : Int32)))), .val (.int (own_st [ba, bb] t1 (0 : Int32))), .unset] [(.int (own_in t2 (2 : Int32) ba bb))])) _
        refine XS.ifYes X54.here hx rfl (pc0 := 169) (pc' := 177) rfl (hb hby at_169) rfl ((if0 _ _).trans (teq c169).1) (by decide) (by decide) ?_
        show Steps p.tables e below (T54.setTop (mkF m 177 #[.val (.int p0), .val (.int p1), .val (.int p2), .val (.int p3), .val (.int p4), .val (.int ba), .val (.int bb), .val (.int (2 : Int32)), .val (.ref b35), .val (.int t1), .val (.int t2), .val (.ref b43), .val (.int (own_z (own_st [ba, bb] t1 (0 : Int32)))), .val (.int (own_st [ba, bb] t1 (0 : Int32))), .val (.int (own_z (own_st [ba, bb] t2 (own_st [ba, bb] t1 (0 : Int32))))), .val (.int (own_st [ba, bb] t2 (own_st [ba, bb] t1 (0 : Int32)))), .val (.int (own_st [ba, bb] t1 (0 : Int32))), .unset] [])) _
        refine XS.iload X54.here hx rfl (hb hby at_177) rfl ?_
        exact k
      · refine ⟨(t2), (by rw [← own_l2 t2 ba bb, if_neg c169]), fun t k => pre29 t ?_⟩
        show Steps p.tables e below (T54.setTop (mkF m 169 #[.val (.int p0), .val (.int p1), .val (.int p2), .val (.int p3), .val (.int p4), .val (.int ba), .val (.int bb), .val (.int (2 : Int32)), .val (.ref b35), .val (.int t1), .val (.int t2), .val (.ref b43), .val (.int (own_z (own_st [ba, bb] t1 (0 : Int32)))), .val (.int (own_st [ba, bb] t1 (0 : Int32))), .val (.int (own_z (own_st [ba, bb] t2 (own_st [ba, bb] t1 (0 : Int32))))), .val (.int (own_st [ba, bb] t2 (own_st [ba, bb] t1 (0 : Int32)))), .val (.int (own_st [ba, bb] t1 (0 : Int32))), .unset] [(.int (own_in t2 (2 : Int32) ba bb))])) _
        refine XS.ifNo X54.here hx rfl (hb hby at_169) rfl ((if0 _ _).trans (feq c169).1) ?_
        show Steps p.tables e below (T54.setTop (mkF m 172 #[.val (.int p0), .val (.int p1), .val (.int p2), .val (.int p3), .val (.int p4), .val (.int ba), .val (.int bb), .val (.int (2 : Int32)), .val (.ref b35), .val (.int t1), .val (.int t2), .val (.ref b43), .val (.int (own_z (own_st [ba, bb] t1 (0 : Int32)))), .val (.int (own_st [ba, bb] t1 (0 : Int32))), .val (.int (own_z (own_st [ba, bb] t2 (own_st [ba, bb] t1 (0 : Int32))))), .val (.int (own_st [ba, bb] t2 (own_st [ba, bb] t1 (0 : Int32)))), .val (.int (own_st [ba, bb] t1 (0 : Int32))), .unset] [])) _
        refine XS.iload X54.here hx rfl (hb hby at_172) rfl ?_
        show Steps p.tables e below (T54.setTop (mkF m 174 #[.val (.int p0), .val (.int p1), .val (.int p2), .val (.int p3), .val (.int p4), .val (.int ba), .val (.int bb), .val (.int (2 : Int32)), .val (.ref b35), .val (.int t1), .val (.int t2), .val (.ref b43), .val (.int (own_z (own_st [ba, bb] t1 (0 : Int32)))), .val (.int (own_st [ba, bb] t1 (0 : Int32))), .val (.int (own_z (own_st [ba, bb] t2 (own_st [ba, bb] t1 (0 : Int32))))), .val (.int (own_st [ba, bb] t2 (own_st [ba, bb] t1 (0 : Int32)))), .val (.int (own_st [ba, bb] t1 (0 : Int32))), .unset] [(.int t2)])) _
        refine XS.goto X54.here hx rfl (pc0 := 174) (pc' := 179) rfl (hb hby at_174) (by decide) (by decide) ?_
        exact k
    subst hm30
    have pre31 : ∀ t, Steps p.tables e below (T54.setTop (mkF m 185 #[.val (.int p0), .val (.int p1), .val (.int p2), .val (.int p3), .val (.int p4), .val (.int ba), .val (.int bb), .val (.int (2 : Int32)), .val (.ref b35), .val (.int t1), .val (.int t2), .val (.ref b43), .val (.int (own_z (own_st [ba, bb] t1 (0 : Int32)))), .val (.int (own_st [ba, bb] t1 (0 : Int32))), .val (.int (own_z (own_st [ba, bb] t2 (own_st [ba, bb] t1 (0 : Int32))))), .val (.int (own_st [ba, bb] t2 (own_st [ba, bb] t1 (0 : Int32)))), .val (.int (own_st [ba, bb] t1 (0 : Int32))), .val (.int (own_st [ba, bb] t2 (own_st [ba, bb] t1 (0 : Int32))))] [(.int (own_st [ba, bb] t1 (0 : Int32))), (.int (own_z (own_st [ba, bb] t1 (0 : Int32))))])) t → Steps p.tables e below (s₁.setTop (entryFrame m #[(.int p0), (.int p1), (.int p2), (.int p3), (.int p4)] maxLocals)) t := by
      intro t k
      refine pre30 t ?_
      show Steps p.tables e below (T54.setTop (mkF m 179 #[.val (.int p0), .val (.int p1), .val (.int p2), .val (.int p3), .val (.int p4), .val (.int ba), .val (.int bb), .val (.int (2 : Int32)), .val (.ref b35), .val (.int t1), .val (.int t2), .val (.ref b43), .val (.int (own_z (own_st [ba, bb] t1 (0 : Int32)))), .val (.int (own_st [ba, bb] t1 (0 : Int32))), .val (.int (own_z (own_st [ba, bb] t2 (own_st [ba, bb] t1 (0 : Int32))))), .val (.int (own_st [ba, bb] t2 (own_st [ba, bb] t1 (0 : Int32)))), .val (.int (own_st [ba, bb] t1 (0 : Int32))), .unset] [(.int (own_st [ba, bb] t2 (own_st [ba, bb] t1 (0 : Int32))))])) _
      refine XS.istore X54.here hx rfl (hb hby at_179) rfl (l' := #[.val (.int p0), .val (.int p1), .val (.int p2), .val (.int p3), .val (.int p4), .val (.int ba), .val (.int bb), .val (.int (2 : Int32)), .val (.ref b35), .val (.int t1), .val (.int t2), .val (.ref b43), .val (.int (own_z (own_st [ba, bb] t1 (0 : Int32)))), .val (.int (own_st [ba, bb] t1 (0 : Int32))), .val (.int (own_z (own_st [ba, bb] t2 (own_st [ba, bb] t1 (0 : Int32))))), .val (.int (own_st [ba, bb] t2 (own_st [ba, bb] t1 (0 : Int32)))), .val (.int (own_st [ba, bb] t1 (0 : Int32))), .val (.int (own_st [ba, bb] t2 (own_st [ba, bb] t1 (0 : Int32))))]) rfl ?_
      show Steps p.tables e below (T54.setTop (mkF m 181 #[.val (.int p0), .val (.int p1), .val (.int p2), .val (.int p3), .val (.int p4), .val (.int ba), .val (.int bb), .val (.int (2 : Int32)), .val (.ref b35), .val (.int t1), .val (.int t2), .val (.ref b43), .val (.int (own_z (own_st [ba, bb] t1 (0 : Int32)))), .val (.int (own_st [ba, bb] t1 (0 : Int32))), .val (.int (own_z (own_st [ba, bb] t2 (own_st [ba, bb] t1 (0 : Int32))))), .val (.int (own_st [ba, bb] t2 (own_st [ba, bb] t1 (0 : Int32)))), .val (.int (own_st [ba, bb] t1 (0 : Int32))), .val (.int (own_st [ba, bb] t2 (own_st [ba, bb] t1 (0 : Int32))))] [])) _
      refine XS.iload X54.here hx rfl (hb hby at_181) rfl ?_
      show Steps p.tables e below (T54.setTop (mkF m 183 #[.val (.int p0), .val (.int p1), .val (.int p2), .val (.int p3), .val (.int p4), .val (.int ba), .val (.int bb), .val (.int (2 : Int32)), .val (.ref b35), .val (.int t1), .val (.int t2), .val (.ref b43), .val (.int (own_z (own_st [ba, bb] t1 (0 : Int32)))), .val (.int (own_st [ba, bb] t1 (0 : Int32))), .val (.int (own_z (own_st [ba, bb] t2 (own_st [ba, bb] t1 (0 : Int32))))), .val (.int (own_st [ba, bb] t2 (own_st [ba, bb] t1 (0 : Int32)))), .val (.int (own_st [ba, bb] t1 (0 : Int32))), .val (.int (own_st [ba, bb] t2 (own_st [ba, bb] t1 (0 : Int32))))] [(.int (own_z (own_st [ba, bb] t1 (0 : Int32))))])) _
      refine XS.iload X54.here hx rfl (hb hby at_183) rfl ?_
      exact k
    obtain ⟨z1, hm32, pre32⟩ : ∃ (z1 : Int32), (z1 = own_z (own_st [ba, bb] t1 (0 : Int32))) ∧ ∀ t, Steps p.tables e below (T54.setTop (mkF m 193 #[.val (.int p0), .val (.int p1), .val (.int p2), .val (.int p3), .val (.int p4), .val (.int ba), .val (.int bb), .val (.int (2 : Int32)), .val (.ref b35), .val (.int t1), .val (.int t2), .val (.ref b43), .val (.int (own_z (own_st [ba, bb] t1 (0 : Int32)))), .val (.int (own_st [ba, bb] t1 (0 : Int32))), .val (.int (own_z (own_st [ba, bb] t2 (own_st [ba, bb] t1 (0 : Int32))))), .val (.int (own_st [ba, bb] t2 (own_st [ba, bb] t1 (0 : Int32)))), .val (.int (own_st [ba, bb] t1 (0 : Int32))), .val (.int (own_st [ba, bb] t2 (own_st [ba, bb] t1 (0 : Int32))))] [(.int z1), (.int (own_z (own_st [ba, bb] t1 (0 : Int32))))])) t → Steps p.tables e below (s₁.setTop (entryFrame m #[(.int p0), (.int p1), (.int p2), (.int p3), (.int p4)] maxLocals)) t := by
      by_cases c185 : (own_st [ba, bb] t1 (0 : Int32)) = 0
      · refine ⟨((1 : Int32)), (by unfold own_z; rw [if_pos c185]), fun t k => pre31 t ?_⟩
        show Steps p.tables e below (T54.setTop (mkF m 185 #[.val (.int p0), .val (.int p1), .val (.int p2), .val (.int p3), .val (.int p4), .val (.int ba), .val (.int bb), .val (.int (2 : Int32)), .val (.ref b35), .val (.int t1), .val (.int t2), .val (.ref b43), .val (.int (own_z (own_st [ba, bb] t1 (0 : Int32)))), .val (.int (own_st [ba, bb] t1 (0 : Int32))), .val (.int (own_z (own_st [ba, bb] t2 (own_st [ba, bb] t1 (0 : Int32))))), .val (.int (own_st [ba, bb] t2 (own_st [ba, bb] t1 (0 : Int32)))), .val (.int (own_st [ba, bb] t1 (0 : Int32))), .val (.int (own_st [ba, bb] t2 (own_st [ba, bb] t1 (0 : Int32))))] [(.int (own_st [ba, bb] t1 (0 : Int32))), (.int (own_z (own_st [ba, bb] t1 (0 : Int32))))])) _
        refine XS.ifNo X54.here hx rfl (hb hby at_185) rfl ((if0 _ _).trans (teq c185).2) ?_
        show Steps p.tables e below (T54.setTop (mkF m 188 #[.val (.int p0), .val (.int p1), .val (.int p2), .val (.int p3), .val (.int p4), .val (.int ba), .val (.int bb), .val (.int (2 : Int32)), .val (.ref b35), .val (.int t1), .val (.int t2), .val (.ref b43), .val (.int (own_z (own_st [ba, bb] t1 (0 : Int32)))), .val (.int (own_st [ba, bb] t1 (0 : Int32))), .val (.int (own_z (own_st [ba, bb] t2 (own_st [ba, bb] t1 (0 : Int32))))), .val (.int (own_st [ba, bb] t2 (own_st [ba, bb] t1 (0 : Int32)))), .val (.int (own_st [ba, bb] t1 (0 : Int32))), .val (.int (own_st [ba, bb] t2 (own_st [ba, bb] t1 (0 : Int32))))] [(.int (own_z (own_st [ba, bb] t1 (0 : Int32))))])) _
        refine XS.iconst X54.here hx rfl (hb hby at_188) ?_
        show Steps p.tables e below (T54.setTop (mkF m 189 #[.val (.int p0), .val (.int p1), .val (.int p2), .val (.int p3), .val (.int p4), .val (.int ba), .val (.int bb), .val (.int (2 : Int32)), .val (.ref b35), .val (.int t1), .val (.int t2), .val (.ref b43), .val (.int (own_z (own_st [ba, bb] t1 (0 : Int32)))), .val (.int (own_st [ba, bb] t1 (0 : Int32))), .val (.int (own_z (own_st [ba, bb] t2 (own_st [ba, bb] t1 (0 : Int32))))), .val (.int (own_st [ba, bb] t2 (own_st [ba, bb] t1 (0 : Int32)))), .val (.int (own_st [ba, bb] t1 (0 : Int32))), .val (.int (own_st [ba, bb] t2 (own_st [ba, bb] t1 (0 : Int32))))] [(.int (1 : Int32)), (.int (own_z (own_st [ba, bb] t1 (0 : Int32))))])) _
        refine XS.goto X54.here hx rfl (pc0 := 189) (pc' := 193) rfl (hb hby at_189) (by decide) (by decide) ?_
        exact k
      · refine ⟨((0 : Int32)), (by unfold own_z; rw [if_neg c185]), fun t k => pre31 t ?_⟩
        show Steps p.tables e below (T54.setTop (mkF m 185 #[.val (.int p0), .val (.int p1), .val (.int p2), .val (.int p3), .val (.int p4), .val (.int ba), .val (.int bb), .val (.int (2 : Int32)), .val (.ref b35), .val (.int t1), .val (.int t2), .val (.ref b43), .val (.int (own_z (own_st [ba, bb] t1 (0 : Int32)))), .val (.int (own_st [ba, bb] t1 (0 : Int32))), .val (.int (own_z (own_st [ba, bb] t2 (own_st [ba, bb] t1 (0 : Int32))))), .val (.int (own_st [ba, bb] t2 (own_st [ba, bb] t1 (0 : Int32)))), .val (.int (own_st [ba, bb] t1 (0 : Int32))), .val (.int (own_st [ba, bb] t2 (own_st [ba, bb] t1 (0 : Int32))))] [(.int (own_st [ba, bb] t1 (0 : Int32))), (.int (own_z (own_st [ba, bb] t1 (0 : Int32))))])) _
        refine XS.ifYes X54.here hx rfl (pc0 := 185) (pc' := 192) rfl (hb hby at_185) rfl ((if0 _ _).trans (feq c185).2) (by decide) (by decide) ?_
        show Steps p.tables e below (T54.setTop (mkF m 192 #[.val (.int p0), .val (.int p1), .val (.int p2), .val (.int p3), .val (.int p4), .val (.int ba), .val (.int bb), .val (.int (2 : Int32)), .val (.ref b35), .val (.int t1), .val (.int t2), .val (.ref b43), .val (.int (own_z (own_st [ba, bb] t1 (0 : Int32)))), .val (.int (own_st [ba, bb] t1 (0 : Int32))), .val (.int (own_z (own_st [ba, bb] t2 (own_st [ba, bb] t1 (0 : Int32))))), .val (.int (own_st [ba, bb] t2 (own_st [ba, bb] t1 (0 : Int32)))), .val (.int (own_st [ba, bb] t1 (0 : Int32))), .val (.int (own_st [ba, bb] t2 (own_st [ba, bb] t1 (0 : Int32))))] [(.int (own_z (own_st [ba, bb] t1 (0 : Int32))))])) _
        refine XS.iconst X54.here hx rfl (hb hby at_192) ?_
        exact k
    subst hm32
    have pre33 : ∀ t, Steps p.tables e below (T54.setTop (mkF m 207 #[.val (.int p0), .val (.int p1), .val (.int p2), .val (.int p3), .val (.int p4), .val (.int ba), .val (.int bb), .val (.int (2 : Int32)), .val (.ref b35), .val (.int t1), .val (.int t2), .val (.ref b43), .val (.int (own_z (own_st [ba, bb] t1 (0 : Int32)))), .val (.int (own_st [ba, bb] t1 (0 : Int32))), .val (.int (own_z (own_st [ba, bb] t2 (own_st [ba, bb] t1 (0 : Int32))))), .val (.int (own_st [ba, bb] t2 (own_st [ba, bb] t1 (0 : Int32)))), .val (.int (own_st [ba, bb] t1 (0 : Int32))), .val (.int (own_st [ba, bb] t2 (own_st [ba, bb] t1 (0 : Int32))))] [(.int (own_st [ba, bb] t2 (own_st [ba, bb] t1 (0 : Int32)))), (.int (own_z (own_st [ba, bb] t2 (own_st [ba, bb] t1 (0 : Int32)))))])) t → Steps p.tables e below (s₁.setTop (entryFrame m #[(.int p0), (.int p1), (.int p2), (.int p3), (.int p4)] maxLocals)) t := by
      intro t k
      refine pre32 t ?_
      show Steps p.tables e below (T54.setTop (mkF m 193 #[.val (.int p0), .val (.int p1), .val (.int p2), .val (.int p3), .val (.int p4), .val (.int ba), .val (.int bb), .val (.int (2 : Int32)), .val (.ref b35), .val (.int t1), .val (.int t2), .val (.ref b43), .val (.int (own_z (own_st [ba, bb] t1 (0 : Int32)))), .val (.int (own_st [ba, bb] t1 (0 : Int32))), .val (.int (own_z (own_st [ba, bb] t2 (own_st [ba, bb] t1 (0 : Int32))))), .val (.int (own_st [ba, bb] t2 (own_st [ba, bb] t1 (0 : Int32)))), .val (.int (own_st [ba, bb] t1 (0 : Int32))), .val (.int (own_st [ba, bb] t2 (own_st [ba, bb] t1 (0 : Int32))))] [(.int (own_z (own_st [ba, bb] t1 (0 : Int32)))), (.int (own_z (own_st [ba, bb] t1 (0 : Int32))))])) _
      refine XS.icmpNo X54.here hx rfl (hb hby at_193) rfl (teq (rfl : own_z (own_st [ba, bb] t1 (0 : Int32)) = own_z (own_st [ba, bb] t1 (0 : Int32)))).2 ?_
      show Steps p.tables e below (T54.setTop (mkF m 196 #[.val (.int p0), .val (.int p1), .val (.int p2), .val (.int p3), .val (.int p4), .val (.int ba), .val (.int bb), .val (.int (2 : Int32)), .val (.ref b35), .val (.int t1), .val (.int t2), .val (.ref b43), .val (.int (own_z (own_st [ba, bb] t1 (0 : Int32)))), .val (.int (own_st [ba, bb] t1 (0 : Int32))), .val (.int (own_z (own_st [ba, bb] t2 (own_st [ba, bb] t1 (0 : Int32))))), .val (.int (own_st [ba, bb] t2 (own_st [ba, bb] t1 (0 : Int32)))), .val (.int (own_st [ba, bb] t1 (0 : Int32))), .val (.int (own_st [ba, bb] t2 (own_st [ba, bb] t1 (0 : Int32))))] [])) _
      refine XS.iload X54.here hx rfl (hb hby at_196) rfl ?_
      show Steps p.tables e below (T54.setTop (mkF m 198 #[.val (.int p0), .val (.int p1), .val (.int p2), .val (.int p3), .val (.int p4), .val (.int ba), .val (.int bb), .val (.int (2 : Int32)), .val (.ref b35), .val (.int t1), .val (.int t2), .val (.ref b43), .val (.int (own_z (own_st [ba, bb] t1 (0 : Int32)))), .val (.int (own_st [ba, bb] t1 (0 : Int32))), .val (.int (own_z (own_st [ba, bb] t2 (own_st [ba, bb] t1 (0 : Int32))))), .val (.int (own_st [ba, bb] t2 (own_st [ba, bb] t1 (0 : Int32)))), .val (.int (own_st [ba, bb] t1 (0 : Int32))), .val (.int (own_st [ba, bb] t2 (own_st [ba, bb] t1 (0 : Int32))))] [(.int (own_st [ba, bb] t1 (0 : Int32)))])) _
      refine XS.iload X54.here hx rfl (hb hby at_198) rfl ?_
      show Steps p.tables e below (T54.setTop (mkF m 200 #[.val (.int p0), .val (.int p1), .val (.int p2), .val (.int p3), .val (.int p4), .val (.int ba), .val (.int bb), .val (.int (2 : Int32)), .val (.ref b35), .val (.int t1), .val (.int t2), .val (.ref b43), .val (.int (own_z (own_st [ba, bb] t1 (0 : Int32)))), .val (.int (own_st [ba, bb] t1 (0 : Int32))), .val (.int (own_z (own_st [ba, bb] t2 (own_st [ba, bb] t1 (0 : Int32))))), .val (.int (own_st [ba, bb] t2 (own_st [ba, bb] t1 (0 : Int32)))), .val (.int (own_st [ba, bb] t1 (0 : Int32))), .val (.int (own_st [ba, bb] t2 (own_st [ba, bb] t1 (0 : Int32))))] [(.int (own_st [ba, bb] t1 (0 : Int32))), (.int (own_st [ba, bb] t1 (0 : Int32)))])) _
      refine XS.icmpNo X54.here hx rfl (hb hby at_200) rfl (teq (rfl : (own_st [ba, bb] t1 (0 : Int32)) = (own_st [ba, bb] t1 (0 : Int32)))).2 ?_
      show Steps p.tables e below (T54.setTop (mkF m 203 #[.val (.int p0), .val (.int p1), .val (.int p2), .val (.int p3), .val (.int p4), .val (.int ba), .val (.int bb), .val (.int (2 : Int32)), .val (.ref b35), .val (.int t1), .val (.int t2), .val (.ref b43), .val (.int (own_z (own_st [ba, bb] t1 (0 : Int32)))), .val (.int (own_st [ba, bb] t1 (0 : Int32))), .val (.int (own_z (own_st [ba, bb] t2 (own_st [ba, bb] t1 (0 : Int32))))), .val (.int (own_st [ba, bb] t2 (own_st [ba, bb] t1 (0 : Int32)))), .val (.int (own_st [ba, bb] t1 (0 : Int32))), .val (.int (own_st [ba, bb] t2 (own_st [ba, bb] t1 (0 : Int32))))] [])) _
      refine XS.iload X54.here hx rfl (hb hby at_203) rfl ?_
      show Steps p.tables e below (T54.setTop (mkF m 205 #[.val (.int p0), .val (.int p1), .val (.int p2), .val (.int p3), .val (.int p4), .val (.int ba), .val (.int bb), .val (.int (2 : Int32)), .val (.ref b35), .val (.int t1), .val (.int t2), .val (.ref b43), .val (.int (own_z (own_st [ba, bb] t1 (0 : Int32)))), .val (.int (own_st [ba, bb] t1 (0 : Int32))), .val (.int (own_z (own_st [ba, bb] t2 (own_st [ba, bb] t1 (0 : Int32))))), .val (.int (own_st [ba, bb] t2 (own_st [ba, bb] t1 (0 : Int32)))), .val (.int (own_st [ba, bb] t1 (0 : Int32))), .val (.int (own_st [ba, bb] t2 (own_st [ba, bb] t1 (0 : Int32))))] [(.int (own_z (own_st [ba, bb] t2 (own_st [ba, bb] t1 (0 : Int32)))))])) _
      refine XS.iload X54.here hx rfl (hb hby at_205) rfl ?_
      exact k
    obtain ⟨z2, hm34, pre34⟩ : ∃ (z2 : Int32), (z2 = own_z (own_st [ba, bb] t2 (own_st [ba, bb] t1 (0 : Int32)))) ∧ ∀ t, Steps p.tables e below (T54.setTop (mkF m 215 #[.val (.int p0), .val (.int p1), .val (.int p2), .val (.int p3), .val (.int p4), .val (.int ba), .val (.int bb), .val (.int (2 : Int32)), .val (.ref b35), .val (.int t1), .val (.int t2), .val (.ref b43), .val (.int (own_z (own_st [ba, bb] t1 (0 : Int32)))), .val (.int (own_st [ba, bb] t1 (0 : Int32))), .val (.int (own_z (own_st [ba, bb] t2 (own_st [ba, bb] t1 (0 : Int32))))), .val (.int (own_st [ba, bb] t2 (own_st [ba, bb] t1 (0 : Int32)))), .val (.int (own_st [ba, bb] t1 (0 : Int32))), .val (.int (own_st [ba, bb] t2 (own_st [ba, bb] t1 (0 : Int32))))] [(.int z2), (.int (own_z (own_st [ba, bb] t2 (own_st [ba, bb] t1 (0 : Int32)))))])) t → Steps p.tables e below (s₁.setTop (entryFrame m #[(.int p0), (.int p1), (.int p2), (.int p3), (.int p4)] maxLocals)) t := by
      by_cases c207 : (own_st [ba, bb] t2 (own_st [ba, bb] t1 (0 : Int32))) = 0
      · refine ⟨((1 : Int32)), (by unfold own_z; rw [if_pos c207]), fun t k => pre33 t ?_⟩
        show Steps p.tables e below (T54.setTop (mkF m 207 #[.val (.int p0), .val (.int p1), .val (.int p2), .val (.int p3), .val (.int p4), .val (.int ba), .val (.int bb), .val (.int (2 : Int32)), .val (.ref b35), .val (.int t1), .val (.int t2), .val (.ref b43), .val (.int (own_z (own_st [ba, bb] t1 (0 : Int32)))), .val (.int (own_st [ba, bb] t1 (0 : Int32))), .val (.int (own_z (own_st [ba, bb] t2 (own_st [ba, bb] t1 (0 : Int32))))), .val (.int (own_st [ba, bb] t2 (own_st [ba, bb] t1 (0 : Int32)))), .val (.int (own_st [ba, bb] t1 (0 : Int32))), .val (.int (own_st [ba, bb] t2 (own_st [ba, bb] t1 (0 : Int32))))] [(.int (own_st [ba, bb] t2 (own_st [ba, bb] t1 (0 : Int32)))), (.int (own_z (own_st [ba, bb] t2 (own_st [ba, bb] t1 (0 : Int32)))))])) _
        refine XS.ifNo X54.here hx rfl (hb hby at_207) rfl ((if0 _ _).trans (teq c207).2) ?_
        show Steps p.tables e below (T54.setTop (mkF m 210 #[.val (.int p0), .val (.int p1), .val (.int p2), .val (.int p3), .val (.int p4), .val (.int ba), .val (.int bb), .val (.int (2 : Int32)), .val (.ref b35), .val (.int t1), .val (.int t2), .val (.ref b43), .val (.int (own_z (own_st [ba, bb] t1 (0 : Int32)))), .val (.int (own_st [ba, bb] t1 (0 : Int32))), .val (.int (own_z (own_st [ba, bb] t2 (own_st [ba, bb] t1 (0 : Int32))))), .val (.int (own_st [ba, bb] t2 (own_st [ba, bb] t1 (0 : Int32)))), .val (.int (own_st [ba, bb] t1 (0 : Int32))), .val (.int (own_st [ba, bb] t2 (own_st [ba, bb] t1 (0 : Int32))))] [(.int (own_z (own_st [ba, bb] t2 (own_st [ba, bb] t1 (0 : Int32)))))])) _
        refine XS.iconst X54.here hx rfl (hb hby at_210) ?_
        show Steps p.tables e below (T54.setTop (mkF m 211 #[.val (.int p0), .val (.int p1), .val (.int p2), .val (.int p3), .val (.int p4), .val (.int ba), .val (.int bb), .val (.int (2 : Int32)), .val (.ref b35), .val (.int t1), .val (.int t2), .val (.ref b43), .val (.int (own_z (own_st [ba, bb] t1 (0 : Int32)))), .val (.int (own_st [ba, bb] t1 (0 : Int32))), .val (.int (own_z (own_st [ba, bb] t2 (own_st [ba, bb] t1 (0 : Int32))))), .val (.int (own_st [ba, bb] t2 (own_st [ba, bb] t1 (0 : Int32)))), .val (.int (own_st [ba, bb] t1 (0 : Int32))), .val (.int (own_st [ba, bb] t2 (own_st [ba, bb] t1 (0 : Int32))))] [(.int (1 : Int32)), (.int (own_z (own_st [ba, bb] t2 (own_st [ba, bb] t1 (0 : Int32)))))])) _
        refine XS.goto X54.here hx rfl (pc0 := 211) (pc' := 215) rfl (hb hby at_211) (by decide) (by decide) ?_
        exact k
      · refine ⟨((0 : Int32)), (by unfold own_z; rw [if_neg c207]), fun t k => pre33 t ?_⟩
        show Steps p.tables e below (T54.setTop (mkF m 207 #[.val (.int p0), .val (.int p1), .val (.int p2), .val (.int p3), .val (.int p4), .val (.int ba), .val (.int bb), .val (.int (2 : Int32)), .val (.ref b35), .val (.int t1), .val (.int t2), .val (.ref b43), .val (.int (own_z (own_st [ba, bb] t1 (0 : Int32)))), .val (.int (own_st [ba, bb] t1 (0 : Int32))), .val (.int (own_z (own_st [ba, bb] t2 (own_st [ba, bb] t1 (0 : Int32))))), .val (.int (own_st [ba, bb] t2 (own_st [ba, bb] t1 (0 : Int32)))), .val (.int (own_st [ba, bb] t1 (0 : Int32))), .val (.int (own_st [ba, bb] t2 (own_st [ba, bb] t1 (0 : Int32))))] [(.int (own_st [ba, bb] t2 (own_st [ba, bb] t1 (0 : Int32)))), (.int (own_z (own_st [ba, bb] t2 (own_st [ba, bb] t1 (0 : Int32)))))])) _
        refine XS.ifYes X54.here hx rfl (pc0 := 207) (pc' := 214) rfl (hb hby at_207) rfl ((if0 _ _).trans (feq c207).2) (by decide) (by decide) ?_
        show Steps p.tables e below (T54.setTop (mkF m 214 #[.val (.int p0), .val (.int p1), .val (.int p2), .val (.int p3), .val (.int p4), .val (.int ba), .val (.int bb), .val (.int (2 : Int32)), .val (.ref b35), .val (.int t1), .val (.int t2), .val (.ref b43), .val (.int (own_z (own_st [ba, bb] t1 (0 : Int32)))), .val (.int (own_st [ba, bb] t1 (0 : Int32))), .val (.int (own_z (own_st [ba, bb] t2 (own_st [ba, bb] t1 (0 : Int32))))), .val (.int (own_st [ba, bb] t2 (own_st [ba, bb] t1 (0 : Int32)))), .val (.int (own_st [ba, bb] t1 (0 : Int32))), .val (.int (own_st [ba, bb] t2 (own_st [ba, bb] t1 (0 : Int32))))] [(.int (own_z (own_st [ba, bb] t2 (own_st [ba, bb] t1 (0 : Int32)))))])) _
        refine XS.iconst X54.here hx rfl (hb hby at_214) ?_
        exact k
    subst hm34
    obtain ⟨fs, hr, hrun, hended, hW, hsame⟩ := X54.leave (v := some (.int (1 : Int32))) (fun h => by rw [Bd.returns] at h; cases h)
    refine ⟨_, _, pre34 _ ?_, hrun, hended, _, _, rfl, ?_, ⟨_, rfl⟩, hW, hsame.mono (by decide) (by decide)⟩
    · show Steps p.tables e below (T54.setTop (mkF m 215 #[.val (.int p0), .val (.int p1), .val (.int p2), .val (.int p3), .val (.int p4), .val (.int ba), .val (.int bb), .val (.int (2 : Int32)), .val (.ref b35), .val (.int t1), .val (.int t2), .val (.ref b43), .val (.int (own_z (own_st [ba, bb] t1 (0 : Int32)))), .val (.int (own_st [ba, bb] t1 (0 : Int32))), .val (.int (own_z (own_st [ba, bb] t2 (own_st [ba, bb] t1 (0 : Int32))))), .val (.int (own_st [ba, bb] t2 (own_st [ba, bb] t1 (0 : Int32)))), .val (.int (own_st [ba, bb] t1 (0 : Int32))), .val (.int (own_st [ba, bb] t2 (own_st [ba, bb] t1 (0 : Int32))))] [(.int (own_z (own_st [ba, bb] t2 (own_st [ba, bb] t1 (0 : Int32))))), (.int (own_z (own_st [ba, bb] t2 (own_st [ba, bb] t1 (0 : Int32)))))])) _
      refine XS.icmpNo X54.here hx rfl (hb hby at_215) rfl (teq (rfl : own_z (own_st [ba, bb] t2 (own_st [ba, bb] t1 (0 : Int32))) = own_z (own_st [ba, bb] t2 (own_st [ba, bb] t1 (0 : Int32))))).2 ?_
      show Steps p.tables e below (T54.setTop (mkF m 218 #[.val (.int p0), .val (.int p1), .val (.int p2), .val (.int p3), .val (.int p4), .val (.int ba), .val (.int bb), .val (.int (2 : Int32)), .val (.ref b35), .val (.int t1), .val (.int t2), .val (.ref b43), .val (.int (own_z (own_st [ba, bb] t1 (0 : Int32)))), .val (.int (own_st [ba, bb] t1 (0 : Int32))), .val (.int (own_z (own_st [ba, bb] t2 (own_st [ba, bb] t1 (0 : Int32))))), .val (.int (own_st [ba, bb] t2 (own_st [ba, bb] t1 (0 : Int32)))), .val (.int (own_st [ba, bb] t1 (0 : Int32))), .val (.int (own_st [ba, bb] t2 (own_st [ba, bb] t1 (0 : Int32))))] [])) _
      refine XS.iload X54.here hx rfl (hb hby at_218) rfl ?_
      show Steps p.tables e below (T54.setTop (mkF m 220 #[.val (.int p0), .val (.int p1), .val (.int p2), .val (.int p3), .val (.int p4), .val (.int ba), .val (.int bb), .val (.int (2 : Int32)), .val (.ref b35), .val (.int t1), .val (.int t2), .val (.ref b43), .val (.int (own_z (own_st [ba, bb] t1 (0 : Int32)))), .val (.int (own_st [ba, bb] t1 (0 : Int32))), .val (.int (own_z (own_st [ba, bb] t2 (own_st [ba, bb] t1 (0 : Int32))))), .val (.int (own_st [ba, bb] t2 (own_st [ba, bb] t1 (0 : Int32)))), .val (.int (own_st [ba, bb] t1 (0 : Int32))), .val (.int (own_st [ba, bb] t2 (own_st [ba, bb] t1 (0 : Int32))))] [(.int (own_st [ba, bb] t2 (own_st [ba, bb] t1 (0 : Int32))))])) _
      refine XS.iload X54.here hx rfl (hb hby at_220) rfl ?_
      show Steps p.tables e below (T54.setTop (mkF m 222 #[.val (.int p0), .val (.int p1), .val (.int p2), .val (.int p3), .val (.int p4), .val (.int ba), .val (.int bb), .val (.int (2 : Int32)), .val (.ref b35), .val (.int t1), .val (.int t2), .val (.ref b43), .val (.int (own_z (own_st [ba, bb] t1 (0 : Int32)))), .val (.int (own_st [ba, bb] t1 (0 : Int32))), .val (.int (own_z (own_st [ba, bb] t2 (own_st [ba, bb] t1 (0 : Int32))))), .val (.int (own_st [ba, bb] t2 (own_st [ba, bb] t1 (0 : Int32)))), .val (.int (own_st [ba, bb] t1 (0 : Int32))), .val (.int (own_st [ba, bb] t2 (own_st [ba, bb] t1 (0 : Int32))))] [(.int (own_st [ba, bb] t2 (own_st [ba, bb] t1 (0 : Int32)))), (.int (own_st [ba, bb] t2 (own_st [ba, bb] t1 (0 : Int32))))])) _
      refine XS.icmpNo X54.here hx rfl (hb hby at_222) rfl (teq (rfl : (own_st [ba, bb] t2 (own_st [ba, bb] t1 (0 : Int32))) = (own_st [ba, bb] t2 (own_st [ba, bb] t1 (0 : Int32))))).2 ?_
      show Steps p.tables e below (T54.setTop (mkF m 225 #[.val (.int p0), .val (.int p1), .val (.int p2), .val (.int p3), .val (.int p4), .val (.int ba), .val (.int bb), .val (.int (2 : Int32)), .val (.ref b35), .val (.int t1), .val (.int t2), .val (.ref b43), .val (.int (own_z (own_st [ba, bb] t1 (0 : Int32)))), .val (.int (own_st [ba, bb] t1 (0 : Int32))), .val (.int (own_z (own_st [ba, bb] t2 (own_st [ba, bb] t1 (0 : Int32))))), .val (.int (own_st [ba, bb] t2 (own_st [ba, bb] t1 (0 : Int32)))), .val (.int (own_st [ba, bb] t1 (0 : Int32))), .val (.int (own_st [ba, bb] t2 (own_st [ba, bb] t1 (0 : Int32))))] [])) _
      refine XS.iconst X54.here hx rfl (hb hby at_225) ?_
      show Steps p.tables e below (T54.setTop (mkF m 226 #[.val (.int p0), .val (.int p1), .val (.int p2), .val (.int p3), .val (.int p4), .val (.int ba), .val (.int bb), .val (.int (2 : Int32)), .val (.ref b35), .val (.int t1), .val (.int t2), .val (.ref b43), .val (.int (own_z (own_st [ba, bb] t1 (0 : Int32)))), .val (.int (own_st [ba, bb] t1 (0 : Int32))), .val (.int (own_z (own_st [ba, bb] t2 (own_st [ba, bb] t1 (0 : Int32))))), .val (.int (own_st [ba, bb] t2 (own_st [ba, bb] t1 (0 : Int32)))), .val (.int (own_st [ba, bb] t1 (0 : Int32))), .val (.int (own_st [ba, bb] t2 (own_st [ba, bb] t1 (0 : Int32))))] [(.int (1 : Int32))])) _
      refine XS.goto X54.here hx rfl (pc0 := 226) (pc' := 230) rfl (hb hby at_226) (by decide) (by decide) ?_
      show Steps p.tables e below (T54.setTop (mkF m 230 #[.val (.int p0), .val (.int p1), .val (.int p2), .val (.int p3), .val (.int p4), .val (.int ba), .val (.int bb), .val (.int (2 : Int32)), .val (.ref b35), .val (.int t1), .val (.int t2), .val (.ref b43), .val (.int (own_z (own_st [ba, bb] t1 (0 : Int32)))), .val (.int (own_st [ba, bb] t1 (0 : Int32))), .val (.int (own_z (own_st [ba, bb] t2 (own_st [ba, bb] t1 (0 : Int32))))), .val (.int (own_st [ba, bb] t2 (own_st [ba, bb] t1 (0 : Int32)))), .val (.int (own_st [ba, bb] t1 (0 : Int32))), .val (.int (own_st [ba, bb] t2 (own_st [ba, bb] t1 (0 : Int32))))] [(.int (1 : Int32))])) _
      exact retN X54 hx (t := .boolean) Bd.returns (by simp) (hb hby at_230) hr
    · show Q0 Z p0 p1 p2 p3 p4 h0 n0 _ T54.heap _
      rw [e54q]
      exact ⟨rfl, N54⟩
set_option maxRecDepth 65536 in
set_option maxHeartbeats 40000000 in
theorem comes_1 {Post : Tables → Env → Array Value → State → Outcome → State → Prop} (hpost : ∀ tb e args s v u, (limb_1_1.after args s (.returned v) u = true ∧ limb_1_2.after args s (.returned v) u = true ∧ True) → FrameEnd s (.returned v) u (Jvm.fieldLocs frame_1_writes args s ++ Jvm.arrayLocs frame_1_arrays args s ++ Jvm.staticLocs frame_1_statics s) 16 128 → Post tb e args s (.returned v) u) :
    ArmFor flags0 classFile x code maxLocals ret World_1 tables_1 room_1 Calls_1 rest_1 Pre_1 Post := by
  intro l hfl _ _ p e ha hc hk s m args below hf hA hF happ hP
  obtain ⟨hcalls, hrest, hpre⟩ := hP
  obtain ⟨-, -, -, hnamed, -, -, -, hat⟩ := (Spec.applies_iff hf).mp happ
  obtain ⟨hg, hn⟩ := and_e (Cond.before_iff.mp (show (Jvm.Cond.and given_1 narrow_1).before args s = true from hpre))
  obtain ⟨gv1, gv2⟩ := and_e hg
  obtain ⟨gv3, gv4⟩ := and_e gv2
  obtain ⟨gv5, gv6⟩ := and_e gv4
  obtain ⟨gv7, gv8⟩ := and_e gv6
  obtain ⟨gv9, gv10⟩ := and_e gv8
  obtain ⟨w0, w1, w2, w3, w4, rfl⟩ : ∃ w0 w1 w2 w3 w4 : Value, args = #[w0, w1, w2, w3, w4] := by
    have hs : args.size = 5 := by simpa [Cond.value, given_1] using gv1
    obtain ⟨L⟩ := args
    match L, hs with
    | [w0, w1, w2, w3, w4], _ => exact ⟨w0, w1, w2, w3, w4, rfl⟩
  have hw := fun d (hd : d ∈ tables_1) => atoms_spec (ws := Jvm.Cond.code x code maxLocals ret :: tables_1) hat d (List.mem_cons_of_mem _ hd)
  have hfit : Fit s := fun {y c} hc i hi => by
    obtain ⟨ha, rfl⟩ := Array.getElem?_eq_some_iff.mp hc
    have q := List.all_eq_true.mp ((Array.all_eq_true_iff_forall_mem.mp hF) _ (Array.getElem_mem ha)) i (List.mem_range.mpr hi)
    simpa [Array.getElem?_eq_getElem hi] using q
  obtain ⟨i0, ei0⟩ := is_v gv3
  obtain rfl : w0 = (.int i0) := Option.some.inj ei0
  obtain ⟨i1, ei1⟩ := is_v gv5
  obtain rfl : w1 = (.int i1) := Option.some.inj ei1
  obtain ⟨i2, ei2⟩ := is_v gv7
  obtain rfl : w2 = (.int i2) := Option.some.inj ei2
  obtain ⟨i3, ei3⟩ := is_v gv9
  obtain rfl : w3 = (.int i3) := Option.some.inj ei3
  obtain ⟨i4, ei4⟩ := is_v gv10
  obtain rfl : w4 = (.int i4) := Option.some.inj ei4
  obtain ⟨n, o, h1, h2, h3, _, L, rfl, ⟨rfl, N⟩, hq⟩ := rm0 l s _ hw tables_1 i0 i1 i2 i3 i4 s.heap s.heap.size (Nat.le_refl _)  p e ha hc hk s m _ below hf ((Spec.applies_iff_loose hf).mp happ).1 ⟨rfl, State.Warmed39.refl s, rfl⟩ trivial
  refine ⟨n, _, h1, h2, h3, hpost _ _ _ _ _ _ ⟨Cond.after_iff.mpr rfl, Cond.after_iff.mpr (eq_i res_at (Term.int_eval (1)) rfl), trivial⟩ ⟨hq.1, hq.2.1, (hq.2.2.sift fun y hy => Or.inr (N y hy)).mono (by decide) (by decide)⟩⟩
theorem main_1_1 : Claimed_1_1 := comes_1 fun _ _ _ _ _ _ h hF => ⟨h.1, hF⟩
theorem main_1_2 : Claimed_1_2 := comes_1 fun _ _ _ _ _ _ h hF => ⟨h.2.1, hF⟩
end Jvm.Pilot.@@N@@
namespace Jvm.Pilot.@@N@@
open Jvm Jvm.ClassFile Sem Op Lib Jvm.Free Jvm.Stand Jvm.Pilot.@@N@@.Jvm.D
/-! MADE BY PROGRAM (witnessworld.py) out of the Statement's table words and the real class files: 10 classes; the members and pool entries that the words name. The judged class is class 1, her method 3. -/
namespace start1
open Jvm.ClassFile
def u (s : String) : CpInfo := .utf8 (stringToUtf16 s)
/-- a pool by its gaps: so many unusable entries, then the entry; so many at the end -/
def gap : Nat → List CpInfo → List CpInfo
  | 0, r => r
  | n + 1, r => .unusable :: gap n r
def poolList (es : List (Nat × CpInfo)) (last : Nat) : List CpInfo := es.foldr (fun e r => gap e.1 (e.2 :: r)) (gap last [])
def pool (es : List (Nat × CpInfo)) (last : Nat) : Array CpInfo := ⟨poolList es last⟩
def fileOf (pool : Array CpInfo) (this : Nat) (attrs : Array Attribute := #[]) (ms : Array MethodInfo := #[]) (fl : Nat := 33) (sup : Nat := 0) (ifs : Array Nat := #[]) (fds : Array FieldInfo := #[]) : ClassFile where
  minorVersion := 0
  majorVersion := 65
  constantPool := pool
  accessFlags := fl
  thisClass := this
  superClass := sup
  interfaces := ifs
  fields := fds
  methods := ms
  attributes := attrs
def plain (name : String) (sup : Option ClassId) : Class where
  name := name
  kind := .ordinary
  loader := none
  accessFlags := 33
  super := sup
  interfaces := #[]
  cf := none
  fields := #[]
  methods := #[]
  instanceTypes := #[]
  staticTypes := #[]
  resolved := #[]
  callSites := []
  init := .initialized
  statics := none
  mirror := none

def pool0 : Array CpInfo := pool [(5, u "<init>"), (0, u "()V"), (1, .class_ 10), (1, u "java/lang/Object")] 113

def k0c0 : Code := { maxStack := 0, maxLocals := 1, code := object_method_1_code, exceptionTable := #[], attributes := #[] }
def k0m0 : Method := { name := "<init>", desc := "()V", sig := { parameters := [], returnType := none }, accessFlags := 1, code := some k0c0 }
/-- java/lang/Object -/
def k0 : Class := { plain "java/lang/Object" none with
  accessFlags := 33
  interfaces := #[]
  cf := some (fileOf pool0 8 #[] #[{ accessFlags := 1, nameIndex := 5, descriptorIndex := 6, attributes := #[] }] 33 0 #[] #[])
  fields := #[]
  methods := #[k0m0]
  instanceTypes := #[]
  staticTypes := #[]
  resolved := Array.replicate 124 none
  statics := none }

def pool1 : Array CpInfo := pool [(2, .class_ 4), (1, u "java/lang/Object"), (0, u "<init>"), (0, u "()V"), (0, .methodref 8 9), (0, .class_ 10), (0, .nameAndType 11 12), (0, u "com/example/governor/governor/server/StopAtBeginsPinLaw"), (0, u "pick"), (0, u "(IBBB)B"), (0, .class_ 14), (0, u "com/example/governor/governor/server/MessageScanner$StopAt"), (0, .methodref 13 16), (0, .nameAndType 5 17), (0, u "([B)V"), (0, .methodref 13 19), (0, .nameAndType 20 21), (0, u "begins"), (0, u "(B)Z"), (0, .methodref 13 23), (0, .nameAndType 24 25), (0, u "stoppedAt"), (0, u "()B"), (0, .methodref 8 27), (0, .nameAndType 28 29), (0, u "inList"), (0, u "(BIBB)Z"), (3, u "law"), (0, u "(IIIII)Z")] 8

def k1m0 : Method := { name := "<init>", desc := "()V", sig := { parameters := [], returnType := none }, accessFlags := 1, code := none }
def k1c1 : Code := { maxStack := 2, maxLocals := 5, code := method_2_code, exceptionTable := #[], attributes := #[] }
def k1m1 : Method := { name := "pick", desc := "(IBBB)B", sig := { parameters := [.int, .byte, .byte, .byte], returnType := some .byte }, accessFlags := 10, code := some k1c1 }
def k1c2 : Code := { maxStack := 2, maxLocals := 4, code := method_3_code, exceptionTable := #[], attributes := #[] }
def k1m2 : Method := { name := "inList", desc := "(BIBB)Z", sig := { parameters := [.byte, .int, .byte, .byte], returnType := some .boolean }, accessFlags := 10, code := some k1c2 }
def k1c3 : Code := { maxStack := 4, maxLocals := 18, code := code, exceptionTable := #[], attributes := #[] }
def k1m3 : Method := { name := "law", desc := "(IIIII)Z", sig := { parameters := [.int, .int, .int, .int, .int], returnType := some .boolean }, accessFlags := 9, code := some k1c3 }
/-- com/example/governor/governor/server/StopAtBeginsPinLaw -/
def k1 : Class := { plain "com/example/governor/governor/server/StopAtBeginsPinLaw" (some 0) with
  accessFlags := 49
  interfaces := #[]
  cf := some (fileOf pool1 8 #[] #[{ accessFlags := 1, nameIndex := 5, descriptorIndex := 6, attributes := #[] }, { accessFlags := 10, nameIndex := 11, descriptorIndex := 12, attributes := #[] }, { accessFlags := 10, nameIndex := 28, descriptorIndex := 29, attributes := #[] }, { accessFlags := 9, nameIndex := 33, descriptorIndex := 34, attributes := #[] }] 49 2 #[] #[])
  fields := #[]
  methods := #[k1m0, k1m1, k1m2, k1m3]
  instanceTypes := #[]
  staticTypes := #[]
  resolved := Array.replicate 43 none
  statics := none }

def pool2 : Array CpInfo := pool [(1, .class_ 2), (0, u "com/example/governor/governor/server/MessageScanner$Listener"), (0, .class_ 4), (0, u "java/lang/Object"), (9, .class_ 15), (0, u "com/example/governor/governor/server/MessageScanner")] 2

/-- com/example/governor/governor/server/MessageScanner$Listener -/
def k2 : Class := { plain "com/example/governor/governor/server/MessageScanner$Listener" (some 0) with
  accessFlags := 1536
  interfaces := #[]
  cf := some (fileOf pool2 1 #[.nestHost 14] #[] 1536 3 #[] #[])
  fields := #[]
  methods := #[]
  instanceTypes := #[]
  staticTypes := #[]
  resolved := Array.replicate 18 none
  statics := none }

def pool3 : Array CpInfo := pool [(1, .methodref 2 3), (0, .class_ 4), (0, .nameAndType 5 6), (0, u "java/lang/Object"), (0, u "<init>"), (0, u "()V"), (0, .fieldref 8 9), (0, .class_ 10), (0, .nameAndType 11 12), (0, u "com/example/governor/governor/server/MessageScanner$StopAt"), (0, u "types"), (0, u "[B"), (0, .fieldref 8 14), (0, .nameAndType 15 16), (0, u "stoppedAt"), (0, u "B"), (0, .class_ 18), (0, u "com/example/governor/governor/server/MessageScanner$Listener"), (0, u "([B)V"), (2, u "begins"), (0, u "(B)Z"), (4, u "()B"), (3, .class_ 33), (0, u "com/example/governor/governor/server/MessageScanner")] 3

def k3c0 : Code := { maxStack := 2, maxLocals := 2, code := prog_43_method_1_code, exceptionTable := #[], attributes := #[] }
def k3m0 : Method := { name := "<init>", desc := "([B)V", sig := { parameters := [(.array .byte)], returnType := none }, accessFlags := 128, code := some k3c0 }
def k3c1 : Code := { maxStack := 2, maxLocals := 6, code := prog_43_method_2_code, exceptionTable := #[], attributes := #[] }
def k3m1 : Method := { name := "begins", desc := "(B)Z", sig := { parameters := [.byte], returnType := some .boolean }, accessFlags := 1, code := some k3c1 }
def k3c2 : Code := { maxStack := 1, maxLocals := 1, code := prog_43_method_4_code, exceptionTable := #[], attributes := #[] }
def k3m2 : Method := { name := "stoppedAt", desc := "()B", sig := { parameters := [], returnType := some .byte }, accessFlags := 0, code := some k3c2 }
/-- com/example/governor/governor/server/MessageScanner$StopAt -/
def k3 : Class := { plain "com/example/governor/governor/server/MessageScanner$StopAt" (some 0) with
  accessFlags := 32
  interfaces := #[2]
  cf := some (fileOf pool3 8 #[.nestHost 32] #[{ accessFlags := 128, nameIndex := 5, descriptorIndex := 19, attributes := #[] }, { accessFlags := 1, nameIndex := 22, descriptorIndex := 23, attributes := #[] }, { accessFlags := 0, nameIndex := 15, descriptorIndex := 28, attributes := #[] }] 32 2 #[17] #[{ accessFlags := 18, nameIndex := 11, descriptorIndex := 12, attributes := #[] }, { accessFlags := 2, nameIndex := 15, descriptorIndex := 16, attributes := #[] }])
  fields := #[{ name := "types", type := (.array .byte), accessFlags := 18, slot := 0, constantValue := 0 }, { name := "stoppedAt", type := .byte, accessFlags := 2, slot := 1, constantValue := 0 }]
  methods := #[k3m0, k3m1, k3m2]
  instanceTypes := #[(.array .byte), .byte]
  staticTypes := #[]
  resolved := Array.replicate 37 none
  statics := none }

def pool4 : Array CpInfo := pool [(1, u "java/lang/Cloneable"), (0, .class_ 1), (0, u "java/lang/Object"), (0, .class_ 3)] 3

/-- java/lang/Cloneable -/
def k4 : Class := { plain "java/lang/Cloneable" (some 0) with
  accessFlags := 1537
  interfaces := #[]
  cf := some (fileOf pool4 2 #[] #[] 1537 4 #[] #[])
  fields := #[]
  methods := #[]
  instanceTypes := #[]
  staticTypes := #[]
  resolved := Array.replicate 8 none
  statics := none }

def pool5 : Array CpInfo := pool [(1, u "java/io/Serializable"), (0, .class_ 1), (0, u "java/lang/Object"), (0, .class_ 3)] 3

/-- java/io/Serializable -/
def k5 : Class := { plain "java/io/Serializable" (some 0) with
  accessFlags := 1537
  interfaces := #[]
  cf := some (fileOf pool5 2 #[] #[] 1537 4 #[] #[])
  fields := #[]
  methods := #[]
  instanceTypes := #[]
  staticTypes := #[]
  resolved := Array.replicate 8 none
  statics := none }

/-- the primitive byte -/
def k6 : Class := { plain "byte" none with kind := .primitive 'B', accessFlags := 0x411 }
/-- [B -/
def k7 : Class := { plain "[B" (some 0) with kind := .array 6 .byte, interfaces := #[4, 5], accessFlags := 1041 }

/-- the primitive int -/
def k8 : Class := { plain "int" none with kind := .primitive 'I', accessFlags := 0x411 }
/-- [I -/
def k9 : Class := { plain "[I" (some 0) with kind := .array 8 .int, interfaces := #[4, 5], accessFlags := 1041 }

def heap : Heap := #[]
def classes : Array Class := #[k0, k1, k2, k3, k4, k5, k6, k7, k8, k9]
def interned : List (Array UInt16 × Addr) := []
def slotsUsed : Nat := 0
def theMethod : MethodId := ⟨1, 3⟩
def args0 : Array Value := #[.int 1, .int 2, .int 3, .int 4, .int 5]
def aboutOver (below : List Frame) : State where
  vm := { classes := classes, interned := interned.toArray }
  heap := heap
  slotsUsed := slotsUsed
  threads := #[{ frames := .invoking theMethod args0 :: below }]
def below0 : List Frame := [.native { method := ⟨0, 0⟩, args := #[] }]
def about1 : State := aboutOver below0
def p0 : Program := .bare "" "" ""
def e0 : Env := launch0.env 0 0 0
theorem w_frames : about1.frames = Frame.invoking theMethod args0 :: below0 := rfl
set_option maxRecDepth 65536 in
theorem w_args : argsFit about1.vm theMethod args0 = true := by decide +kernel
set_option maxRecDepth 65536 in
theorem w_heap : heapFits about1 = true := by decide +kernel
set_option maxRecDepth 65536 in
theorem w_runnable : about1.curStatus? = some .runnable := by decide +kernel
set_option maxRecDepth 65536 in
theorem w_alone : about1.alone = true := by decide +kernel
set_option maxRecDepth 65536 in
theorem w_named : about1.methodNamed? x = some theMethod := by decide +kernel
set_option maxRecDepth 65536 in
theorem w_hears : about1.hears theMethod below0 = true := by decide +kernel
set_option maxRecDepth 65536 in
theorem w_ripe : about1.ripe theMethod args0 below0 = true := by decide +kernel
theorem w_running : about1.status = .running := rfl
set_option maxRecDepth 65536 in
theorem w_room : about1.hasRoom e0.platform room_1 = true :=
  launch0.hasRoom_least _ room_1 (by decide +kernel) (by decide +kernel) (by decide +kernel) (by decide +kernel) (by decide +kernel) (by decide +kernel)
theorem allAtoms_all (ts : List Jvm.Cond) (a : Array Jvm.Value) (st : Jvm.State) : (allAtoms ts).before a st = ts.all (fun c => c.before a st) := by
  induction ts with
  | nil => rfl
  | cons c t ih =>
    show (Jvm.Cond.and c (allAtoms t)).before a st = _
    rw [Jvm.Cond.before_and, ih, List.all_cons]
def words1 : List Jvm.Cond := Jvm.Cond.code x code maxLocals ret :: tables_1
/-- a 'code' word, met by the world's own term for the bytes: nothing is compared byte by byte -/
theorem code_word {y : MethodName} {bytes : ByteArray} {mx : Nat} {rt : Option FieldType} {a : Array Value} {s : State} {m : MethodId} {meth : Method} {c : Code} (h1 : s.methodNamed? y = some m) (h2 : s.vm.method? m = some meth) (h3 : meth.code = some c) (h4 : c.code = bytes)
    (h5 : (c.maxLocals == mx && c.exceptionTable.isEmpty && decide (c.maxStack ≤ mostOperands) && decide (meth.sig.returnType = rt) && !meth.locks && decide (parseMethodDescriptor y.desc = some meth.sig)) = true) : (Jvm.Cond.code y bytes mx rt).before a s = true := by
  simp only [Bool.and_eq_true, beq_iff_eq, Bool.not_eq_true', decide_eq_true_eq] at h5
  obtain ⟨⟨⟨⟨⟨g1, g2⟩, g3⟩, g4⟩, g5⟩, g6⟩ := h5
  simp [Cond.before, Cond.holds, Cond.value, h1, h2, h3, h4, g1, g2, g3, g4, g5, g6]
def isCode : Jvm.Cond → Bool
  | .code _ _ _ _ => true
  | _ => false
theorem all_split {L : List Jvm.Cond} {P : Jvm.Cond → Bool} (h1 : L.all (fun c => isCode c || P c) = true) (h2 : ∀ c ∈ L.filter isCode, P c = true) : L.all P = true := by
  refine List.all_eq_true.mpr fun c hc => ?_
  have h := List.all_eq_true.mp h1 c hc
  rcases Bool.eq_false_or_eq_true (isCode c) with hi | hi
  · exact h2 c (List.mem_filter.mpr ⟨hc, hi⟩)
  · simpa [hi] using h
set_option maxRecDepth 65536 in
theorem w_c0 : (Jvm.Cond.code x code maxLocals ret).before args0 about1 = true := code_word (m := ⟨1, 3⟩) (meth := k1m3) (c := k1c3) (by decide +kernel) rfl rfl rfl (by decide +kernel)
set_option maxRecDepth 65536 in
theorem w_c1 : (Jvm.Cond.code ({ cls := "com/example/governor/governor/server/StopAtBeginsPinLaw", name := "pick", desc := "(IBBB)B" } : Jvm.MethodName) method_2_code (5 : Nat) (Option.some Jvm.ClassFile.FieldType.byte)).before args0 about1 = true := code_word (m := ⟨1, 1⟩) (meth := k1m1) (c := k1c1) (by decide +kernel) rfl rfl rfl (by decide +kernel)
set_option maxRecDepth 65536 in
theorem w_c2 : (Jvm.Cond.code ({ cls := "com/example/governor/governor/server/MessageScanner$StopAt", name := "<init>", desc := "([B)V" } : Jvm.MethodName) prog_43_method_1_code (2 : Nat) (Option.none : Option Jvm.ClassFile.FieldType)).before args0 about1 = true := code_word (m := ⟨3, 0⟩) (meth := k3m0) (c := k3c0) (by decide +kernel) rfl rfl rfl (by decide +kernel)
set_option maxRecDepth 65536 in
theorem w_c3 : (Jvm.Cond.code ({ cls := "java/lang/Object", name := "<init>", desc := "()V" } : Jvm.MethodName) object_method_1_code (1 : Nat) (Option.none : Option Jvm.ClassFile.FieldType)).before args0 about1 = true := code_word (m := ⟨0, 0⟩) (meth := k0m0) (c := k0c0) (by decide +kernel) rfl rfl rfl (by decide +kernel)
set_option maxRecDepth 65536 in
theorem w_c4 : (Jvm.Cond.code ({ cls := "com/example/governor/governor/server/MessageScanner$StopAt", name := "begins", desc := "(B)Z" } : Jvm.MethodName) prog_43_method_2_code (6 : Nat) (Option.some Jvm.ClassFile.FieldType.boolean)).before args0 about1 = true := code_word (m := ⟨3, 1⟩) (meth := k3m1) (c := k3c1) (by decide +kernel) rfl rfl rfl (by decide +kernel)
set_option maxRecDepth 65536 in
theorem w_c5 : (Jvm.Cond.code ({ cls := "com/example/governor/governor/server/MessageScanner$StopAt", name := "stoppedAt", desc := "()B" } : Jvm.MethodName) prog_43_method_4_code (1 : Nat) (Option.some Jvm.ClassFile.FieldType.byte)).before args0 about1 = true := code_word (m := ⟨3, 2⟩) (meth := k3m2) (c := k3c2) (by decide +kernel) rfl rfl rfl (by decide +kernel)
set_option maxRecDepth 65536 in
theorem w_c6 : (Jvm.Cond.code ({ cls := "com/example/governor/governor/server/StopAtBeginsPinLaw", name := "inList", desc := "(BIBB)Z" } : Jvm.MethodName) method_3_code (4 : Nat) (Option.some Jvm.ClassFile.FieldType.boolean)).before args0 about1 = true := code_word (m := ⟨1, 2⟩) (meth := k1m2) (c := k1c2) (by decide +kernel) rfl rfl rfl (by decide +kernel)
def codes1 : List Jvm.Cond := [Jvm.Cond.code x code maxLocals ret, Jvm.Cond.code ({ cls := "com/example/governor/governor/server/StopAtBeginsPinLaw", name := "pick", desc := "(IBBB)B" } : Jvm.MethodName) method_2_code (5 : Nat) (Option.some Jvm.ClassFile.FieldType.byte), Jvm.Cond.code ({ cls := "com/example/governor/governor/server/MessageScanner$StopAt", name := "<init>", desc := "([B)V" } : Jvm.MethodName) prog_43_method_1_code (2 : Nat) (Option.none : Option Jvm.ClassFile.FieldType), Jvm.Cond.code ({ cls := "java/lang/Object", name := "<init>", desc := "()V" } : Jvm.MethodName) object_method_1_code (1 : Nat) (Option.none : Option Jvm.ClassFile.FieldType), Jvm.Cond.code ({ cls := "com/example/governor/governor/server/MessageScanner$StopAt", name := "begins", desc := "(B)Z" } : Jvm.MethodName) prog_43_method_2_code (6 : Nat) (Option.some Jvm.ClassFile.FieldType.boolean), Jvm.Cond.code ({ cls := "com/example/governor/governor/server/MessageScanner$StopAt", name := "stoppedAt", desc := "()B" } : Jvm.MethodName) prog_43_method_4_code (1 : Nat) (Option.some Jvm.ClassFile.FieldType.byte), Jvm.Cond.code ({ cls := "com/example/governor/governor/server/StopAtBeginsPinLaw", name := "inList", desc := "(BIBB)Z" } : Jvm.MethodName) method_3_code (4 : Nat) (Option.some Jvm.ClassFile.FieldType.boolean)]
set_option maxRecDepth 65536 in
theorem codes_eq : words1.filter isCode = codes1 := rfl
theorem w_codes : ∀ c ∈ words1.filter isCode, c.before args0 about1 = true := by
  rw [codes_eq]
  intro c hc
  simp only [codes1, List.mem_cons, List.not_mem_nil, or_false] at hc
  rcases hc with rfl | rfl | rfl | rfl | rfl | rfl | rfl
  · exact w_c0
  · exact w_c1
  · exact w_c2
  · exact w_c3
  · exact w_c4
  · exact w_c5
  · exact w_c6
set_option maxRecDepth 65536 in
theorem w_t1 : (words1.take 24).all (fun c => isCode c || c.before args0 about1) = true := by decide +kernel
set_option maxRecDepth 65536 in
theorem w_t2 : (words1.drop 24).all (fun c => isCode c || c.before args0 about1) = true := by decide +kernel
theorem w_tables : (allAtoms (Jvm.Cond.code x code maxLocals ret :: tables_1)).before args0 about1 = true := by
  rw [allAtoms_all]
  show words1.all (fun c => c.before args0 about1) = true
  refine all_split ?_ w_codes
  rw [← List.take_append_drop 24 words1, List.all_append, w_t1, w_t2]
  rfl
set_option maxRecDepth 65536 in
theorem w_case : (Jvm.Cond.and given_1 narrow_1).before args0 about1 = true := by decide +kernel
theorem w_applies : (headSpec (Jvm.Cond.code x code maxLocals ret :: tables_1) room_1).applies x e0.platform about1 = true :=
  (Spec.applies_iff w_frames).mpr ⟨w_running, w_runnable, w_alone, w_named, w_hears, w_ripe, w_room, w_tables⟩
theorem atStart : AtStart classFile x code maxLocals ret World_1 tables_1 room_1 Calls_1 rest_1 Pre_1 launch0 p0 e0 about1 theMethod args0 below0 :=
  ⟨lists_1, trivial, launch0.admits_env _ _ _, launch0.least_env, fairChoices_fair.cas, fairChoices_fair.clock, w_frames, w_args, w_heap, w_applies, trivial, trivial, w_case⟩
end start1
theorem witness_1 : WitnessClaimed_1 := ⟨start1.p0, start1.e0, start1.about1, start1.theMethod, start1.args0, start1.below0, start1.atStart⟩
end Jvm.Pilot.@@N@@
