import JvmDerived
import JvmDerived.Pilot.@@N@@Statement
import JvmDerived.Pilot.@@N@@Code
set_option linter.unusedVariables false
set_option linter.unusedSimpArgs false
@@BLOCK:NumsL.lean.txt@@
namespace Jvm.RoadKit
open Sem ClassFile Op Lib Jvm.Stand Jvm.Free Jvm.LawKit
section New
variable {p : Program} {l : Launch} {e : Env} {R : Room} {s : State} {m : MethodId} {args : Array Value} {below : List Frame} {meth : Method} {c : Code} {T : State} {locs : List Loc} {cells slots : Nat}
theorem retI (X : Stand p l e R s m args below meth c T locs cells slots) (hx : p.tables.exec = Jvm.exec) {pc : Nat} {Ls : Array Slot} {z : Int32} {rest : List Value} (hret : meth.sig.returnType = some .int) (hd : decode c.code pc = .ok (.ireturn, 1)) {fs : List Frame}
    (hl : ∀ (f : JFrame) (acts : List Action), f.method = m → f.locked = none → f.entered = [] → (doReturn e (T.setTop f) acts (some (.int z))).1 = T.setFrames fs) : Steps p.tables e below (T.setTop (mkF m pc Ls (.int z :: rest))) (T.setFrames fs) :=
  retOut X hx hret rfl (Or.inl ⟨rfl, Or.inl rfl, z, rfl⟩) hd hl
end New
end Jvm.RoadKit
namespace Jvm.Pilot.@@N@@
open Jvm Jvm.ClassFile Sem Op Lib Jvm.Free Jvm.Stand Jvm.LawKit Jvm.RoadKit Bundle Jvm.Pilot.@@N@@.Jvm.D
theorem d1_0 : decode prog_11_method_3_code 0 = .ok (.iload_n 2, 1) := by decide +kernel
theorem d1_1 : decode prog_11_method_3_code 1 = .ok (.ifCond .gt 17, 3) := by decide +kernel
theorem d1_18 : decode prog_11_method_3_code 18 = .ok (.lload_n 0, 1) := by decide +kernel
theorem d1_19 : decode prog_11_method_3_code 19 = .ok (.iload_n 2, 1) := by decide +kernel
theorem d1_20 : decode prog_11_method_3_code 20 = .ok (.invokestatic 46, 3) := by decide +kernel
theorem d1_23 : decode prog_11_method_3_code 23 = .ok (.lreturn, 1) := by decide +kernel
theorem d2_0 : decode jdk_29_method_48_code 0 = .ok (.lload_n 0, 1) := by decide +kernel
theorem d2_1 : decode jdk_29_method_48_code 1 = .ok (.iload_n 2, 1) := by decide +kernel
theorem d2_2 : decode jdk_29_method_48_code 2 = .ok (.i2l, 1) := by decide +kernel
theorem d2_3 : decode jdk_29_method_48_code 3 = .ok (.invokestatic 143, 3) := by decide +kernel
theorem d2_6 : decode jdk_29_method_48_code 6 = .ok (.lreturn, 1) := by decide +kernel
theorem d3_0 : decode jdk_29_method_49_code 0 = .ok (.lload_n 0, 1) := by decide +kernel
theorem d3_1 : decode jdk_29_method_49_code 1 = .ok (.lload_n 2, 1) := by decide +kernel
theorem d3_2 : decode jdk_29_method_49_code 2 = .ok (.ldiv, 1) := by decide +kernel
theorem d3_3 : decode jdk_29_method_49_code 3 = .ok (.lstore 4, 2) := by decide +kernel
theorem d3_5 : decode jdk_29_method_49_code 5 = .ok (.lload_n 0, 1) := by decide +kernel
theorem d3_6 : decode jdk_29_method_49_code 6 = .ok (.lload_n 2, 1) := by decide +kernel
theorem d3_7 : decode jdk_29_method_49_code 7 = .ok (.lxor, 1) := by decide +kernel
theorem d3_8 : decode jdk_29_method_49_code 8 = .ok (.lconst 0, 1) := by decide +kernel
theorem d3_9 : decode jdk_29_method_49_code 9 = .ok (.lcmp, 1) := by decide +kernel
theorem d3_10 : decode jdk_29_method_49_code 10 = .ok (.ifCond .ge 17, 3) := by decide +kernel
theorem d3_13 : decode jdk_29_method_49_code 13 = .ok (.lload 4, 2) := by decide +kernel
theorem d3_15 : decode jdk_29_method_49_code 15 = .ok (.lload_n 2, 1) := by decide +kernel
theorem d3_16 : decode jdk_29_method_49_code 16 = .ok (.lmul, 1) := by decide +kernel
theorem d3_17 : decode jdk_29_method_49_code 17 = .ok (.lload_n 0, 1) := by decide +kernel
theorem d3_18 : decode jdk_29_method_49_code 18 = .ok (.lcmp, 1) := by decide +kernel
theorem d3_19 : decode jdk_29_method_49_code 19 = .ok (.ifCond .eq 8, 3) := by decide +kernel
theorem d3_22 : decode jdk_29_method_49_code 22 = .ok (.lload 4, 2) := by decide +kernel
theorem d3_24 : decode jdk_29_method_49_code 24 = .ok (.lconst 1, 1) := by decide +kernel
theorem d3_25 : decode jdk_29_method_49_code 25 = .ok (.lsub, 1) := by decide +kernel
theorem d3_26 : decode jdk_29_method_49_code 26 = .ok (.lreturn, 1) := by decide +kernel
theorem d3_27 : decode jdk_29_method_49_code 27 = .ok (.lload 4, 2) := by decide +kernel
theorem d3_29 : decode jdk_29_method_49_code 29 = .ok (.lreturn, 1) := by decide +kernel
theorem pd_0 : parseMethodDescriptor "(JJ)J" = some ⟨[.long, .long], some .long⟩ := by decide +kernel
theorem pd_1 : parseMethodDescriptor "(JI)J" = some ⟨[.long, .int], some .long⟩ := by decide +kernel
def own_fl (q r : Int64) : Int64 := if ¬ (lcmpW (q ^^^ r) 0 < 0) then q / r else if lcmpW ((q / r) * r) q = 0 then q / r else q / r - 1
def own_ex (q r : Int64) : Int64 := if lcmpW (q - (q / r) * r) 0 = 0 then q / r else if ¬ (lcmpW q 0 < 0) then q / r else q / r - 1
theorem own_xneg (q r : Int64) (hr : 0 < r.toInt) : (q ^^^ r) < 0 ↔ q < 0 := by
  rw [Int64.lt_iff_toInt_lt, Int64.lt_iff_toInt_lt]
  have a : ∀ z : Int64, z.toInt < (0 : Int64).toInt ↔ z.toBitVec.msb = true := fun z => by
    rw [Int64.toInt_zero]
    show z.toBitVec.toInt < 0 ↔ _
    rw [BitVec.msb_eq_toInt]; simp
  rw [a, a, Int64.toBitVec_xor, BitVec.msb_xor]
  have hb : r.toBitVec.msb = false := by
    rw [BitVec.msb_eq_toInt]
    have : r.toBitVec.toInt = r.toInt := rfl
    simp [this]; omega
  simp [hb]
theorem own_law (q r : Int64) (hr : 0 < r.toInt) : own_fl q r = own_ex q r := by
  unfold own_fl own_ex
  simp only [lw_lt, lw_eq, own_xneg q r hr]
  have e : (q / r * r = q) ↔ (q - q / r * r = 0) := by
    constructor
    · intro h; rw [h]; exact Int64.sub_self q
    · intro h
      have h2 : q / r * r = q := by
        have h3 : q - q / r * r + q / r * r = q := Int64.sub_add_cancel q _
        rw [h, Int64.zero_add] at h3
        exact h3
      exact h2
  by_cases h0 : q < 0 <;> by_cases h1 : q - q / r * r = 0 <;> simp only [h0, h1, e, not_true, not_false_iff, if_true, if_false]
theorem own_i2l {z : Int32} (h : 0 < z.toInt) : 0 < z.toInt64.toInt := by rw [Int32.toInt_toInt64]; exact h
theorem own_nz {r : Int64} (h : 0 < r.toInt) : r ≠ 0 := fun e => by rw [e] at h; exact absurd h (by decide)
theorem own_s1 (p : Int32) : 0 < ((p &&& (63 : Int32)) + (1 : Int32)).toInt := by
  have hm : (p &&& 63).toInt = p.toInt % 2 ^ 6 := Jvm.Kit.i32_mask p 63 (k := 6) (by decide) (by decide)
  have c1 : (1 : Int32).toInt = 1 := by decide
  have h2 : ((p &&& 63) + 1).toInt = (p &&& 63).toInt + (1 : Int32).toInt := Jvm.Kit.i32_add (by omega) (by omega)
  omega
theorem own_s2 (p : Int32) : 0 ≤ (p &&& (2147483647 : Int32)).toInt := by
  have hm : (p &&& 2147483647).toInt = p.toInt % 2 ^ 31 := Jvm.Kit.i32_mask p 2147483647 (k := 31) (by decide) (by decide)
  omega
theorem own_st70 {q0 d : Int64} {p2 p3 sc : Int32} {vv : Int64} {s7 s8 : Slot} (h : (s7 = .unset ∧ s8 = .unset) ∨ ∃ d : Int64, s7 = .val (.long d) ∧ s8 = .second) :
    storeLocals #[.val (.long q0), .second, .val (.int p2), .val (.int p3), .val (.int sc), .val (.long vv), .second, s7, s8] 7 (.long d) = some #[.val (.long q0), .second, .val (.int p2), .val (.int p3), .val (.int sc), .val (.long vv), .second, .val (.long d), .second] := by
  rcases h with ⟨rfl, rfl⟩ | ⟨e, rfl, rfl⟩ <;> rfl
theorem ef_3 (m : MethodId) (q1 : Int64) (r1 : Int64) : entryFrame m #[(.long q1), (.long r1)] 6 = (mkF m 0 #[.val (.long q1), .second, .val (.long r1), .second, .unset, .unset] []) := by first | (simp [entryFrame, mkF, argsToLocals, Value.category]; done) | rfl
theorem ef_2 (m : MethodId) (q1 : Int64) (p1 : Int32) : entryFrame m #[(.long q1), (.int p1)] 3 = (mkF m 0 #[.val (.long q1), .second, .val (.int p1)] []) := by first | (simp [entryFrame, mkF, argsToLocals, Value.category]; done) | rfl
theorem ef_1 (m : MethodId) (q1 : Int64) (p1 : Int32) : entryFrame m #[(.long q1), (.int p1)] 3 = (mkF m 0 #[.val (.long q1), .second, .val (.int p1)] []) := by first | (simp [entryFrame, mkF, argsToLocals, Value.category]; done) | rfl
theorem pn_1 : plainName "com/example/sekisho/sekisho/otp/OneTimePassword" = true := by first | (simp [plainName, overriddenIn]; done) | decide +kernel
theorem ef_0 (m : MethodId) (q0 : Int64) (p2 : Int32) (p3 : Int32) : entryFrame m #[(.long q0), (.int p2), (.int p3)] maxLocals = (mkF m 0 #[.val (.long q0), .second, .val (.int p2), .val (.int p3), .unset, .unset, .unset, .unset, .unset] []) := by first | (simp [entryFrame, mkF, argsToLocals, Value.category, maxLocals]; done) | rfl
theorem pn_0 : plainName "com/example/sekisho/sekisho/otp/OneTimePasswordTimeStepPinLaw" = true := by first | (simp [plainName, overriddenIn]; done) | decide +kernel
def Q3 (Z : State) (q1 r1 : Int64) (h0 : Heap) (n0 : Nat) (v : Option Value) (h : Heap) (L : List Loc) : Prop := v = some (.long (own_fl q1 r1)) ∧ Fr n0 L ∧ h = h0
set_option maxRecDepth 65536 in
set_option maxHeartbeats 40000000 in
theorem rm3 (l : Launch) (Z : State) (a0 : Array Value) (hw : ∀ d ∈ tables_1, d.before a0 Z = true) (ws : List Jvm.Cond) (q1 r1 : Int64) (h0 : Heap) (n0 : Nat) (Z0 : n0 ≤ h0.size) (hr1 : 0 < r1.toInt) :
    MetFree l (⟨"java/lang/Math", "floorDiv", "(JJ)J"⟩ : MethodName) (head1 (Jvm.Cond.code (⟨"java/lang/Math", "floorDiv", "(JJ)J"⟩ : MethodName) jdk_29_method_49_code 6 (some .long) :: ws) ({ frames := 0, cells := 0, slots := 0, locals := 0 } : Room)) (fun a U => a = #[(.long q1), (.long r1)] ∧ Z.Warmed39 U.vm ∧ U.heap = h0) (fun _ _ _ _ _ => True) (fun _ U o U' => ∃ v L, o = .returned v ∧ Q3 Z q1 r1 h0 n0 v U'.heap L ∧ FrameEnd U o U' L ({ frames := 0, cells := 0, slots := 0, locals := 0 } : Room).cells ({ frames := 0, cells := 0, slots := 0, locals := 0 } : Room).slots) := by
  refine MetFree.of_bodySF (Jvm.Free.JP.mathPlain rfl (by decide +kernel)) hisR ?_
  intro p e s m args below meth c s₁ Bd hml0 hP hK
  obtain ⟨rfl, hZ, hh⟩ := hP
  have hx := Bd.exec
  have hby := Bd.bytes
  have hml : c.maxLocals = 6 := hml0
  have hown : s.vm.findClass "java/lang/Math" = some m.cls := findClass_of_methodNamed Bd.named
  have hnm := (name_of_methodNamed Bd.named Bd.method).1
  have X0 : Stand p l e ({ frames := 0, cells := 0, slots := 0, locals := 0 } : Room) s m #[(.long q1), (.long r1)] below meth c s₁ [] 0 0 := Stand.of_body Bd
  have e0 : s₁.heap = h0 := by rw [← hh, Bd.state]; rfl
  have N0 := Fr.nil n0
  have pre0 : ∀ t, Steps p.tables e below (s₁.setTop (mkF m 0 #[.val (.long q1), .second, .val (.long r1), .second, .unset, .unset] [])) t → Steps p.tables e below (s₁.setTop (entryFrame m #[(.long q1), (.long r1)] 6)) t := fun t k => castTop (ef_3 m q1 r1) k
  have pre1 : ∀ t, Steps p.tables e below (s₁.setTop (mkF m 5 #[.val (.long q1), .second, .val (.long r1), .second, .val (.long (q1 / r1)), .second] [])) t → Steps p.tables e below (s₁.setTop (entryFrame m #[(.long q1), (.long r1)] 6)) t := by
    intro t k
    refine pre0 t ?_
    show Steps p.tables e below (s₁.setTop (mkF m 0 #[.val (.long q1), .second, .val (.long r1), .second, .unset, .unset] [])) _
    refine XS.lloadN X0.here hx rfl (hb hby d3_0) rfl ?_
    show Steps p.tables e below (s₁.setTop (mkF m 1 #[.val (.long q1), .second, .val (.long r1), .second, .unset, .unset] [(.long q1)])) _
    refine XS.lloadN X0.here hx rfl (hb hby d3_1) rfl ?_
    show Steps p.tables e below (s₁.setTop (mkF m 2 #[.val (.long q1), .second, .val (.long r1), .second, .unset, .unset] [(.long r1), (.long q1)])) _
    refine XS.ldiv X0.here hx rfl (hb hby d3_2) rfl (own_nz hr1) ?_
    show Steps p.tables e below (s₁.setTop (mkF m 3 #[.val (.long q1), .second, .val (.long r1), .second, .unset, .unset] [(.long (q1 / r1))])) _
    refine XS.lstore X0.here hx rfl (hb hby d3_3) rfl (l' := #[.val (.long q1), .second, .val (.long r1), .second, .val (.long (q1 / r1)), .second]) rfl ?_
    exact k
  by_cases c10 : lcmpW (q1 ^^^ r1) (0 : Int64) < 0
  · by_cases c19 : lcmpW ((q1 / r1) * r1) q1 = 0
    · skip
      obtain ⟨fs, hr, hrun, hended, hW, hsame⟩ := X0.leave (v := some (.long (q1 / r1))) (fun h => by rw [Bd.returns] at h; cases h)
      refine ⟨_, _, pre1 _ ?_, hrun, hended, _, _, rfl, ?_, ⟨_, rfl⟩, hW, hsame.mono (by decide) (by decide)⟩
      · show Steps p.tables e below (s₁.setTop (mkF m 5 #[.val (.long q1), .second, .val (.long r1), .second, .val (.long (q1 / r1)), .second] [])) _
        refine XS.lloadN X0.here hx rfl (hb hby d3_5) rfl ?_
        show Steps p.tables e below (s₁.setTop (mkF m 6 #[.val (.long q1), .second, .val (.long r1), .second, .val (.long (q1 / r1)), .second] [(.long q1)])) _
        refine XS.lloadN X0.here hx rfl (hb hby d3_6) rfl ?_
        show Steps p.tables e below (s₁.setTop (mkF m 7 #[.val (.long q1), .second, .val (.long r1), .second, .val (.long (q1 / r1)), .second] [(.long r1), (.long q1)])) _
        refine XS.lxor X0.here hx rfl (hb hby d3_7) rfl ?_
        show Steps p.tables e below (s₁.setTop (mkF m 8 #[.val (.long q1), .second, .val (.long r1), .second, .val (.long (q1 / r1)), .second] [(.long (q1 ^^^ r1))])) _
        refine XS.lconst X0.here hx rfl (hb hby d3_8) ?_
        show Steps p.tables e below (s₁.setTop (mkF m 9 #[.val (.long q1), .second, .val (.long r1), .second, .val (.long (q1 / r1)), .second] [(.long (0 : Int64)), (.long (q1 ^^^ r1))])) _
        refine XS.lcmp X0.here hx rfl (hb hby d3_9) rfl ?_
        show Steps p.tables e below (s₁.setTop (mkF m 10 #[.val (.long q1), .second, .val (.long r1), .second, .val (.long (q1 / r1)), .second] [(.int (lcmpW (q1 ^^^ r1) (0 : Int64)))])) _
        refine XS.ifNo X0.here hx rfl (hb hby d3_10) rfl ((if0 _ _).trans (tlt c10).2.1) ?_
        show Steps p.tables e below (s₁.setTop (mkF m 13 #[.val (.long q1), .second, .val (.long r1), .second, .val (.long (q1 / r1)), .second] [])) _
        refine XS.lload X0.here hx rfl (hb hby d3_13) rfl ?_
        show Steps p.tables e below (s₁.setTop (mkF m 15 #[.val (.long q1), .second, .val (.long r1), .second, .val (.long (q1 / r1)), .second] [(.long (q1 / r1))])) _
        refine XS.lloadN X0.here hx rfl (hb hby d3_15) rfl ?_
        show Steps p.tables e below (s₁.setTop (mkF m 16 #[.val (.long q1), .second, .val (.long r1), .second, .val (.long (q1 / r1)), .second] [(.long r1), (.long (q1 / r1))])) _
        refine XS.lmul X0.here hx rfl (hb hby d3_16) rfl ?_
        show Steps p.tables e below (s₁.setTop (mkF m 17 #[.val (.long q1), .second, .val (.long r1), .second, .val (.long (q1 / r1)), .second] [(.long ((q1 / r1) * r1))])) _
        refine XS.lloadN X0.here hx rfl (hb hby d3_17) rfl ?_
        show Steps p.tables e below (s₁.setTop (mkF m 18 #[.val (.long q1), .second, .val (.long r1), .second, .val (.long (q1 / r1)), .second] [(.long q1), (.long ((q1 / r1) * r1))])) _
        refine XS.lcmp X0.here hx rfl (hb hby d3_18) rfl ?_
        show Steps p.tables e below (s₁.setTop (mkF m 19 #[.val (.long q1), .second, .val (.long r1), .second, .val (.long (q1 / r1)), .second] [(.int (lcmpW ((q1 / r1) * r1) q1))])) _
        refine XS.ifYes X0.here hx rfl (pc0 := 19) (pc' := 27) rfl (hb hby d3_19) rfl ((if0 _ _).trans (teq c19).1) (by decide) (by decide) ?_
        show Steps p.tables e below (s₁.setTop (mkF m 27 #[.val (.long q1), .second, .val (.long r1), .second, .val (.long (q1 / r1)), .second] [])) _
        refine XS.lload X0.here hx rfl (hb hby d3_27) rfl ?_
        show Steps p.tables e below (s₁.setTop (mkF m 29 #[.val (.long q1), .second, .val (.long r1), .second, .val (.long (q1 / r1)), .second] [(.long (q1 / r1))])) _
        exact X0.lreturnOut hx Bd.returns (hb hby d3_29) hr
      · show Q3 Z q1 r1 h0 n0 _ s₁.heap _
        rw [e0]
        exact ⟨by unfold own_fl; rw [if_neg (not_not_intro c10), if_pos c19], N0, rfl⟩
    · skip
      obtain ⟨fs, hr, hrun, hended, hW, hsame⟩ := X0.leave (v := some (.long ((q1 / r1) - (1 : Int64)))) (fun h => by rw [Bd.returns] at h; cases h)
      refine ⟨_, _, pre1 _ ?_, hrun, hended, _, _, rfl, ?_, ⟨_, rfl⟩, hW, hsame.mono (by decide) (by decide)⟩
      · show Steps p.tables e below (s₁.setTop (mkF m 5 #[.val (.long q1), .second, .val (.long r1), .second, .val (.long (q1 / r1)), .second] [])) _
        refine XS.lloadN X0.here hx rfl (hb hby d3_5) rfl ?_
        show Steps p.tables e below (s₁.setTop (mkF m 6 #[.val (.long q1), .second, .val (.long r1), .second, .val (.long (q1 / r1)), .second] [(.long q1)])) _
        refine XS.lloadN X0.here hx rfl (hb hby d3_6) rfl ?_
        show Steps p.tables e below (s₁.setTop (mkF m 7 #[.val (.long q1), .second, .val (.long r1), .second, .val (.long (q1 / r1)), .second] [(.long r1), (.long q1)])) _
        refine XS.lxor X0.here hx rfl (hb hby d3_7) rfl ?_
        show Steps p.tables e below (s₁.setTop (mkF m 8 #[.val (.long q1), .second, .val (.long r1), .second, .val (.long (q1 / r1)), .second] [(.long (q1 ^^^ r1))])) _
        refine XS.lconst X0.here hx rfl (hb hby d3_8) ?_
        show Steps p.tables e below (s₁.setTop (mkF m 9 #[.val (.long q1), .second, .val (.long r1), .second, .val (.long (q1 / r1)), .second] [(.long (0 : Int64)), (.long (q1 ^^^ r1))])) _
        refine XS.lcmp X0.here hx rfl (hb hby d3_9) rfl ?_
        show Steps p.tables e below (s₁.setTop (mkF m 10 #[.val (.long q1), .second, .val (.long r1), .second, .val (.long (q1 / r1)), .second] [(.int (lcmpW (q1 ^^^ r1) (0 : Int64)))])) _
        refine XS.ifNo X0.here hx rfl (hb hby d3_10) rfl ((if0 _ _).trans (tlt c10).2.1) ?_
        show Steps p.tables e below (s₁.setTop (mkF m 13 #[.val (.long q1), .second, .val (.long r1), .second, .val (.long (q1 / r1)), .second] [])) _
        refine XS.lload X0.here hx rfl (hb hby d3_13) rfl ?_
        show Steps p.tables e below (s₁.setTop (mkF m 15 #[.val (.long q1), .second, .val (.long r1), .second, .val (.long (q1 / r1)), .second] [(.long (q1 / r1))])) _
        refine XS.lloadN X0.here hx rfl (hb hby d3_15) rfl ?_
        show Steps p.tables e below (s₁.setTop (mkF m 16 #[.val (.long q1), .second, .val (.long r1), .second, .val (.long (q1 / r1)), .second] [(.long r1), (.long (q1 / r1))])) _
        refine XS.lmul X0.here hx rfl (hb hby d3_16) rfl ?_
        show Steps p.tables e below (s₁.setTop (mkF m 17 #[.val (.long q1), .second, .val (.long r1), .second, .val (.long (q1 / r1)), .second] [(.long ((q1 / r1) * r1))])) _
        refine XS.lloadN X0.here hx rfl (hb hby d3_17) rfl ?_
        show Steps p.tables e below (s₁.setTop (mkF m 18 #[.val (.long q1), .second, .val (.long r1), .second, .val (.long (q1 / r1)), .second] [(.long q1), (.long ((q1 / r1) * r1))])) _
        refine XS.lcmp X0.here hx rfl (hb hby d3_18) rfl ?_
        show Steps p.tables e below (s₁.setTop (mkF m 19 #[.val (.long q1), .second, .val (.long r1), .second, .val (.long (q1 / r1)), .second] [(.int (lcmpW ((q1 / r1) * r1) q1))])) _
        refine XS.ifNo X0.here hx rfl (hb hby d3_19) rfl ((if0 _ _).trans (feq c19).1) ?_
        show Steps p.tables e below (s₁.setTop (mkF m 22 #[.val (.long q1), .second, .val (.long r1), .second, .val (.long (q1 / r1)), .second] [])) _
        refine XS.lload X0.here hx rfl (hb hby d3_22) rfl ?_
        show Steps p.tables e below (s₁.setTop (mkF m 24 #[.val (.long q1), .second, .val (.long r1), .second, .val (.long (q1 / r1)), .second] [(.long (q1 / r1))])) _
        refine XS.lconst X0.here hx rfl (hb hby d3_24) ?_
        show Steps p.tables e below (s₁.setTop (mkF m 25 #[.val (.long q1), .second, .val (.long r1), .second, .val (.long (q1 / r1)), .second] [(.long (1 : Int64)), (.long (q1 / r1))])) _
        refine XS.lsub X0.here hx rfl (hb hby d3_25) rfl ?_
        show Steps p.tables e below (s₁.setTop (mkF m 26 #[.val (.long q1), .second, .val (.long r1), .second, .val (.long (q1 / r1)), .second] [(.long ((q1 / r1) - (1 : Int64)))])) _
        exact X0.lreturnOut hx Bd.returns (hb hby d3_26) hr
      · show Q3 Z q1 r1 h0 n0 _ s₁.heap _
        rw [e0]
        exact ⟨by unfold own_fl; rw [if_neg (not_not_intro c10), if_neg c19], N0, rfl⟩
  · skip
    obtain ⟨fs, hr, hrun, hended, hW, hsame⟩ := X0.leave (v := some (.long (q1 / r1))) (fun h => by rw [Bd.returns] at h; cases h)
    refine ⟨_, _, pre1 _ ?_, hrun, hended, _, _, rfl, ?_, ⟨_, rfl⟩, hW, hsame.mono (by decide) (by decide)⟩
    · show Steps p.tables e below (s₁.setTop (mkF m 5 #[.val (.long q1), .second, .val (.long r1), .second, .val (.long (q1 / r1)), .second] [])) _
      refine XS.lloadN X0.here hx rfl (hb hby d3_5) rfl ?_
      show Steps p.tables e below (s₁.setTop (mkF m 6 #[.val (.long q1), .second, .val (.long r1), .second, .val (.long (q1 / r1)), .second] [(.long q1)])) _
      refine XS.lloadN X0.here hx rfl (hb hby d3_6) rfl ?_
      show Steps p.tables e below (s₁.setTop (mkF m 7 #[.val (.long q1), .second, .val (.long r1), .second, .val (.long (q1 / r1)), .second] [(.long r1), (.long q1)])) _
      refine XS.lxor X0.here hx rfl (hb hby d3_7) rfl ?_
      show Steps p.tables e below (s₁.setTop (mkF m 8 #[.val (.long q1), .second, .val (.long r1), .second, .val (.long (q1 / r1)), .second] [(.long (q1 ^^^ r1))])) _
      refine XS.lconst X0.here hx rfl (hb hby d3_8) ?_
      show Steps p.tables e below (s₁.setTop (mkF m 9 #[.val (.long q1), .second, .val (.long r1), .second, .val (.long (q1 / r1)), .second] [(.long (0 : Int64)), (.long (q1 ^^^ r1))])) _
      refine XS.lcmp X0.here hx rfl (hb hby d3_9) rfl ?_
      show Steps p.tables e below (s₁.setTop (mkF m 10 #[.val (.long q1), .second, .val (.long r1), .second, .val (.long (q1 / r1)), .second] [(.int (lcmpW (q1 ^^^ r1) (0 : Int64)))])) _
      refine XS.ifYes X0.here hx rfl (pc0 := 10) (pc' := 27) rfl (hb hby d3_10) rfl ((if0 _ _).trans (flt c10).2.1) (by decide) (by decide) ?_
      show Steps p.tables e below (s₁.setTop (mkF m 27 #[.val (.long q1), .second, .val (.long r1), .second, .val (.long (q1 / r1)), .second] [])) _
      refine XS.lload X0.here hx rfl (hb hby d3_27) rfl ?_
      show Steps p.tables e below (s₁.setTop (mkF m 29 #[.val (.long q1), .second, .val (.long r1), .second, .val (.long (q1 / r1)), .second] [(.long (q1 / r1))])) _
      exact X0.lreturnOut hx Bd.returns (hb hby d3_29) hr
    · show Q3 Z q1 r1 h0 n0 _ s₁.heap _
      rw [e0]
      exact ⟨by unfold own_fl; rw [if_pos c10], N0, rfl⟩
def Q2 (Z : State) (q1 : Int64) (p1 : Int32) (h0 : Heap) (n0 : Nat) (v : Option Value) (h : Heap) (L : List Loc) : Prop := v = some (.long (own_fl q1 p1.toInt64)) ∧ Fr n0 L ∧ h = h0
set_option maxRecDepth 65536 in
set_option maxHeartbeats 40000000 in
theorem rm2 (l : Launch) (Z : State) (a0 : Array Value) (hw : ∀ d ∈ tables_1, d.before a0 Z = true) (ws : List Jvm.Cond) (q1 : Int64) (p1 : Int32) (h0 : Heap) (n0 : Nat) (Z0 : n0 ≤ h0.size) (hp1 : 0 < p1.toInt) :
    MetFree l (⟨"java/lang/Math", "floorDiv", "(JI)J"⟩ : MethodName) (head1 (Jvm.Cond.code (⟨"java/lang/Math", "floorDiv", "(JI)J"⟩ : MethodName) jdk_29_method_48_code 3 (some .long) :: ws) ({ frames := 1, cells := 0, slots := 0, locals := 17 } : Room)) (fun a U => a = #[(.long q1), (.int p1)] ∧ Z.Warmed39 U.vm ∧ U.heap = h0) (fun _ _ _ _ _ => True) (fun _ U o U' => ∃ v L, o = .returned v ∧ Q2 Z q1 p1 h0 n0 v U'.heap L ∧ FrameEnd U o U' L ({ frames := 1, cells := 0, slots := 0, locals := 17 } : Room).cells ({ frames := 1, cells := 0, slots := 0, locals := 17 } : Room).slots) := by
  refine MetFree.of_bodySF (Jvm.Free.JP.mathPlain rfl (by decide +kernel)) hisR ?_
  intro p e s m args below meth c s₁ Bd hml0 hP hK
  obtain ⟨rfl, hZ, hh⟩ := hP
  have hx := Bd.exec
  have hby := Bd.bytes
  have hml : c.maxLocals = 3 := hml0
  have hown : s.vm.findClass "java/lang/Math" = some m.cls := findClass_of_methodNamed Bd.named
  have hnm := (name_of_methodNamed Bd.named Bd.method).1
  have X0 : Stand p l e ({ frames := 1, cells := 0, slots := 0, locals := 17 } : Room) s m #[(.long q1), (.int p1)] below meth c s₁ [] 0 0 := Stand.of_body Bd
  have e0 : s₁.heap = h0 := by rw [← hh, Bd.state]; rfl
  have N0 := Fr.nil n0
  have pre0 : ∀ t, Steps p.tables e below (s₁.setTop (mkF m 0 #[.val (.long q1), .second, .val (.int p1)] [])) t → Steps p.tables e below (s₁.setTop (entryFrame m #[(.long q1), (.int p1)] 3)) t := fun t k => castTop (ef_2 m q1 p1) k
  obtain ⟨_, _, ⟨T1, L1, k1, n1⟩, -, X1, ⟨Lc1, hQ1, l1, y1, z1⟩, st1⟩ := Jvm.LawKit.callS X0 hx (y := (⟨"java/lang/Math", "floorDiv", "(JJ)J"⟩ : MethodName)) hown (mvT hZ (hw _ (List.mem_of_getElem? (i := 8) rfl))) (mvT hZ (hw _ (List.mem_of_getElem? (i := 9) rfl))) (mvT hZ (hw _ (List.mem_of_getElem? (i := 6) rfl))) (mvT hZ (hw _ (List.mem_of_getElem? (i := 10) rfl))) (by decide) (backOf (W := 0) (rm3 l Z a0 hw [] q1 (p1.toInt64) h0 n0 Z0 (own_i2l hp1)) hZ (hw _ (List.mem_of_getElem? (i := 10) rfl)) (hw _ (List.mem_of_getElem? (i := 6) rfl)) (by decide) (by decide)) (g := (mkF m 3 #[.val (.long q1), .second, .val (.int p1)] [(.long (p1.toInt64)), (.long q1)])) rfl (by rw [hml]; rfl) (argsL := [(.long q1), (.long (p1.toInt64))]) (rest := []) (lenOf pd_0 rfl) rfl (by show 2 * 0 + _ ≤ _; exact Nat.le_of_eq rfl) (hb hby d2_3) (fun _ _ => ⟨rfl, e0, (by decide : 0 + 0 ≤ _), (by decide : 0 + 0 ≤ _)⟩)
  dsimp only [Pt.U, Pt.locs, Pt.cells, Pt.slots] at X1 l1 y1 z1 st1 hQ1
  subst l1 y1 z1
  obtain ⟨rfl, N1q, e1q⟩ := hQ1
  have N1 := Fr.app N0 N1q
  obtain ⟨fs, hr, hrun, hended, hW, hsame⟩ := X1.leave (v := some (.long (own_fl q1 p1.toInt64))) (fun h => by rw [Bd.returns] at h; cases h)
  refine ⟨_, _, pre0 _ ?_, hrun, hended, _, _, rfl, ?_, ⟨_, rfl⟩, hW, hsame.mono (by decide) (by decide)⟩
  · show Steps p.tables e below (s₁.setTop (mkF m 0 #[.val (.long q1), .second, .val (.int p1)] [])) _
    refine XS.lloadN X0.here hx rfl (hb hby d2_0) rfl ?_
    show Steps p.tables e below (s₁.setTop (mkF m 1 #[.val (.long q1), .second, .val (.int p1)] [(.long q1)])) _
    refine XS.iloadN X0.here hx rfl (hb hby d2_1) rfl ?_
    show Steps p.tables e below (s₁.setTop (mkF m 2 #[.val (.long q1), .second, .val (.int p1)] [(.int p1), (.long q1)])) _
    refine XS.i2l X0.here hx rfl (hb hby d2_2) rfl ?_
    show Steps p.tables e below (s₁.setTop (mkF m 3 #[.val (.long q1), .second, .val (.int p1)] [(.long (p1.toInt64)), (.long q1)])) _
    refine st1 _ ?_
    show Steps p.tables e below (T1.setTop (mkF m 6 #[.val (.long q1), .second, .val (.int p1)] [(.long (own_fl q1 p1.toInt64))])) _
    exact X1.lreturnOut hx Bd.returns (hb hby d2_6) hr
  · show Q2 Z q1 p1 h0 n0 _ T1.heap _
    exact ⟨rfl, N1, e1q⟩
def Q1 (Z : State) (q1 : Int64) (p1 : Int32) (h0 : Heap) (n0 : Nat) (v : Option Value) (h : Heap) (L : List Loc) : Prop := v = some (.long (own_fl q1 p1.toInt64)) ∧ Fr n0 L ∧ h = h0
set_option maxRecDepth 65536 in
set_option maxHeartbeats 40000000 in
theorem rm1 (l : Launch) (Z : State) (a0 : Array Value) (hw : ∀ d ∈ tables_1, d.before a0 Z = true) (ws : List Jvm.Cond) (q1 : Int64) (p1 : Int32) (h0 : Heap) (n0 : Nat) (Z0 : n0 ≤ h0.size) (hp1 : 0 < p1.toInt) :
    MetFree l (⟨"com/example/sekisho/sekisho/otp/OneTimePassword", "timeStep", "(JI)J"⟩ : MethodName) (head1 (Jvm.Cond.code (⟨"com/example/sekisho/sekisho/otp/OneTimePassword", "timeStep", "(JI)J"⟩ : MethodName) prog_11_method_3_code 3 (some .long) :: ws) ({ frames := 2, cells := 0, slots := 0, locals := 31 } : Room)) (fun a U => a = #[(.long q1), (.int p1)] ∧ Z.Warmed39 U.vm ∧ U.heap = h0) (fun _ _ _ _ _ => True) (fun _ U o U' => ∃ v L, o = .returned v ∧ Q1 Z q1 p1 h0 n0 v U'.heap L ∧ FrameEnd U o U' L ({ frames := 2, cells := 0, slots := 0, locals := 31 } : Room).cells ({ frames := 2, cells := 0, slots := 0, locals := 31 } : Room).slots) := by
  refine MetFree.of_bodySF (plainFor_of_name pn_1) hisR ?_
  intro p e s m args below meth c s₁ Bd hml0 hP hK
  obtain ⟨rfl, hZ, hh⟩ := hP
  have hx := Bd.exec
  have hby := Bd.bytes
  have hml : c.maxLocals = 3 := hml0
  have hown : s.vm.findClass "com/example/sekisho/sekisho/otp/OneTimePassword" = some m.cls := findClass_of_methodNamed Bd.named
  have hnm := (name_of_methodNamed Bd.named Bd.method).1
  have X0 : Stand p l e ({ frames := 2, cells := 0, slots := 0, locals := 31 } : Room) s m #[(.long q1), (.int p1)] below meth c s₁ [] 0 0 := Stand.of_body Bd
  have e0 : s₁.heap = h0 := by rw [← hh, Bd.state]; rfl
  have N0 := Fr.nil n0
  have pre0 : ∀ t, Steps p.tables e below (s₁.setTop (mkF m 0 #[.val (.long q1), .second, .val (.int p1)] [])) t → Steps p.tables e below (s₁.setTop (entryFrame m #[(.long q1), (.int p1)] 3)) t := fun t k => castTop (ef_1 m q1 p1) k
  have hp1' : (0 : Int32) < p1 := by rw [Int32.lt_iff_toInt_lt]; exact hp1
  obtain ⟨_, _, ⟨T1, L1, k1, n1⟩, -, X1, ⟨Lc1, hQ1, l1, y1, z1⟩, st1⟩ := Jvm.LawKit.callS X0 hx (y := (⟨"java/lang/Math", "floorDiv", "(JI)J"⟩ : MethodName)) hown (mvT hZ (hw _ (List.mem_of_getElem? (i := 4) rfl))) (mvT hZ (hw _ (List.mem_of_getElem? (i := 5) rfl))) (mvT hZ (hw _ (List.mem_of_getElem? (i := 6) rfl))) (mvT hZ (hw _ (List.mem_of_getElem? (i := 7) rfl))) (by decide) (backOf (W := 0) (rm2 l Z a0 hw [] q1 p1 h0 n0 Z0 hp1) hZ (hw _ (List.mem_of_getElem? (i := 7) rfl)) (hw _ (List.mem_of_getElem? (i := 6) rfl)) (by decide) (by decide)) (g := (mkF m 20 #[.val (.long q1), .second, .val (.int p1)] [(.int p1), (.long q1)])) rfl (by rw [hml]; rfl) (argsL := [(.long q1), (.int p1)]) (rest := []) (lenOf pd_1 rfl) rfl (by show 2 * 0 + _ ≤ _; exact Nat.le_of_eq rfl) (hb hby d1_20) (fun _ _ => ⟨rfl, e0, (by decide : 0 + 0 ≤ _), (by decide : 0 + 0 ≤ _)⟩)
  dsimp only [Pt.U, Pt.locs, Pt.cells, Pt.slots] at X1 l1 y1 z1 st1 hQ1
  subst l1 y1 z1
  obtain ⟨rfl, N1q, e1q⟩ := hQ1
  have N1 := Fr.app N0 N1q
  obtain ⟨fs, hr, hrun, hended, hW, hsame⟩ := X1.leave (v := some (.long (own_fl q1 p1.toInt64))) (fun h => by rw [Bd.returns] at h; cases h)
  refine ⟨_, _, pre0 _ ?_, hrun, hended, _, _, rfl, ?_, ⟨_, rfl⟩, hW, hsame.mono (by decide) (by decide)⟩
  · show Steps p.tables e below (s₁.setTop (mkF m 0 #[.val (.long q1), .second, .val (.int p1)] [])) _
    refine XS.iloadN X0.here hx rfl (hb hby d1_0) rfl ?_
    show Steps p.tables e below (s₁.setTop (mkF m 1 #[.val (.long q1), .second, .val (.int p1)] [(.int p1)])) _
    refine XS.ifYes X0.here hx rfl (pc0 := 1) (pc' := 18) rfl (hb hby d1_1) rfl ((if0 _ _).trans (tlt hp1').2.2.1) (by decide) (by decide) ?_
    show Steps p.tables e below (s₁.setTop (mkF m 18 #[.val (.long q1), .second, .val (.int p1)] [])) _
    refine XS.lloadN X0.here hx rfl (hb hby d1_18) rfl ?_
    show Steps p.tables e below (s₁.setTop (mkF m 19 #[.val (.long q1), .second, .val (.int p1)] [(.long q1)])) _
    refine XS.iloadN X0.here hx rfl (hb hby d1_19) rfl ?_
    show Steps p.tables e below (s₁.setTop (mkF m 20 #[.val (.long q1), .second, .val (.int p1)] [(.int p1), (.long q1)])) _
    refine st1 _ ?_
    show Steps p.tables e below (T1.setTop (mkF m 23 #[.val (.long q1), .second, .val (.int p1)] [(.long (own_fl q1 p1.toInt64))])) _
    exact X1.lreturnOut hx Bd.returns (hb hby d1_23) hr
  · show Q1 Z q1 p1 h0 n0 _ T1.heap _
    exact ⟨rfl, N1, e1q⟩
def Q0 (Z : State) (q0 : Int64) (p2 p3 : Int32) (h0 : Heap) (n0 : Nat) (v : Option Value) (h : Heap) (L : List Loc) : Prop := v = some (.int 1) ∧ Fr n0 L
set_option maxRecDepth 65536 in
set_option maxHeartbeats 40000000 in
theorem rm0 (l : Launch) (Z : State) (a0 : Array Value) (hw : ∀ d ∈ tables_1, d.before a0 Z = true) (ws : List Jvm.Cond) (q0 : Int64) (p2 p3 : Int32) (h0 : Heap) (n0 : Nat) (Z0 : n0 ≤ h0.size) :
    MetFree l x (head1 (Jvm.Cond.code x code maxLocals ret :: ws) room_1) (fun a U => a = #[(.long q0), (.int p2), (.int p3)] ∧ Z.Warmed39 U.vm ∧ U.heap = h0) (fun _ _ _ _ _ => True) (fun _ U o U' => ∃ v L, o = .returned v ∧ Q0 Z q0 p2 p3 h0 n0 v U'.heap L ∧ FrameEnd U o U' L room_1.cells room_1.slots) := by
  refine MetFree.of_bodySF (plainFor_of_name pn_0) hisR ?_
  intro p e s m args below meth c s₁ Bd hml0 hP hK
  obtain ⟨rfl, hZ, hh⟩ := hP
  have hx := Bd.exec
  have hby := Bd.bytes
  have hml : c.maxLocals = 9 := hml0
  have hown : s.vm.findClass "com/example/sekisho/sekisho/otp/OneTimePasswordTimeStepPinLaw" = some m.cls := findClass_of_methodNamed Bd.named
  have hnm := (name_of_methodNamed Bd.named Bd.method).1
  have X0 : Stand p l e room_1 s m #[(.long q0), (.int p2), (.int p3)] below meth c s₁ [] 0 0 := Stand.of_body Bd
  have e0 : s₁.heap = h0 := by rw [← hh, Bd.state]; rfl
  have N0 := Fr.nil n0
  have pre0 : ∀ t, Steps p.tables e below (s₁.setTop (mkF m 0 #[.val (.long q0), .second, .val (.int p2), .val (.int p3), .unset, .unset, .unset, .unset, .unset] [])) t → Steps p.tables e below (s₁.setTop (entryFrame m #[(.long q0), (.int p2), (.int p3)] maxLocals)) t := fun t k => castTop (ef_0 m q0 p2 p3) k
  obtain ⟨sc, hm1, pre1⟩ : ∃ (sc : Int32), (0 ≤ sc.toInt) ∧ ∀ t, Steps p.tables e below (s₁.setTop (mkF m 23 #[.val (.long q0), .second, .val (.int p2), .val (.int p3), .val (.int sc), .unset, .unset, .unset, .unset] [])) t → Steps p.tables e below (s₁.setTop (entryFrame m #[(.long q0), (.int p2), (.int p3)] maxLocals)) t := by
    by_cases c3 : (p3 &&& (1 : Int32)) = 0
    · refine ⟨((p2 &&& (2147483647 : Int32))), (own_s2 p2), fun t k => pre0 t ?_⟩
      show Steps p.tables e below (s₁.setTop (mkF m 0 #[.val (.long q0), .second, .val (.int p2), .val (.int p3), .unset, .unset, .unset, .unset, .unset] [])) _
      refine XS.iloadN X0.here hx rfl (hb hby at_0) rfl ?_
      show Steps p.tables e below (s₁.setTop (mkF m 1 #[.val (.long q0), .second, .val (.int p2), .val (.int p3), .unset, .unset, .unset, .unset, .unset] [(.int p3)])) _
      refine XS.iconst X0.here hx rfl (hb hby at_1) ?_
      show Steps p.tables e below (s₁.setTop (mkF m 2 #[.val (.long q0), .second, .val (.int p2), .val (.int p3), .unset, .unset, .unset, .unset, .unset] [(.int (1 : Int32)), (.int p3)])) _
      refine XS.iand X0.here hx rfl (hb hby at_2) rfl ?_
      show Steps p.tables e below (s₁.setTop (mkF m 3 #[.val (.long q0), .second, .val (.int p2), .val (.int p3), .unset, .unset, .unset, .unset, .unset] [(.int (p3 &&& (1 : Int32)))])) _
      refine XS.ifYes X0.here hx rfl (pc0 := 3) (pc' := 17) rfl (hb hby at_3) rfl ((if0 _ _).trans (teq c3).1) (by decide) (by decide) ?_
      show Steps p.tables e below (s₁.setTop (mkF m 17 #[.val (.long q0), .second, .val (.int p2), .val (.int p3), .unset, .unset, .unset, .unset, .unset] [])) _
      refine XS.iloadN X0.here hx rfl (hb hby at_17) rfl ?_
      show Steps p.tables e below (s₁.setTop (mkF m 18 #[.val (.long q0), .second, .val (.int p2), .val (.int p3), .unset, .unset, .unset, .unset, .unset] [(.int p2)])) _
      refine X0.ldcInt hx hown (mvT hZ (hw _ (List.mem_of_getElem? (i := 11) rfl))) (g := (mkF m 18 #[.val (.long q0), .second, .val (.int p2), .val (.int p3), .unset, .unset, .unset, .unset, .unset] [(.int p2)])) rfl (hb hby at_18) _ ?_
      show Steps p.tables e below (s₁.setTop (mkF m 20 #[.val (.long q0), .second, .val (.int p2), .val (.int p3), .unset, .unset, .unset, .unset, .unset] [(.int (2147483647 : Int32)), (.int p2)])) _
      refine XS.iand X0.here hx rfl (hb hby at_20) rfl ?_
      show Steps p.tables e below (s₁.setTop (mkF m 21 #[.val (.long q0), .second, .val (.int p2), .val (.int p3), .unset, .unset, .unset, .unset, .unset] [(.int (p2 &&& (2147483647 : Int32)))])) _
      refine XS.istore X0.here hx rfl (hb hby at_21) rfl (l' := #[.val (.long q0), .second, .val (.int p2), .val (.int p3), .val (.int (p2 &&& (2147483647 : Int32))), .unset, .unset, .unset, .unset]) rfl ?_
      exact k
    · refine ⟨(((p2 &&& (63 : Int32)) + (1 : Int32))), (Int.le_of_lt (own_s1 p2)), fun t k => pre0 t ?_⟩
      show Steps p.tables e below (s₁.setTop (mkF m 0 #[.val (.long q0), .second, .val (.int p2), .val (.int p3), .unset, .unset, .unset, .unset, .unset] [])) _
      refine XS.iloadN X0.here hx rfl (hb hby at_0) rfl ?_
      show Steps p.tables e below (s₁.setTop (mkF m 1 #[.val (.long q0), .second, .val (.int p2), .val (.int p3), .unset, .unset, .unset, .unset, .unset] [(.int p3)])) _
      refine XS.iconst X0.here hx rfl (hb hby at_1) ?_
      show Steps p.tables e below (s₁.setTop (mkF m 2 #[.val (.long q0), .second, .val (.int p2), .val (.int p3), .unset, .unset, .unset, .unset, .unset] [(.int (1 : Int32)), (.int p3)])) _
      refine XS.iand X0.here hx rfl (hb hby at_2) rfl ?_
      show Steps p.tables e below (s₁.setTop (mkF m 3 #[.val (.long q0), .second, .val (.int p2), .val (.int p3), .unset, .unset, .unset, .unset, .unset] [(.int (p3 &&& (1 : Int32)))])) _
      refine XS.ifNo X0.here hx rfl (hb hby at_3) rfl ((if0 _ _).trans (feq c3).1) ?_
      show Steps p.tables e below (s₁.setTop (mkF m 6 #[.val (.long q0), .second, .val (.int p2), .val (.int p3), .unset, .unset, .unset, .unset, .unset] [])) _
      refine XS.iloadN X0.here hx rfl (hb hby at_6) rfl ?_
      show Steps p.tables e below (s₁.setTop (mkF m 7 #[.val (.long q0), .second, .val (.int p2), .val (.int p3), .unset, .unset, .unset, .unset, .unset] [(.int p2)])) _
      refine XS.bipush X0.here hx rfl (hb hby at_7) ?_
      show Steps p.tables e below (s₁.setTop (mkF m 9 #[.val (.long q0), .second, .val (.int p2), .val (.int p3), .unset, .unset, .unset, .unset, .unset] [(.int (63 : Int32)), (.int p2)])) _
      refine XS.iand X0.here hx rfl (hb hby at_9) rfl ?_
      show Steps p.tables e below (s₁.setTop (mkF m 10 #[.val (.long q0), .second, .val (.int p2), .val (.int p3), .unset, .unset, .unset, .unset, .unset] [(.int (p2 &&& (63 : Int32)))])) _
      refine XS.iconst X0.here hx rfl (hb hby at_10) ?_
      show Steps p.tables e below (s₁.setTop (mkF m 11 #[.val (.long q0), .second, .val (.int p2), .val (.int p3), .unset, .unset, .unset, .unset, .unset] [(.int (1 : Int32)), (.int (p2 &&& (63 : Int32)))])) _
      refine XS.iadd X0.here hx rfl (hb hby at_11) rfl ?_
      show Steps p.tables e below (s₁.setTop (mkF m 12 #[.val (.long q0), .second, .val (.int p2), .val (.int p3), .unset, .unset, .unset, .unset, .unset] [(.int ((p2 &&& (63 : Int32)) + (1 : Int32)))])) _
      refine XS.istore X0.here hx rfl (hb hby at_12) rfl (l' := #[.val (.long q0), .second, .val (.int p2), .val (.int p3), .val (.int ((p2 &&& (63 : Int32)) + (1 : Int32))), .unset, .unset, .unset, .unset]) rfl ?_
      show Steps p.tables e below (s₁.setTop (mkF m 14 #[.val (.long q0), .second, .val (.int p2), .val (.int p3), .val (.int ((p2 &&& (63 : Int32)) + (1 : Int32))), .unset, .unset, .unset, .unset] [])) _
      refine XS.goto X0.here hx rfl (pc0 := 14) (pc' := 23) rfl (hb hby at_14) (by decide) (by decide) ?_
      exact k
  by_cases c25 : sc = 0
  · skip
    obtain ⟨fs, hr, hrun, hended, hW, hsame⟩ := X0.leave (v := some (.int (1 : Int32))) (fun h => by rw [Bd.returns] at h; cases h)
    refine ⟨_, _, pre1 _ ?_, hrun, hended, _, _, rfl, ?_, ⟨_, rfl⟩, hW, hsame.mono (by decide) (by decide)⟩
    · show Steps p.tables e below (s₁.setTop (mkF m 23 #[.val (.long q0), .second, .val (.int p2), .val (.int p3), .val (.int sc), .unset, .unset, .unset, .unset] [])) _
      refine XS.iload X0.here hx rfl (hb hby at_23) rfl ?_
      show Steps p.tables e below (s₁.setTop (mkF m 25 #[.val (.long q0), .second, .val (.int p2), .val (.int p3), .val (.int sc), .unset, .unset, .unset, .unset] [(.int sc)])) _
      refine XS.ifNo X0.here hx rfl (hb hby at_25) rfl ((if0 _ _).trans (teq c25).2) ?_
      show Steps p.tables e below (s₁.setTop (mkF m 28 #[.val (.long q0), .second, .val (.int p2), .val (.int p3), .val (.int sc), .unset, .unset, .unset, .unset] [])) _
      refine XS.iconst X0.here hx rfl (hb hby at_28) ?_
      show Steps p.tables e below (s₁.setTop (mkF m 29 #[.val (.long q0), .second, .val (.int p2), .val (.int p3), .val (.int sc), .unset, .unset, .unset, .unset] [(.int (1 : Int32))])) _
      exact retN X0 hx (t := .boolean) Bd.returns (by simp) (hb hby at_29) hr
    · show Q0 Z q0 p2 p3 h0 n0 _ s₁.heap _
      rw [e0]
      exact ⟨rfl, N0⟩
  · skip
    have hsc : 0 < sc.toInt := by
      have hne : sc.toInt ≠ (0 : Int32).toInt := fun e => c25 (Int32.toInt_inj.mp e)
      rw [Int32.toInt_zero] at hne
      omega
    have hsl := own_i2l hsc
    have pre2 : ∀ t, Steps p.tables e below (s₁.setTop (mkF m 30 #[.val (.long q0), .second, .val (.int p2), .val (.int p3), .val (.int sc), .unset, .unset, .unset, .unset] [])) t → Steps p.tables e below (s₁.setTop (entryFrame m #[(.long q0), (.int p2), (.int p3)] maxLocals)) t := by
      intro t k
      refine pre1 t ?_
      show Steps p.tables e below (s₁.setTop (mkF m 23 #[.val (.long q0), .second, .val (.int p2), .val (.int p3), .val (.int sc), .unset, .unset, .unset, .unset] [])) _
      refine XS.iload X0.here hx rfl (hb hby at_23) rfl ?_
      show Steps p.tables e below (s₁.setTop (mkF m 25 #[.val (.long q0), .second, .val (.int p2), .val (.int p3), .val (.int sc), .unset, .unset, .unset, .unset] [(.int sc)])) _
      refine XS.ifYes X0.here hx rfl (pc0 := 25) (pc' := 30) rfl (hb hby at_25) rfl ((if0 _ _).trans (feq c25).2) (by decide) (by decide) ?_
      exact k
    obtain ⟨vv, s7, s8, hm3, pre3⟩ : ∃ (vv : Int64) (s7 : Slot) (s8 : Slot), ((s7 = .unset ∧ s8 = .unset) ∨ ∃ d : Int64, s7 = .val (.long d) ∧ s8 = .second) ∧ ∀ t, Steps p.tables e below (s₁.setTop (mkF m 64 #[.val (.long q0), .second, .val (.int p2), .val (.int p3), .val (.int sc), .val (.long vv), .second, s7, s8] [])) t → Steps p.tables e below (s₁.setTop (entryFrame m #[(.long q0), (.int p2), (.int p3)] maxLocals)) t := by
      by_cases c33 : (p3 &&& (2 : Int32)) = 0
      · refine ⟨(q0), (.unset), (.unset), Or.inl ⟨rfl, rfl⟩, fun t k => pre2 t ?_⟩
        show Steps p.tables e below (s₁.setTop (mkF m 30 #[.val (.long q0), .second, .val (.int p2), .val (.int p3), .val (.int sc), .unset, .unset, .unset, .unset] [])) _
        refine XS.iloadN X0.here hx rfl (hb hby at_30) rfl ?_
        show Steps p.tables e below (s₁.setTop (mkF m 31 #[.val (.long q0), .second, .val (.int p2), .val (.int p3), .val (.int sc), .unset, .unset, .unset, .unset] [(.int p3)])) _
        refine XS.iconst X0.here hx rfl (hb hby at_31) ?_
        show Steps p.tables e below (s₁.setTop (mkF m 32 #[.val (.long q0), .second, .val (.int p2), .val (.int p3), .val (.int sc), .unset, .unset, .unset, .unset] [(.int (2 : Int32)), (.int p3)])) _
        refine XS.iand X0.here hx rfl (hb hby at_32) rfl ?_
        show Steps p.tables e below (s₁.setTop (mkF m 33 #[.val (.long q0), .second, .val (.int p2), .val (.int p3), .val (.int sc), .unset, .unset, .unset, .unset] [(.int (p3 &&& (2 : Int32)))])) _
        refine XS.ifYes X0.here hx rfl (pc0 := 33) (pc' := 61) rfl (hb hby at_33) rfl ((if0 _ _).trans (teq c33).1) (by decide) (by decide) ?_
        show Steps p.tables e below (s₁.setTop (mkF m 61 #[.val (.long q0), .second, .val (.int p2), .val (.int p3), .val (.int sc), .unset, .unset, .unset, .unset] [])) _
        refine XS.lloadN X0.here hx rfl (hb hby at_61) rfl ?_
        show Steps p.tables e below (s₁.setTop (mkF m 62 #[.val (.long q0), .second, .val (.int p2), .val (.int p3), .val (.int sc), .unset, .unset, .unset, .unset] [(.long q0)])) _
        refine XS.lstore X0.here hx rfl (hb hby at_62) rfl (l' := #[.val (.long q0), .second, .val (.int p2), .val (.int p3), .val (.int sc), .val (.long q0), .second, .unset, .unset]) rfl ?_
        exact k
      · refine ⟨(((q0 - (q0 - (q0 / (sc.toInt64)) * (sc.toInt64))) + (((((p3.toUInt32 >>> ((2 : Int32) &&& 31).toUInt32).toInt32) % (3 : Int32)) - (1 : Int32)).toInt64))), (.val (.long (((((p3.toUInt32 >>> ((2 : Int32) &&& 31).toUInt32).toInt32) % (3 : Int32)) - (1 : Int32)).toInt64))), (.second), Or.inr ⟨_, rfl, rfl⟩, fun t k => pre2 t ?_⟩
        show Steps p.tables e below (s₁.setTop (mkF m 30 #[.val (.long q0), .second, .val (.int p2), .val (.int p3), .val (.int sc), .unset, .unset, .unset, .unset] [])) _
        refine XS.iloadN X0.here hx rfl (hb hby at_30) rfl ?_
        show Steps p.tables e below (s₁.setTop (mkF m 31 #[.val (.long q0), .second, .val (.int p2), .val (.int p3), .val (.int sc), .unset, .unset, .unset, .unset] [(.int p3)])) _
        refine XS.iconst X0.here hx rfl (hb hby at_31) ?_
        show Steps p.tables e below (s₁.setTop (mkF m 32 #[.val (.long q0), .second, .val (.int p2), .val (.int p3), .val (.int sc), .unset, .unset, .unset, .unset] [(.int (2 : Int32)), (.int p3)])) _
        refine XS.iand X0.here hx rfl (hb hby at_32) rfl ?_
        show Steps p.tables e below (s₁.setTop (mkF m 33 #[.val (.long q0), .second, .val (.int p2), .val (.int p3), .val (.int sc), .unset, .unset, .unset, .unset] [(.int (p3 &&& (2 : Int32)))])) _
        refine XS.ifNo X0.here hx rfl (hb hby at_33) rfl ((if0 _ _).trans (feq c33).1) ?_
        show Steps p.tables e below (s₁.setTop (mkF m 36 #[.val (.long q0), .second, .val (.int p2), .val (.int p3), .val (.int sc), .unset, .unset, .unset, .unset] [])) _
        refine XS.iloadN X0.here hx rfl (hb hby at_36) rfl ?_
        show Steps p.tables e below (s₁.setTop (mkF m 37 #[.val (.long q0), .second, .val (.int p2), .val (.int p3), .val (.int sc), .unset, .unset, .unset, .unset] [(.int p3)])) _
        refine XS.iconst X0.here hx rfl (hb hby at_37) ?_
        show Steps p.tables e below (s₁.setTop (mkF m 38 #[.val (.long q0), .second, .val (.int p2), .val (.int p3), .val (.int sc), .unset, .unset, .unset, .unset] [(.int (2 : Int32)), (.int p3)])) _
        refine XS.iushr X0.here hx rfl (hb hby at_38) rfl ?_
        show Steps p.tables e below (s₁.setTop (mkF m 39 #[.val (.long q0), .second, .val (.int p2), .val (.int p3), .val (.int sc), .unset, .unset, .unset, .unset] [(.int ((p3.toUInt32 >>> ((2 : Int32) &&& 31).toUInt32).toInt32))])) _
        refine XS.iconst X0.here hx rfl (hb hby at_39) ?_
        show Steps p.tables e below (s₁.setTop (mkF m 40 #[.val (.long q0), .second, .val (.int p2), .val (.int p3), .val (.int sc), .unset, .unset, .unset, .unset] [(.int (3 : Int32)), (.int ((p3.toUInt32 >>> ((2 : Int32) &&& 31).toUInt32).toInt32))])) _
        refine iremM X0 hx rfl (hb hby at_40) rfl (by decide) ?_
        show Steps p.tables e below (s₁.setTop (mkF m 41 #[.val (.long q0), .second, .val (.int p2), .val (.int p3), .val (.int sc), .unset, .unset, .unset, .unset] [(.int (((p3.toUInt32 >>> ((2 : Int32) &&& 31).toUInt32).toInt32) % (3 : Int32)))])) _
        refine XS.iconst X0.here hx rfl (hb hby at_41) ?_
        show Steps p.tables e below (s₁.setTop (mkF m 42 #[.val (.long q0), .second, .val (.int p2), .val (.int p3), .val (.int sc), .unset, .unset, .unset, .unset] [(.int (1 : Int32)), (.int (((p3.toUInt32 >>> ((2 : Int32) &&& 31).toUInt32).toInt32) % (3 : Int32)))])) _
        refine XS.isub X0.here hx rfl (hb hby at_42) rfl ?_
        show Steps p.tables e below (s₁.setTop (mkF m 43 #[.val (.long q0), .second, .val (.int p2), .val (.int p3), .val (.int sc), .unset, .unset, .unset, .unset] [(.int ((((p3.toUInt32 >>> ((2 : Int32) &&& 31).toUInt32).toInt32) % (3 : Int32)) - (1 : Int32)))])) _
        refine XS.i2l X0.here hx rfl (hb hby at_43) rfl ?_
        show Steps p.tables e below (s₁.setTop (mkF m 44 #[.val (.long q0), .second, .val (.int p2), .val (.int p3), .val (.int sc), .unset, .unset, .unset, .unset] [(.long (((((p3.toUInt32 >>> ((2 : Int32) &&& 31).toUInt32).toInt32) % (3 : Int32)) - (1 : Int32)).toInt64))])) _
        refine XS.lstore X0.here hx rfl (hb hby at_44) rfl (l' := #[.val (.long q0), .second, .val (.int p2), .val (.int p3), .val (.int sc), .unset, .unset, .val (.long (((((p3.toUInt32 >>> ((2 : Int32) &&& 31).toUInt32).toInt32) % (3 : Int32)) - (1 : Int32)).toInt64)), .second]) rfl ?_
        show Steps p.tables e below (s₁.setTop (mkF m 46 #[.val (.long q0), .second, .val (.int p2), .val (.int p3), .val (.int sc), .unset, .unset, .val (.long (((((p3.toUInt32 >>> ((2 : Int32) &&& 31).toUInt32).toInt32) % (3 : Int32)) - (1 : Int32)).toInt64)), .second] [])) _
        refine XS.lloadN X0.here hx rfl (hb hby at_46) rfl ?_
        show Steps p.tables e below (s₁.setTop (mkF m 47 #[.val (.long q0), .second, .val (.int p2), .val (.int p3), .val (.int sc), .unset, .unset, .val (.long (((((p3.toUInt32 >>> ((2 : Int32) &&& 31).toUInt32).toInt32) % (3 : Int32)) - (1 : Int32)).toInt64)), .second] [(.long q0)])) _
        refine XS.lloadN X0.here hx rfl (hb hby at_47) rfl ?_
        show Steps p.tables e below (s₁.setTop (mkF m 48 #[.val (.long q0), .second, .val (.int p2), .val (.int p3), .val (.int sc), .unset, .unset, .val (.long (((((p3.toUInt32 >>> ((2 : Int32) &&& 31).toUInt32).toInt32) % (3 : Int32)) - (1 : Int32)).toInt64)), .second] [(.long q0), (.long q0)])) _
        refine XS.iload X0.here hx rfl (hb hby at_48) rfl ?_
        show Steps p.tables e below (s₁.setTop (mkF m 50 #[.val (.long q0), .second, .val (.int p2), .val (.int p3), .val (.int sc), .unset, .unset, .val (.long (((((p3.toUInt32 >>> ((2 : Int32) &&& 31).toUInt32).toInt32) % (3 : Int32)) - (1 : Int32)).toInt64)), .second] [(.int sc), (.long q0), (.long q0)])) _
        refine XS.i2l X0.here hx rfl (hb hby at_50) rfl ?_
        show Steps p.tables e below (s₁.setTop (mkF m 51 #[.val (.long q0), .second, .val (.int p2), .val (.int p3), .val (.int sc), .unset, .unset, .val (.long (((((p3.toUInt32 >>> ((2 : Int32) &&& 31).toUInt32).toInt32) % (3 : Int32)) - (1 : Int32)).toInt64)), .second] [(.long (sc.toInt64)), (.long q0), (.long q0)])) _
        refine XS.lrem X0.here hx rfl (hb hby at_51) rfl (own_nz hsl) ?_
        show Steps p.tables e below (s₁.setTop (mkF m 52 #[.val (.long q0), .second, .val (.int p2), .val (.int p3), .val (.int sc), .unset, .unset, .val (.long (((((p3.toUInt32 >>> ((2 : Int32) &&& 31).toUInt32).toInt32) % (3 : Int32)) - (1 : Int32)).toInt64)), .second] [(.long (q0 - (q0 / (sc.toInt64)) * (sc.toInt64))), (.long q0)])) _
        refine XS.lsub X0.here hx rfl (hb hby at_52) rfl ?_
        show Steps p.tables e below (s₁.setTop (mkF m 53 #[.val (.long q0), .second, .val (.int p2), .val (.int p3), .val (.int sc), .unset, .unset, .val (.long (((((p3.toUInt32 >>> ((2 : Int32) &&& 31).toUInt32).toInt32) % (3 : Int32)) - (1 : Int32)).toInt64)), .second] [(.long (q0 - (q0 - (q0 / (sc.toInt64)) * (sc.toInt64))))])) _
        refine XS.lload X0.here hx rfl (hb hby at_53) rfl ?_
        show Steps p.tables e below (s₁.setTop (mkF m 55 #[.val (.long q0), .second, .val (.int p2), .val (.int p3), .val (.int sc), .unset, .unset, .val (.long (((((p3.toUInt32 >>> ((2 : Int32) &&& 31).toUInt32).toInt32) % (3 : Int32)) - (1 : Int32)).toInt64)), .second] [(.long (((((p3.toUInt32 >>> ((2 : Int32) &&& 31).toUInt32).toInt32) % (3 : Int32)) - (1 : Int32)).toInt64)), (.long (q0 - (q0 - (q0 / (sc.toInt64)) * (sc.toInt64))))])) _
        refine XS.ladd X0.here hx rfl (hb hby at_55) rfl ?_
        show Steps p.tables e below (s₁.setTop (mkF m 56 #[.val (.long q0), .second, .val (.int p2), .val (.int p3), .val (.int sc), .unset, .unset, .val (.long (((((p3.toUInt32 >>> ((2 : Int32) &&& 31).toUInt32).toInt32) % (3 : Int32)) - (1 : Int32)).toInt64)), .second] [(.long ((q0 - (q0 - (q0 / (sc.toInt64)) * (sc.toInt64))) + (((((p3.toUInt32 >>> ((2 : Int32) &&& 31).toUInt32).toInt32) % (3 : Int32)) - (1 : Int32)).toInt64)))])) _
        refine XS.lstore X0.here hx rfl (hb hby at_56) rfl (l' := #[.val (.long q0), .second, .val (.int p2), .val (.int p3), .val (.int sc), .val (.long ((q0 - (q0 - (q0 / (sc.toInt64)) * (sc.toInt64))) + (((((p3.toUInt32 >>> ((2 : Int32) &&& 31).toUInt32).toInt32) % (3 : Int32)) - (1 : Int32)).toInt64))), .second, .val (.long (((((p3.toUInt32 >>> ((2 : Int32) &&& 31).toUInt32).toInt32) % (3 : Int32)) - (1 : Int32)).toInt64)), .second]) rfl ?_
        show Steps p.tables e below (s₁.setTop (mkF m 58 #[.val (.long q0), .second, .val (.int p2), .val (.int p3), .val (.int sc), .val (.long ((q0 - (q0 - (q0 / (sc.toInt64)) * (sc.toInt64))) + (((((p3.toUInt32 >>> ((2 : Int32) &&& 31).toUInt32).toInt32) % (3 : Int32)) - (1 : Int32)).toInt64))), .second, .val (.long (((((p3.toUInt32 >>> ((2 : Int32) &&& 31).toUInt32).toInt32) % (3 : Int32)) - (1 : Int32)).toInt64)), .second] [])) _
        refine XS.goto X0.here hx rfl (pc0 := 58) (pc' := 64) rfl (hb hby at_58) (by decide) (by decide) ?_
        exact k
    obtain ⟨dv, hm4, pre4⟩ : ∃ (dv : Int64), (dv = own_ex vv sc.toInt64) ∧ ∀ t, Steps p.tables e below (s₁.setTop (mkF m 96 #[.val (.long q0), .second, .val (.int p2), .val (.int p3), .val (.int sc), .val (.long vv), .second, .val (.long dv), .second] [])) t → Steps p.tables e below (s₁.setTop (entryFrame m #[(.long q0), (.int p2), (.int p3)] maxLocals)) t := by
      by_cases c80 : lcmpW (vv - (vv / sc.toInt64) * sc.toInt64) (0 : Int64) = 0
      · refine ⟨((vv / (sc.toInt64))), (by unfold own_ex; rw [if_pos c80]), fun t k => pre3 t ?_⟩
        show Steps p.tables e below (s₁.setTop (mkF m 64 #[.val (.long q0), .second, .val (.int p2), .val (.int p3), .val (.int sc), .val (.long vv), .second, s7, s8] [])) _
        refine XS.lload X0.here hx rfl (hb hby at_64) rfl ?_
        show Steps p.tables e below (s₁.setTop (mkF m 66 #[.val (.long q0), .second, .val (.int p2), .val (.int p3), .val (.int sc), .val (.long vv), .second, s7, s8] [(.long vv)])) _
        refine XS.iload X0.here hx rfl (hb hby at_66) rfl ?_
        show Steps p.tables e below (s₁.setTop (mkF m 68 #[.val (.long q0), .second, .val (.int p2), .val (.int p3), .val (.int sc), .val (.long vv), .second, s7, s8] [(.int sc), (.long vv)])) _
        refine XS.i2l X0.here hx rfl (hb hby at_68) rfl ?_
        show Steps p.tables e below (s₁.setTop (mkF m 69 #[.val (.long q0), .second, .val (.int p2), .val (.int p3), .val (.int sc), .val (.long vv), .second, s7, s8] [(.long (sc.toInt64)), (.long vv)])) _
        refine XS.ldiv X0.here hx rfl (hb hby at_69) rfl (own_nz hsl) ?_
        show Steps p.tables e below (s₁.setTop (mkF m 70 #[.val (.long q0), .second, .val (.int p2), .val (.int p3), .val (.int sc), .val (.long vv), .second, s7, s8] [(.long (vv / (sc.toInt64)))])) _
        refine XS.lstore X0.here hx rfl (hb hby at_70) rfl (l' := #[.val (.long q0), .second, .val (.int p2), .val (.int p3), .val (.int sc), .val (.long vv), .second, .val (.long (vv / (sc.toInt64))), .second]) (own_st70 hm3) ?_
        show Steps p.tables e below (s₁.setTop (mkF m 72 #[.val (.long q0), .second, .val (.int p2), .val (.int p3), .val (.int sc), .val (.long vv), .second, .val (.long (vv / (sc.toInt64))), .second] [])) _
        refine XS.lload X0.here hx rfl (hb hby at_72) rfl ?_
        show Steps p.tables e below (s₁.setTop (mkF m 74 #[.val (.long q0), .second, .val (.int p2), .val (.int p3), .val (.int sc), .val (.long vv), .second, .val (.long (vv / (sc.toInt64))), .second] [(.long vv)])) _
        refine XS.iload X0.here hx rfl (hb hby at_74) rfl ?_
        show Steps p.tables e below (s₁.setTop (mkF m 76 #[.val (.long q0), .second, .val (.int p2), .val (.int p3), .val (.int sc), .val (.long vv), .second, .val (.long (vv / (sc.toInt64))), .second] [(.int sc), (.long vv)])) _
        refine XS.i2l X0.here hx rfl (hb hby at_76) rfl ?_
        show Steps p.tables e below (s₁.setTop (mkF m 77 #[.val (.long q0), .second, .val (.int p2), .val (.int p3), .val (.int sc), .val (.long vv), .second, .val (.long (vv / (sc.toInt64))), .second] [(.long (sc.toInt64)), (.long vv)])) _
        refine XS.lrem X0.here hx rfl (hb hby at_77) rfl (own_nz hsl) ?_
        show Steps p.tables e below (s₁.setTop (mkF m 78 #[.val (.long q0), .second, .val (.int p2), .val (.int p3), .val (.int sc), .val (.long vv), .second, .val (.long (vv / (sc.toInt64))), .second] [(.long (vv - (vv / (sc.toInt64)) * (sc.toInt64)))])) _
        refine XS.lconst X0.here hx rfl (hb hby at_78) ?_
        show Steps p.tables e below (s₁.setTop (mkF m 79 #[.val (.long q0), .second, .val (.int p2), .val (.int p3), .val (.int sc), .val (.long vv), .second, .val (.long (vv / (sc.toInt64))), .second] [(.long (0 : Int64)), (.long (vv - (vv / (sc.toInt64)) * (sc.toInt64)))])) _
        refine XS.lcmp X0.here hx rfl (hb hby at_79) rfl ?_
        show Steps p.tables e below (s₁.setTop (mkF m 80 #[.val (.long q0), .second, .val (.int p2), .val (.int p3), .val (.int sc), .val (.long vv), .second, .val (.long (vv / (sc.toInt64))), .second] [(.int (lcmpW (vv - (vv / (sc.toInt64)) * (sc.toInt64)) (0 : Int64)))])) _
        refine XS.ifYes X0.here hx rfl (pc0 := 80) (pc' := 96) rfl (hb hby at_80) rfl ((if0 _ _).trans (teq c80).1) (by decide) (by decide) ?_
        exact k
      by_cases c87 : lcmpW vv (0 : Int64) < 0
      · refine ⟨(((vv / (sc.toInt64)) - (1 : Int64))), (by unfold own_ex; rw [if_neg c80, if_neg (not_not_intro c87)]), fun t k => pre3 t ?_⟩
        show Steps p.tables e below (s₁.setTop (mkF m 64 #[.val (.long q0), .second, .val (.int p2), .val (.int p3), .val (.int sc), .val (.long vv), .second, s7, s8] [])) _
        refine XS.lload X0.here hx rfl (hb hby at_64) rfl ?_
        show Steps p.tables e below (s₁.setTop (mkF m 66 #[.val (.long q0), .second, .val (.int p2), .val (.int p3), .val (.int sc), .val (.long vv), .second, s7, s8] [(.long vv)])) _
        refine XS.iload X0.here hx rfl (hb hby at_66) rfl ?_
        show Steps p.tables e below (s₁.setTop (mkF m 68 #[.val (.long q0), .second, .val (.int p2), .val (.int p3), .val (.int sc), .val (.long vv), .second, s7, s8] [(.int sc), (.long vv)])) _
        refine XS.i2l X0.here hx rfl (hb hby at_68) rfl ?_
        show Steps p.tables e below (s₁.setTop (mkF m 69 #[.val (.long q0), .second, .val (.int p2), .val (.int p3), .val (.int sc), .val (.long vv), .second, s7, s8] [(.long (sc.toInt64)), (.long vv)])) _
        refine XS.ldiv X0.here hx rfl (hb hby at_69) rfl (own_nz hsl) ?_
        show Steps p.tables e below (s₁.setTop (mkF m 70 #[.val (.long q0), .second, .val (.int p2), .val (.int p3), .val (.int sc), .val (.long vv), .second, s7, s8] [(.long (vv / (sc.toInt64)))])) _
        refine XS.lstore X0.here hx rfl (hb hby at_70) rfl (l' := #[.val (.long q0), .second, .val (.int p2), .val (.int p3), .val (.int sc), .val (.long vv), .second, .val (.long (vv / (sc.toInt64))), .second]) (own_st70 hm3) ?_
        show Steps p.tables e below (s₁.setTop (mkF m 72 #[.val (.long q0), .second, .val (.int p2), .val (.int p3), .val (.int sc), .val (.long vv), .second, .val (.long (vv / (sc.toInt64))), .second] [])) _
        refine XS.lload X0.here hx rfl (hb hby at_72) rfl ?_
        show Steps p.tables e below (s₁.setTop (mkF m 74 #[.val (.long q0), .second, .val (.int p2), .val (.int p3), .val (.int sc), .val (.long vv), .second, .val (.long (vv / (sc.toInt64))), .second] [(.long vv)])) _
        refine XS.iload X0.here hx rfl (hb hby at_74) rfl ?_
        show Steps p.tables e below (s₁.setTop (mkF m 76 #[.val (.long q0), .second, .val (.int p2), .val (.int p3), .val (.int sc), .val (.long vv), .second, .val (.long (vv / (sc.toInt64))), .second] [(.int sc), (.long vv)])) _
        refine XS.i2l X0.here hx rfl (hb hby at_76) rfl ?_
        show Steps p.tables e below (s₁.setTop (mkF m 77 #[.val (.long q0), .second, .val (.int p2), .val (.int p3), .val (.int sc), .val (.long vv), .second, .val (.long (vv / (sc.toInt64))), .second] [(.long (sc.toInt64)), (.long vv)])) _
        refine XS.lrem X0.here hx rfl (hb hby at_77) rfl (own_nz hsl) ?_
        show Steps p.tables e below (s₁.setTop (mkF m 78 #[.val (.long q0), .second, .val (.int p2), .val (.int p3), .val (.int sc), .val (.long vv), .second, .val (.long (vv / (sc.toInt64))), .second] [(.long (vv - (vv / (sc.toInt64)) * (sc.toInt64)))])) _
        refine XS.lconst X0.here hx rfl (hb hby at_78) ?_
        show Steps p.tables e below (s₁.setTop (mkF m 79 #[.val (.long q0), .second, .val (.int p2), .val (.int p3), .val (.int sc), .val (.long vv), .second, .val (.long (vv / (sc.toInt64))), .second] [(.long (0 : Int64)), (.long (vv - (vv / (sc.toInt64)) * (sc.toInt64)))])) _
        refine XS.lcmp X0.here hx rfl (hb hby at_79) rfl ?_
        show Steps p.tables e below (s₁.setTop (mkF m 80 #[.val (.long q0), .second, .val (.int p2), .val (.int p3), .val (.int sc), .val (.long vv), .second, .val (.long (vv / (sc.toInt64))), .second] [(.int (lcmpW (vv - (vv / (sc.toInt64)) * (sc.toInt64)) (0 : Int64)))])) _
        refine XS.ifNo X0.here hx rfl (hb hby at_80) rfl ((if0 _ _).trans (feq c80).1) ?_
        show Steps p.tables e below (s₁.setTop (mkF m 83 #[.val (.long q0), .second, .val (.int p2), .val (.int p3), .val (.int sc), .val (.long vv), .second, .val (.long (vv / (sc.toInt64))), .second] [])) _
        refine XS.lload X0.here hx rfl (hb hby at_83) rfl ?_
        show Steps p.tables e below (s₁.setTop (mkF m 85 #[.val (.long q0), .second, .val (.int p2), .val (.int p3), .val (.int sc), .val (.long vv), .second, .val (.long (vv / (sc.toInt64))), .second] [(.long vv)])) _
        refine XS.lconst X0.here hx rfl (hb hby at_85) ?_
        show Steps p.tables e below (s₁.setTop (mkF m 86 #[.val (.long q0), .second, .val (.int p2), .val (.int p3), .val (.int sc), .val (.long vv), .second, .val (.long (vv / (sc.toInt64))), .second] [(.long (0 : Int64)), (.long vv)])) _
        refine XS.lcmp X0.here hx rfl (hb hby at_86) rfl ?_
        show Steps p.tables e below (s₁.setTop (mkF m 87 #[.val (.long q0), .second, .val (.int p2), .val (.int p3), .val (.int sc), .val (.long vv), .second, .val (.long (vv / (sc.toInt64))), .second] [(.int (lcmpW vv (0 : Int64)))])) _
        refine XS.ifNo X0.here hx rfl (hb hby at_87) rfl ((if0 _ _).trans (tlt c87).2.1) ?_
        show Steps p.tables e below (s₁.setTop (mkF m 90 #[.val (.long q0), .second, .val (.int p2), .val (.int p3), .val (.int sc), .val (.long vv), .second, .val (.long (vv / (sc.toInt64))), .second] [])) _
        refine XS.lload X0.here hx rfl (hb hby at_90) rfl ?_
        show Steps p.tables e below (s₁.setTop (mkF m 92 #[.val (.long q0), .second, .val (.int p2), .val (.int p3), .val (.int sc), .val (.long vv), .second, .val (.long (vv / (sc.toInt64))), .second] [(.long (vv / (sc.toInt64)))])) _
        refine XS.lconst X0.here hx rfl (hb hby at_92) ?_
        show Steps p.tables e below (s₁.setTop (mkF m 93 #[.val (.long q0), .second, .val (.int p2), .val (.int p3), .val (.int sc), .val (.long vv), .second, .val (.long (vv / (sc.toInt64))), .second] [(.long (1 : Int64)), (.long (vv / (sc.toInt64)))])) _
        refine XS.lsub X0.here hx rfl (hb hby at_93) rfl ?_
        show Steps p.tables e below (s₁.setTop (mkF m 94 #[.val (.long q0), .second, .val (.int p2), .val (.int p3), .val (.int sc), .val (.long vv), .second, .val (.long (vv / (sc.toInt64))), .second] [(.long ((vv / (sc.toInt64)) - (1 : Int64)))])) _
        refine XS.lstore X0.here hx rfl (hb hby at_94) rfl (l' := #[.val (.long q0), .second, .val (.int p2), .val (.int p3), .val (.int sc), .val (.long vv), .second, .val (.long ((vv / (sc.toInt64)) - (1 : Int64))), .second]) rfl ?_
        exact k
      · refine ⟨((vv / (sc.toInt64))), (by unfold own_ex; rw [if_neg c80, if_pos c87]), fun t k => pre3 t ?_⟩
        show Steps p.tables e below (s₁.setTop (mkF m 64 #[.val (.long q0), .second, .val (.int p2), .val (.int p3), .val (.int sc), .val (.long vv), .second, s7, s8] [])) _
        refine XS.lload X0.here hx rfl (hb hby at_64) rfl ?_
        show Steps p.tables e below (s₁.setTop (mkF m 66 #[.val (.long q0), .second, .val (.int p2), .val (.int p3), .val (.int sc), .val (.long vv), .second, s7, s8] [(.long vv)])) _
        refine XS.iload X0.here hx rfl (hb hby at_66) rfl ?_
        show Steps p.tables e below (s₁.setTop (mkF m 68 #[.val (.long q0), .second, .val (.int p2), .val (.int p3), .val (.int sc), .val (.long vv), .second, s7, s8] [(.int sc), (.long vv)])) _
        refine XS.i2l X0.here hx rfl (hb hby at_68) rfl ?_
        show Steps p.tables e below (s₁.setTop (mkF m 69 #[.val (.long q0), .second, .val (.int p2), .val (.int p3), .val (.int sc), .val (.long vv), .second, s7, s8] [(.long (sc.toInt64)), (.long vv)])) _
        refine XS.ldiv X0.here hx rfl (hb hby at_69) rfl (own_nz hsl) ?_
        show Steps p.tables e below (s₁.setTop (mkF m 70 #[.val (.long q0), .second, .val (.int p2), .val (.int p3), .val (.int sc), .val (.long vv), .second, s7, s8] [(.long (vv / (sc.toInt64)))])) _
        refine XS.lstore X0.here hx rfl (hb hby at_70) rfl (l' := #[.val (.long q0), .second, .val (.int p2), .val (.int p3), .val (.int sc), .val (.long vv), .second, .val (.long (vv / (sc.toInt64))), .second]) (own_st70 hm3) ?_
        show Steps p.tables e below (s₁.setTop (mkF m 72 #[.val (.long q0), .second, .val (.int p2), .val (.int p3), .val (.int sc), .val (.long vv), .second, .val (.long (vv / (sc.toInt64))), .second] [])) _
        refine XS.lload X0.here hx rfl (hb hby at_72) rfl ?_
        show Steps p.tables e below (s₁.setTop (mkF m 74 #[.val (.long q0), .second, .val (.int p2), .val (.int p3), .val (.int sc), .val (.long vv), .second, .val (.long (vv / (sc.toInt64))), .second] [(.long vv)])) _
        refine XS.iload X0.here hx rfl (hb hby at_74) rfl ?_
        show Steps p.tables e below (s₁.setTop (mkF m 76 #[.val (.long q0), .second, .val (.int p2), .val (.int p3), .val (.int sc), .val (.long vv), .second, .val (.long (vv / (sc.toInt64))), .second] [(.int sc), (.long vv)])) _
        refine XS.i2l X0.here hx rfl (hb hby at_76) rfl ?_
        show Steps p.tables e below (s₁.setTop (mkF m 77 #[.val (.long q0), .second, .val (.int p2), .val (.int p3), .val (.int sc), .val (.long vv), .second, .val (.long (vv / (sc.toInt64))), .second] [(.long (sc.toInt64)), (.long vv)])) _
        refine XS.lrem X0.here hx rfl (hb hby at_77) rfl (own_nz hsl) ?_
        show Steps p.tables e below (s₁.setTop (mkF m 78 #[.val (.long q0), .second, .val (.int p2), .val (.int p3), .val (.int sc), .val (.long vv), .second, .val (.long (vv / (sc.toInt64))), .second] [(.long (vv - (vv / (sc.toInt64)) * (sc.toInt64)))])) _
        refine XS.lconst X0.here hx rfl (hb hby at_78) ?_
        show Steps p.tables e below (s₁.setTop (mkF m 79 #[.val (.long q0), .second, .val (.int p2), .val (.int p3), .val (.int sc), .val (.long vv), .second, .val (.long (vv / (sc.toInt64))), .second] [(.long (0 : Int64)), (.long (vv - (vv / (sc.toInt64)) * (sc.toInt64)))])) _
        refine XS.lcmp X0.here hx rfl (hb hby at_79) rfl ?_
        show Steps p.tables e below (s₁.setTop (mkF m 80 #[.val (.long q0), .second, .val (.int p2), .val (.int p3), .val (.int sc), .val (.long vv), .second, .val (.long (vv / (sc.toInt64))), .second] [(.int (lcmpW (vv - (vv / (sc.toInt64)) * (sc.toInt64)) (0 : Int64)))])) _
        refine XS.ifNo X0.here hx rfl (hb hby at_80) rfl ((if0 _ _).trans (feq c80).1) ?_
        show Steps p.tables e below (s₁.setTop (mkF m 83 #[.val (.long q0), .second, .val (.int p2), .val (.int p3), .val (.int sc), .val (.long vv), .second, .val (.long (vv / (sc.toInt64))), .second] [])) _
        refine XS.lload X0.here hx rfl (hb hby at_83) rfl ?_
        show Steps p.tables e below (s₁.setTop (mkF m 85 #[.val (.long q0), .second, .val (.int p2), .val (.int p3), .val (.int sc), .val (.long vv), .second, .val (.long (vv / (sc.toInt64))), .second] [(.long vv)])) _
        refine XS.lconst X0.here hx rfl (hb hby at_85) ?_
        show Steps p.tables e below (s₁.setTop (mkF m 86 #[.val (.long q0), .second, .val (.int p2), .val (.int p3), .val (.int sc), .val (.long vv), .second, .val (.long (vv / (sc.toInt64))), .second] [(.long (0 : Int64)), (.long vv)])) _
        refine XS.lcmp X0.here hx rfl (hb hby at_86) rfl ?_
        show Steps p.tables e below (s₁.setTop (mkF m 87 #[.val (.long q0), .second, .val (.int p2), .val (.int p3), .val (.int sc), .val (.long vv), .second, .val (.long (vv / (sc.toInt64))), .second] [(.int (lcmpW vv (0 : Int64)))])) _
        refine XS.ifYes X0.here hx rfl (pc0 := 87) (pc' := 96) rfl (hb hby at_87) rfl ((if0 _ _).trans (flt c87).2.1) (by decide) (by decide) ?_
        exact k
    obtain ⟨_, _, ⟨T1, L1, k1, n1⟩, -, X1, ⟨Lc1, hQ1, l1, y1, z1⟩, st1⟩ := Jvm.LawKit.callS X0 hx (y := (⟨"com/example/sekisho/sekisho/otp/OneTimePassword", "timeStep", "(JI)J"⟩ : MethodName)) hown (mvT hZ (hw _ (List.mem_of_getElem? (i := 0) rfl))) (mvT hZ (hw _ (List.mem_of_getElem? (i := 1) rfl))) (mvT hZ (hw _ (List.mem_of_getElem? (i := 2) rfl))) (mvT hZ (hw _ (List.mem_of_getElem? (i := 3) rfl))) (by decide) (backOf (W := 0) (rm1 l Z a0 hw [] vv sc h0 n0 Z0 hsc) hZ (hw _ (List.mem_of_getElem? (i := 3) rfl)) (hw _ (List.mem_of_getElem? (i := 2) rfl)) (by decide) (by decide)) (g := (mkF m 100 #[.val (.long q0), .second, .val (.int p2), .val (.int p3), .val (.int sc), .val (.long vv), .second, .val (.long dv), .second] [(.int sc), (.long vv)])) rfl (by rw [hml]; rfl) (argsL := [(.long vv), (.int sc)]) (rest := []) (lenOf pd_1 rfl) rfl (by show 2 * 0 + _ ≤ _; exact Nat.le_of_eq rfl) (hb hby at_100) (fun _ _ => ⟨rfl, e0, (by decide : 0 + 0 ≤ _), (by decide : 0 + 0 ≤ _)⟩)
    dsimp only [Pt.U, Pt.locs, Pt.cells, Pt.slots] at X1 l1 y1 z1 st1 hQ1
    subst l1 y1 z1
    obtain ⟨rfl, N1q, e1q⟩ := hQ1
    have N1 := Fr.app N0 N1q
    have pre5 : ∀ t, Steps p.tables e below (T1.setTop (mkF m 105 #[.val (.long q0), .second, .val (.int p2), .val (.int p3), .val (.int sc), .val (.long vv), .second, .val (.long dv), .second] [(.long dv), (.long (own_fl vv sc.toInt64))])) t → Steps p.tables e below (s₁.setTop (entryFrame m #[(.long q0), (.int p2), (.int p3)] maxLocals)) t := by
      intro t k
      refine pre4 t ?_
      show Steps p.tables e below (s₁.setTop (mkF m 96 #[.val (.long q0), .second, .val (.int p2), .val (.int p3), .val (.int sc), .val (.long vv), .second, .val (.long dv), .second] [])) _
      refine XS.lload X0.here hx rfl (hb hby at_96) rfl ?_
      show Steps p.tables e below (s₁.setTop (mkF m 98 #[.val (.long q0), .second, .val (.int p2), .val (.int p3), .val (.int sc), .val (.long vv), .second, .val (.long dv), .second] [(.long vv)])) _
      refine XS.iload X0.here hx rfl (hb hby at_98) rfl ?_
      show Steps p.tables e below (s₁.setTop (mkF m 100 #[.val (.long q0), .second, .val (.int p2), .val (.int p3), .val (.int sc), .val (.long vv), .second, .val (.long dv), .second] [(.int sc), (.long vv)])) _
      refine st1 _ ?_
      show Steps p.tables e below (T1.setTop (mkF m 103 #[.val (.long q0), .second, .val (.int p2), .val (.int p3), .val (.int sc), .val (.long vv), .second, .val (.long dv), .second] [(.long (own_fl vv sc.toInt64))])) _
      refine XS.lload X1.here hx rfl (hb hby at_103) rfl ?_
      exact k
    subst hm4
    obtain ⟨fs, hr, hrun, hended, hW, hsame⟩ := X1.leave (v := some (.int (1 : Int32))) (fun h => by rw [Bd.returns] at h; cases h)
    refine ⟨_, _, pre5 _ ?_, hrun, hended, _, _, rfl, ?_, ⟨_, rfl⟩, hW, hsame.mono (by decide) (by decide)⟩
    · show Steps p.tables e below (T1.setTop (mkF m 105 #[.val (.long q0), .second, .val (.int p2), .val (.int p3), .val (.int sc), .val (.long vv), .second, .val (.long (own_ex vv sc.toInt64)), .second] [(.long (own_ex vv sc.toInt64)), (.long (own_fl vv sc.toInt64))])) _
      refine XS.lcmp X1.here hx rfl (hb hby at_105) rfl ?_
      show Steps p.tables e below (T1.setTop (mkF m 106 #[.val (.long q0), .second, .val (.int p2), .val (.int p3), .val (.int sc), .val (.long vv), .second, .val (.long (own_ex vv sc.toInt64)), .second] [(.int (lcmpW (own_fl vv sc.toInt64) (own_ex vv sc.toInt64)))])) _
      refine XS.ifNo X1.here hx rfl (hb hby at_106) rfl ((if0 _ _).trans (teq ((lw_eq _ _).mpr (own_law vv sc.toInt64 hsl))).2) ?_
      show Steps p.tables e below (T1.setTop (mkF m 109 #[.val (.long q0), .second, .val (.int p2), .val (.int p3), .val (.int sc), .val (.long vv), .second, .val (.long (own_ex vv sc.toInt64)), .second] [])) _
      refine XS.iconst X1.here hx rfl (hb hby at_109) ?_
      show Steps p.tables e below (T1.setTop (mkF m 110 #[.val (.long q0), .second, .val (.int p2), .val (.int p3), .val (.int sc), .val (.long vv), .second, .val (.long (own_ex vv sc.toInt64)), .second] [(.int (1 : Int32))])) _
      refine XS.goto X1.here hx rfl (pc0 := 110) (pc' := 114) rfl (hb hby at_110) (by decide) (by decide) ?_
      show Steps p.tables e below (T1.setTop (mkF m 114 #[.val (.long q0), .second, .val (.int p2), .val (.int p3), .val (.int sc), .val (.long vv), .second, .val (.long (own_ex vv sc.toInt64)), .second] [(.int (1 : Int32))])) _
      exact retN X1 hx (t := .boolean) Bd.returns (by simp) (hb hby at_114) hr
    · show Q0 Z q0 p2 p3 h0 n0 _ T1.heap _
      exact ⟨rfl, N1⟩
set_option maxRecDepth 65536 in
set_option maxHeartbeats 40000000 in
theorem comes_1 {Post : Tables → Env → Array Value → State → Outcome → State → Prop} (hpost : ∀ tb e args s v u, (limb_1_1.after args s (.returned v) u = true ∧ limb_1_2.after args s (.returned v) u = true ∧ True) → FrameEnd s (.returned v) u (Jvm.fieldLocs frame_1_writes args s ++ Jvm.arrayLocs frame_1_arrays args s ++ Jvm.staticLocs frame_1_statics s) 0 0 → Post tb e args s (.returned v) u) :
    ArmFor flags0 classFile x code maxLocals ret World_1 tables_1 room_1 Calls_1 rest_1 Pre_1 Post := by
  intro l hfl _ _ p e ha hc hk s m args below hf hA hF happ hP
  obtain ⟨hcalls, hrest, hpre⟩ := hP
  obtain ⟨-, -, -, hnamed, -, -, -, hat⟩ := (Spec.applies_iff hf).mp happ
  obtain ⟨hg, hn⟩ := and_e (Cond.before_iff.mp (show (Jvm.Cond.and given_1 narrow_1).before args s = true from hpre))
  obtain ⟨gv1, gv2⟩ := and_e hg
  obtain ⟨gv3, gv4⟩ := and_e gv2
  obtain ⟨gv5, gv6⟩ := and_e gv4
  obtain ⟨w0, w1, w2, rfl⟩ : ∃ w0 w1 w2 : Value, args = #[w0, w1, w2] := by
    have hs : args.size = 3 := by simpa [Cond.value, given_1] using gv1
    obtain ⟨L⟩ := args
    match L, hs with
    | [w0, w1, w2], _ => exact ⟨w0, w1, w2, rfl⟩
  have hw := fun d (hd : d ∈ tables_1) => atoms_spec (ws := Jvm.Cond.code x code maxLocals ret :: tables_1) hat d (List.mem_cons_of_mem _ hd)
  have hfit : Fit s := fun {y c} hc i hi => by
    obtain ⟨ha, rfl⟩ := Array.getElem?_eq_some_iff.mp hc
    have q := List.all_eq_true.mp ((Array.all_eq_true_iff_forall_mem.mp hF) _ (Array.getElem_mem ha)) i (List.mem_range.mpr hi)
    simpa [Array.getElem?_eq_getElem hi] using q
  obtain ⟨i0, ei0⟩ := isL_v gv3
  obtain rfl : w0 = (.long i0) := Option.some.inj ei0
  obtain ⟨i1, ei1⟩ := is_v gv5
  obtain rfl : w1 = (.int i1) := Option.some.inj ei1
  obtain ⟨i2, ei2⟩ := is_v gv6
  obtain rfl : w2 = (.int i2) := Option.some.inj ei2
  obtain ⟨n, o, h1, h2, h3, _, L, rfl, ⟨rfl, N⟩, hq⟩ := rm0 l s _ hw tables_1 i0 i1 i2 s.heap s.heap.size (Nat.le_refl _)  p e ha hc hk s m _ below hf ((Spec.applies_iff_loose hf).mp happ).1 ⟨rfl, State.Warmed39.refl s, rfl⟩ trivial
  refine ⟨n, _, h1, h2, h3, hpost _ _ _ _ _ _ ⟨Cond.after_iff.mpr rfl, Cond.after_iff.mpr (eq_i res_at (Term.int_eval (1)) rfl), trivial⟩ ⟨hq.1, hq.2.1, (hq.2.2.sift fun y hy => Or.inr (N y hy)).mono (by decide) (by decide)⟩⟩
theorem main_1_1 : Claimed_1_1 := comes_1 fun _ _ _ _ _ _ h hF => ⟨h.1, hF⟩
theorem main_1_2 : Claimed_1_2 := comes_1 fun _ _ _ _ _ _ h hF => ⟨h.2.1, hF⟩
end Jvm.Pilot.@@N@@
namespace Jvm.Pilot.@@N@@
open Jvm Jvm.ClassFile Sem Op Lib Jvm.Free Jvm.Stand Jvm.Pilot.@@N@@.Jvm.D
/-! MADE BY PROGRAM (witnessworld.py) out of the Statement's table words and the real class files: 10 classes; the members and pool entries that the words name. The judged class is class 1, her method 1. -/
namespace start1
open Jvm.ClassFile
def u (s : String) : CpInfo := .utf8 (stringToUtf16 s)
/-- a pool by its gaps: so many unusable entries, then the entry; so many at the end -/
def gap : Nat → List CpInfo → List CpInfo
  | 0, r => r
  | n + 1, r => .unusable :: gap n r
def poolList (es : List (Nat × CpInfo)) (last : Nat) : List CpInfo := es.foldr (fun e r => gap e.1 (e.2 :: r)) (gap last [])
def pool (es : List (Nat × CpInfo)) (last : Nat) : Array CpInfo := ⟨poolList es last⟩
def fileOf (pool : Array CpInfo) (this : Nat) (attrs : Array Attribute := #[]) (ms : Array MethodInfo := #[]) (fl : Nat := 33) (sup : Nat := 0) (ifs : Array Nat := #[]) (fds : Array FieldInfo := #[]) : ClassFile where
  minorVersion := 0
  majorVersion := 65
  constantPool := pool
  accessFlags := fl
  thisClass := this
  superClass := sup
  interfaces := ifs
  fields := fds
  methods := ms
  attributes := attrs
def plain (name : String) (sup : Option ClassId) : Class where
  name := name
  kind := .ordinary
  loader := none
  accessFlags := 33
  super := sup
  interfaces := #[]
  cf := none
  fields := #[]
  methods := #[]
  instanceTypes := #[]
  staticTypes := #[]
  resolved := #[]
  callSites := []
  init := .initialized
  statics := none
  mirror := none

def pool0 : Array CpInfo := pool [(5, u "<init>"), (0, u "()V"), (1, .class_ 10), (1, u "java/lang/Object")] 113

def k0m0 : Method := { name := "<init>", desc := "()V", sig := { parameters := [], returnType := none }, accessFlags := 1, code := none }
/-- java/lang/Object -/
def k0 : Class := { plain "java/lang/Object" none with
  accessFlags := 33
  interfaces := #[]
  cf := some (fileOf pool0 8 #[] #[{ accessFlags := 1, nameIndex := 5, descriptorIndex := 6, attributes := #[] }] 33 0 #[] #[])
  fields := #[]
  methods := #[k0m0]
  instanceTypes := #[]
  staticTypes := #[]
  resolved := Array.replicate 124 none
  statics := none }

def pool1 : Array CpInfo := pool [(2, .class_ 4), (1, u "java/lang/Object"), (0, u "<init>"), (0, u "()V"), (0, .integer 2147483647), (0, .methodref 9 10), (0, .class_ 11), (0, .nameAndType 12 13), (0, u "com/example/sekisho/sekisho/otp/OneTimePassword"), (0, u "timeStep"), (0, u "(JI)J"), (0, .class_ 15), (0, u "com/example/sekisho/sekisho/otp/OneTimePasswordTimeStepPinLaw"), (2, u "law"), (0, u "(JII)Z")] 3

def k1m0 : Method := { name := "<init>", desc := "()V", sig := { parameters := [], returnType := none }, accessFlags := 2, code := none }
def k1c1 : Code := { maxStack := 6, maxLocals := 9, code := code, exceptionTable := #[], attributes := #[] }
def k1m1 : Method := { name := "law", desc := "(JII)Z", sig := { parameters := [.long, .int, .int], returnType := some .boolean }, accessFlags := 9, code := some k1c1 }
/-- com/example/sekisho/sekisho/otp/OneTimePasswordTimeStepPinLaw -/
def k1 : Class := { plain "com/example/sekisho/sekisho/otp/OneTimePasswordTimeStepPinLaw" (some 0) with
  accessFlags := 49
  interfaces := #[]
  cf := some (fileOf pool1 14 #[] #[{ accessFlags := 2, nameIndex := 5, descriptorIndex := 6, attributes := #[] }, { accessFlags := 9, nameIndex := 18, descriptorIndex := 19, attributes := #[] }] 49 2 #[] #[])
  fields := #[]
  methods := #[k1m0, k1m1]
  instanceTypes := #[]
  staticTypes := #[]
  resolved := Array.replicate 23 none
  statics := none }

def pool2 : Array CpInfo := pool [(2, .class_ 4), (1, u "java/lang/Object"), (0, u "<init>"), (0, u "()V"), (0, .class_ 8), (0, u "com/example/sekisho/sekisho/otp/OneTimePassword"), (15, u "POWERS_OF_TEN"), (0, u "[I"), (20, .methodref 47 48), (0, .class_ 49), (0, .nameAndType 50 51), (0, u "java/lang/Math"), (0, u "floorDiv"), (0, u "(JI)J"), (55, u "MIN_DIGITS"), (0, u "I"), (2, u "MAX_DIGITS"), (6, u "timeStep")] 26

def k2m0 : Method := { name := "<init>", desc := "()V", sig := { parameters := [], returnType := none }, accessFlags := 2, code := none }
def k2c1 : Code := { maxStack := 3, maxLocals := 3, code := prog_11_method_3_code, exceptionTable := #[], attributes := #[] }
def k2m1 : Method := { name := "timeStep", desc := "(JI)J", sig := { parameters := [.long, .int], returnType := some .long }, accessFlags := 9, code := some k2c1 }
/-- com/example/sekisho/sekisho/otp/OneTimePassword -/
def k2 : Class := { plain "com/example/sekisho/sekisho/otp/OneTimePassword" (some 0) with
  accessFlags := 49
  interfaces := #[]
  cf := some (fileOf pool2 7 #[] #[{ accessFlags := 2, nameIndex := 5, descriptorIndex := 6, attributes := #[] }, { accessFlags := 9, nameIndex := 118, descriptorIndex := 51, attributes := #[] }] 49 2 #[] #[{ accessFlags := 25, nameIndex := 107, descriptorIndex := 108, attributes := #[] }, { accessFlags := 25, nameIndex := 111, descriptorIndex := 108, attributes := #[] }, { accessFlags := 26, nameIndex := 24, descriptorIndex := 25, attributes := #[] }])
  fields := #[{ name := "MIN_DIGITS", type := .int, accessFlags := 25, slot := 0, constantValue := 0 }, { name := "MAX_DIGITS", type := .int, accessFlags := 25, slot := 1, constantValue := 0 }, { name := "POWERS_OF_TEN", type := (.array .int), accessFlags := 26, slot := 2, constantValue := 0 }]
  methods := #[k2m0, k2m1]
  instanceTypes := #[]
  staticTypes := #[.int, .int, (.array .int)]
  resolved := Array.replicate 145 none
  statics := none }

def pool3 : Array CpInfo := pool [(1, .class_ 2), (0, u "java/lang/Math"), (1, .class_ 6), (1, u "java/lang/Object"), (0, u "<init>"), (0, u "()V"), (89, .class_ 100), (1, u "java/lang/Math$RandomNumberGeneratorHolder"), (20, u "(JJ)J"), (21, .methodref 1 144), (0, .nameAndType 145 121), (0, u "floorDiv"), (26, u "negativeZeroFloatBits"), (0, u "J"), (2, u "negativeZeroDoubleBits"), (68, u "$assertionsDisabled"), (0, u "Z"), (91, u "twoToTheDoubleScaleDown"), (0, u "D"), (4, u "twoToTheDoubleScaleUp"), (9, u "E"), (3, u "PI"), (2, u "TAU"), (2, u "DEGREES_TO_RADIANS"), (0, u "RADIANS_TO_DEGREES"), (29, u "(JI)J")] 64

def k3m0 : Method := { name := "<init>", desc := "()V", sig := { parameters := [], returnType := none }, accessFlags := 2, code := none }
def k3c1 : Code := { maxStack := 4, maxLocals := 3, code := jdk_29_method_48_code, exceptionTable := #[], attributes := #[] }
def k3m1 : Method := { name := "floorDiv", desc := "(JI)J", sig := { parameters := [.long, .int], returnType := some .long }, accessFlags := 9, code := some k3c1 }
def k3c2 : Code := { maxStack := 4, maxLocals := 6, code := jdk_29_method_49_code, exceptionTable := #[], attributes := #[] }
def k3m2 : Method := { name := "floorDiv", desc := "(JJ)J", sig := { parameters := [.long, .long], returnType := some .long }, accessFlags := 9, code := some k3c2 }
/-- java/lang/Math -/
def k3 : Class := { plain "java/lang/Math" (some 0) with
  accessFlags := 49
  interfaces := #[]
  cf := some (fileOf pool3 1 #[.nestMembers #[98]] #[{ accessFlags := 2, nameIndex := 7, descriptorIndex := 8, attributes := #[] }, { accessFlags := 9, nameIndex := 145, descriptorIndex := 395, attributes := #[] }, { accessFlags := 9, nameIndex := 145, descriptorIndex := 121, attributes := #[] }] 49 4 #[] #[{ accessFlags := 25, nameIndex := 354, descriptorIndex := 339, attributes := #[] }, { accessFlags := 25, nameIndex := 358, descriptorIndex := 339, attributes := #[] }, { accessFlags := 25, nameIndex := 361, descriptorIndex := 339, attributes := #[] }, { accessFlags := 26, nameIndex := 364, descriptorIndex := 339, attributes := #[] }, { accessFlags := 26, nameIndex := 365, descriptorIndex := 339, attributes := #[] }, { accessFlags := 26, nameIndex := 172, descriptorIndex := 173, attributes := #[] }, { accessFlags := 26, nameIndex := 176, descriptorIndex := 173, attributes := #[] }, { accessFlags := 8, nameIndex := 344, descriptorIndex := 339, attributes := #[] }, { accessFlags := 8, nameIndex := 338, descriptorIndex := 339, attributes := #[] }, { accessFlags := 4120, nameIndex := 245, descriptorIndex := 246, attributes := #[] }])
  fields := #[{ name := "E", type := .double, accessFlags := 25, slot := 0, constantValue := 0 }, { name := "PI", type := .double, accessFlags := 25, slot := 1, constantValue := 0 }, { name := "TAU", type := .double, accessFlags := 25, slot := 2, constantValue := 0 }, { name := "DEGREES_TO_RADIANS", type := .double, accessFlags := 26, slot := 3, constantValue := 0 }, { name := "RADIANS_TO_DEGREES", type := .double, accessFlags := 26, slot := 4, constantValue := 0 }, { name := "negativeZeroFloatBits", type := .long, accessFlags := 26, slot := 5, constantValue := 0 }, { name := "negativeZeroDoubleBits", type := .long, accessFlags := 26, slot := 6, constantValue := 0 }, { name := "twoToTheDoubleScaleUp", type := .double, accessFlags := 8, slot := 7, constantValue := 0 }, { name := "twoToTheDoubleScaleDown", type := .double, accessFlags := 8, slot := 8, constantValue := 0 }, { name := "$assertionsDisabled", type := .boolean, accessFlags := 4120, slot := 9, constantValue := 0 }]
  methods := #[k3m0, k3m1, k3m2]
  instanceTypes := #[]
  staticTypes := #[.double, .double, .double, .double, .double, .long, .long, .double, .double, .boolean]
  resolved := Array.replicate 460 none
  statics := none }

def pool4 : Array CpInfo := pool [(1, u "java/lang/Cloneable"), (0, .class_ 1), (0, u "java/lang/Object"), (0, .class_ 3)] 3

/-- java/lang/Cloneable -/
def k4 : Class := { plain "java/lang/Cloneable" (some 0) with
  accessFlags := 1537
  interfaces := #[]
  cf := some (fileOf pool4 2 #[] #[] 1537 4 #[] #[])
  fields := #[]
  methods := #[]
  instanceTypes := #[]
  staticTypes := #[]
  resolved := Array.replicate 8 none
  statics := none }

def pool5 : Array CpInfo := pool [(1, u "java/io/Serializable"), (0, .class_ 1), (0, u "java/lang/Object"), (0, .class_ 3)] 3

/-- java/io/Serializable -/
def k5 : Class := { plain "java/io/Serializable" (some 0) with
  accessFlags := 1537
  interfaces := #[]
  cf := some (fileOf pool5 2 #[] #[] 1537 4 #[] #[])
  fields := #[]
  methods := #[]
  instanceTypes := #[]
  staticTypes := #[]
  resolved := Array.replicate 8 none
  statics := none }

/-- the primitive byte -/
def k6 : Class := { plain "byte" none with kind := .primitive 'B', accessFlags := 0x411 }
/-- [B -/
def k7 : Class := { plain "[B" (some 0) with kind := .array 6 .byte, interfaces := #[4, 5], accessFlags := 1041 }

/-- the primitive int -/
def k8 : Class := { plain "int" none with kind := .primitive 'I', accessFlags := 0x411 }
/-- [I -/
def k9 : Class := { plain "[I" (some 0) with kind := .array 8 .int, interfaces := #[4, 5], accessFlags := 1041 }

def heap : Heap := #[]
def classes : Array Class := #[k0, k1, k2, k3, k4, k5, k6, k7, k8, k9]
def interned : List (Array UInt16 × Addr) := []
def slotsUsed : Nat := 0
def theMethod : MethodId := ⟨1, 1⟩
def args0 : Array Value := #[.long 65536, .int 5, .int 0]
def aboutOver (below : List Frame) : State where
  vm := { classes := classes, interned := interned.toArray }
  heap := heap
  slotsUsed := slotsUsed
  threads := #[{ frames := .invoking theMethod args0 :: below }]
def below0 : List Frame := [.native { method := ⟨0, 0⟩, args := #[] }]
def about1 : State := aboutOver below0
def p0 : Program := .bare "" "" ""
def e0 : Env := launch0.env 0 0 0
theorem w_frames : about1.frames = Frame.invoking theMethod args0 :: below0 := rfl
set_option maxRecDepth 65536 in
theorem w_args : argsFit about1.vm theMethod args0 = true := by decide +kernel
set_option maxRecDepth 65536 in
theorem w_heap : heapFits about1 = true := by decide +kernel
set_option maxRecDepth 65536 in
theorem w_runnable : about1.curStatus? = some .runnable := by decide +kernel
set_option maxRecDepth 65536 in
theorem w_alone : about1.alone = true := by decide +kernel
set_option maxRecDepth 65536 in
theorem w_named : about1.methodNamed? x = some theMethod := by decide +kernel
set_option maxRecDepth 65536 in
theorem w_hears : about1.hears theMethod below0 = true := by decide +kernel
set_option maxRecDepth 65536 in
theorem w_ripe : about1.ripe theMethod args0 below0 = true := by decide +kernel
theorem w_running : about1.status = .running := rfl
set_option maxRecDepth 65536 in
theorem w_room : about1.hasRoom e0.platform room_1 = true :=
  launch0.hasRoom_least _ room_1 (by decide +kernel) (by decide +kernel) (by decide +kernel) (by decide +kernel) (by decide +kernel) (by decide +kernel)
theorem allAtoms_all (ts : List Jvm.Cond) (a : Array Jvm.Value) (st : Jvm.State) : (allAtoms ts).before a st = ts.all (fun c => c.before a st) := by
  induction ts with
  | nil => rfl
  | cons c t ih =>
    show (Jvm.Cond.and c (allAtoms t)).before a st = _
    rw [Jvm.Cond.before_and, ih, List.all_cons]
def words1 : List Jvm.Cond := Jvm.Cond.code x code maxLocals ret :: tables_1
/-- a 'code' word, met by the world's own term for the bytes: nothing is compared byte by byte -/
theorem code_word {y : MethodName} {bytes : ByteArray} {mx : Nat} {rt : Option FieldType} {a : Array Value} {s : State} {m : MethodId} {meth : Method} {c : Code} (h1 : s.methodNamed? y = some m) (h2 : s.vm.method? m = some meth) (h3 : meth.code = some c) (h4 : c.code = bytes)
    (h5 : (c.maxLocals == mx && c.exceptionTable.isEmpty && decide (c.maxStack ≤ mostOperands) && decide (meth.sig.returnType = rt) && !meth.locks && decide (parseMethodDescriptor y.desc = some meth.sig)) = true) : (Jvm.Cond.code y bytes mx rt).before a s = true := by
  simp only [Bool.and_eq_true, beq_iff_eq, Bool.not_eq_true', decide_eq_true_eq] at h5
  obtain ⟨⟨⟨⟨⟨g1, g2⟩, g3⟩, g4⟩, g5⟩, g6⟩ := h5
  simp [Cond.before, Cond.holds, Cond.value, h1, h2, h3, h4, g1, g2, g3, g4, g5, g6]
def isCode : Jvm.Cond → Bool
  | .code _ _ _ _ => true
  | _ => false
theorem all_split {L : List Jvm.Cond} {P : Jvm.Cond → Bool} (h1 : L.all (fun c => isCode c || P c) = true) (h2 : ∀ c ∈ L.filter isCode, P c = true) : L.all P = true := by
  refine List.all_eq_true.mpr fun c hc => ?_
  have h := List.all_eq_true.mp h1 c hc
  rcases Bool.eq_false_or_eq_true (isCode c) with hi | hi
  · exact h2 c (List.mem_filter.mpr ⟨hc, hi⟩)
  · simpa [hi] using h
set_option maxRecDepth 65536 in
theorem w_c0 : (Jvm.Cond.code x code maxLocals ret).before args0 about1 = true := code_word (m := ⟨1, 1⟩) (meth := k1m1) (c := k1c1) (by decide +kernel) rfl rfl rfl (by decide +kernel)
set_option maxRecDepth 65536 in
theorem w_c1 : (Jvm.Cond.code ({ cls := "com/example/sekisho/sekisho/otp/OneTimePassword", name := "timeStep", desc := "(JI)J" } : Jvm.MethodName) prog_11_method_3_code (3 : Nat) (Option.some Jvm.ClassFile.FieldType.long)).before args0 about1 = true := code_word (m := ⟨2, 1⟩) (meth := k2m1) (c := k2c1) (by decide +kernel) rfl rfl rfl (by decide +kernel)
set_option maxRecDepth 65536 in
theorem w_c2 : (Jvm.Cond.code ({ cls := "java/lang/Math", name := "floorDiv", desc := "(JI)J" } : Jvm.MethodName) jdk_29_method_48_code (3 : Nat) (Option.some Jvm.ClassFile.FieldType.long)).before args0 about1 = true := code_word (m := ⟨3, 1⟩) (meth := k3m1) (c := k3c1) (by decide +kernel) rfl rfl rfl (by decide +kernel)
set_option maxRecDepth 65536 in
theorem w_c3 : (Jvm.Cond.code ({ cls := "java/lang/Math", name := "floorDiv", desc := "(JJ)J" } : Jvm.MethodName) jdk_29_method_49_code (6 : Nat) (Option.some Jvm.ClassFile.FieldType.long)).before args0 about1 = true := code_word (m := ⟨3, 2⟩) (meth := k3m2) (c := k3c2) (by decide +kernel) rfl rfl rfl (by decide +kernel)
def codes1 : List Jvm.Cond := [Jvm.Cond.code x code maxLocals ret, Jvm.Cond.code ({ cls := "com/example/sekisho/sekisho/otp/OneTimePassword", name := "timeStep", desc := "(JI)J" } : Jvm.MethodName) prog_11_method_3_code (3 : Nat) (Option.some Jvm.ClassFile.FieldType.long), Jvm.Cond.code ({ cls := "java/lang/Math", name := "floorDiv", desc := "(JI)J" } : Jvm.MethodName) jdk_29_method_48_code (3 : Nat) (Option.some Jvm.ClassFile.FieldType.long), Jvm.Cond.code ({ cls := "java/lang/Math", name := "floorDiv", desc := "(JJ)J" } : Jvm.MethodName) jdk_29_method_49_code (6 : Nat) (Option.some Jvm.ClassFile.FieldType.long)]
set_option maxRecDepth 65536 in
theorem codes_eq : words1.filter isCode = codes1 := rfl
theorem w_codes : ∀ c ∈ words1.filter isCode, c.before args0 about1 = true := by
  rw [codes_eq]
  intro c hc
  simp only [codes1, List.mem_cons, List.not_mem_nil, or_false] at hc
  rcases hc with rfl | rfl | rfl | rfl
  · exact w_c0
  · exact w_c1
  · exact w_c2
  · exact w_c3
set_option maxRecDepth 65536 in
theorem w_t1 : words1.all (fun c => isCode c || c.before args0 about1) = true := by decide +kernel
theorem w_tables : (allAtoms (Jvm.Cond.code x code maxLocals ret :: tables_1)).before args0 about1 = true := by
  rw [allAtoms_all]
  show words1.all (fun c => c.before args0 about1) = true
  refine all_split ?_ w_codes
  rw [w_t1]
set_option maxRecDepth 65536 in
theorem w_case : (Jvm.Cond.and given_1 narrow_1).before args0 about1 = true := by decide +kernel
theorem w_applies : (headSpec (Jvm.Cond.code x code maxLocals ret :: tables_1) room_1).applies x e0.platform about1 = true :=
  (Spec.applies_iff w_frames).mpr ⟨w_running, w_runnable, w_alone, w_named, w_hears, w_ripe, w_room, w_tables⟩
theorem atStart : AtStart classFile x code maxLocals ret World_1 tables_1 room_1 Calls_1 rest_1 Pre_1 launch0 p0 e0 about1 theMethod args0 below0 :=
  ⟨lists_1, trivial, launch0.admits_env _ _ _, launch0.least_env, fairChoices_fair.cas, fairChoices_fair.clock, w_frames, w_args, w_heap, w_applies, trivial, trivial, w_case⟩
end start1
theorem witness_1 : WitnessClaimed_1 := ⟨start1.p0, start1.e0, start1.about1, start1.theMethod, start1.args0, start1.below0, start1.atStart⟩
end Jvm.Pilot.@@N@@
