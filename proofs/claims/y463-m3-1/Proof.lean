import JvmDerived
import JvmDerived.Pilot.@@N@@Statement
import JvmDerived.Pilot.@@N@@Code
set_option linter.unusedVariables false
set_option linter.unusedSimpArgs false
@@BLOCK:NumsL.lean.txt@@
namespace Jvm.RoadKit
open Sem ClassFile Op Lib Jvm.Stand Jvm.Free Jvm.LawKit
section New
variable {p : Program} {l : Launch} {e : Env} {R : Room} {s : State} {m : MethodId} {args : Array Value} {below : List Frame} {meth : Method} {c : Code} {T : State} {locs : List Loc} {cells slots : Nat}
theorem retI (X : Stand p l e R s m args below meth c T locs cells slots) (hx : p.tables.exec = Jvm.exec) {pc : Nat} {Ls : Array Slot} {z : Int32} {rest : List Value} (hret : meth.sig.returnType = some .int) (hd : decode c.code pc = .ok (.ireturn, 1)) {fs : List Frame}
    (hl : ∀ (f : JFrame) (acts : List Action), f.method = m → f.locked = none → f.entered = [] → (doReturn e (T.setTop f) acts (some (.int z))).1 = T.setFrames fs) : Steps p.tables e below (T.setTop (mkF m pc Ls (.int z :: rest))) (T.setFrames fs) :=
  retOut X hx hret rfl (Or.inl ⟨rfl, Or.inl rfl, z, rfl⟩) hd hl
end New
end Jvm.RoadKit
namespace Jvm.Pilot.@@N@@
open Jvm Jvm.ClassFile Sem Op Lib Jvm.Free Jvm.Stand Jvm.LawKit Jvm.RoadKit Bundle Jvm.Pilot.@@N@@.Jvm.D
theorem d1_0 : decode prog_194_method_5_code 0 = .ok (.lload_n 0, 1) := by decide +kernel
theorem d1_1 : decode prog_194_method_5_code 1 = .ok (.lconst 0, 1) := by decide +kernel
theorem d1_2 : decode prog_194_method_5_code 2 = .ok (.lcmp, 1) := by decide +kernel
theorem d1_3 : decode prog_194_method_5_code 3 = .ok (.ifCond .lt 25, 3) := by decide +kernel
theorem d1_6 : decode prog_194_method_5_code 6 = .ok (.lload_n 0, 1) := by decide +kernel
theorem d1_7 : decode prog_194_method_5_code 7 = .ok (.ldc2_w 165, 3) := by decide +kernel
theorem d1_10 : decode prog_194_method_5_code 10 = .ok (.lcmp, 1) := by decide +kernel
theorem d1_11 : decode prog_194_method_5_code 11 = .ok (.ifCond .gt 17, 3) := by decide +kernel
theorem d1_14 : decode prog_194_method_5_code 14 = .ok (.lload_n 0, 1) := by decide +kernel
theorem d1_15 : decode prog_194_method_5_code 15 = .ok (.ldc2_w 167, 3) := by decide +kernel
theorem d1_18 : decode prog_194_method_5_code 18 = .ok (.lrem, 1) := by decide +kernel
theorem d1_19 : decode prog_194_method_5_code 19 = .ok (.lconst 0, 1) := by decide +kernel
theorem d1_20 : decode prog_194_method_5_code 20 = .ok (.lcmp, 1) := by decide +kernel
theorem d1_21 : decode prog_194_method_5_code 21 = .ok (.ifCond .ne 7, 3) := by decide +kernel
theorem d1_24 : decode prog_194_method_5_code 24 = .ok (.iconst 1, 1) := by decide +kernel
theorem d1_25 : decode prog_194_method_5_code 25 = .ok (.goto 4, 3) := by decide +kernel
theorem d1_28 : decode prog_194_method_5_code 28 = .ok (.iconst 0, 1) := by decide +kernel
theorem d1_29 : decode prog_194_method_5_code 29 = .ok (.ireturn, 1) := by decide +kernel
theorem pd_0 : parseMethodDescriptor "(J)Z" = some ⟨[.long], some .boolean⟩ := by decide +kernel
def own_exp (q : Int64) : Int32 := if lcmpW q 0 < 0 then 0 else if lcmpW (q &&& 65535) 0 = 0 then 1 else 0
def own_blk (q : Int64) : Int32 := if lcmpW q 0 < 0 then 0 else if (0 : Int32) < lcmpW q 9223372036854710272 then 0 else if lcmpW (q - (q / 65536) * 65536) 0 = 0 then 1 else 0
theorem own_blkb (q : Int64) : nar .boolean (own_blk q) = own_blk q := by
  unfold own_blk
  repeat' split
  all_goals rfl
theorem own_law (q : Int64) : own_blk q = own_exp q := by
  have hm : (q &&& 65535).toInt = q.toInt % 2 ^ 16 := Jvm.Kit.i64_mask q 65535 (k := 16) (by decide) (by decide)
  have hlt := q.toInt_lt
  have c1 : (65536 : Int64).toInt = 65536 := by decide
  have c2 : (9223372036854710272 : Int64).toInt = 9223372036854710272 := by decide
  have c0 : (0 : Int64).toInt = 0 := by decide
  unfold own_blk own_exp
  simp only [lw_lt, lw_gt, lw_eq]
  by_cases h0 : q < 0
  · simp [h0]
  · have h0' : 0 ≤ q.toInt := by rw [Int64.lt_iff_toInt_lt] at h0; omega
    have hr : (q - (q / 65536) * 65536).toInt = q.toInt % 65536 := by rw [Jvm.Kit.i64_rem_nonneg h0', c1]
    by_cases h1 : (9223372036854710272 : Int64) < q
    · have h2 : ¬ (q &&& 65535 = 0) := by
        rw [← Int64.toInt_inj]; rw [Int64.lt_iff_toInt_lt] at h1; omega
      simp [h0, h1, h2]
    · have h2 : (q - (q / 65536) * 65536 = 0) ↔ (q &&& 65535 = 0) := by
        rw [← Int64.toInt_inj, ← Int64.toInt_inj, hr, hm]; simp
      simp only [h0, h1, if_false, h2]
theorem ef_1 (m : MethodId) (q1 : Int64) : entryFrame m #[(.long q1)] 2 = (mkF m 0 #[.val (.long q1), .second] []) := by first | (simp [entryFrame, mkF, argsToLocals, Value.category]; done) | rfl
theorem pn_1 : plainName "com/example/tideline/tideline/partition/ProducerIds" = true := by first | (simp [plainName, overriddenIn]; done) | decide +kernel
theorem ef_0 (m : MethodId) (q0 : Int64) (p2 : Int32) (p3 : Int32) : entryFrame m #[(.long q0), (.int p2), (.int p3)] maxLocals = (mkF m 0 #[.val (.long q0), .second, .val (.int p2), .val (.int p3), .unset, .unset, .unset, .unset] []) := by first | (simp [entryFrame, mkF, argsToLocals, Value.category, maxLocals]; done) | rfl
theorem pn_0 : plainName "com/example/tideline/tideline/partition/ProducerIdsIsBlockStartPinLaw" = true := by first | (simp [plainName, overriddenIn]; done) | decide +kernel
def Q1 (Z : State) (q1 : Int64) (h0 : Heap) (n0 : Nat) (v : Option Value) (h : Heap) (L : List Loc) : Prop := v = some (.int (own_blk q1)) ∧ Fr n0 L ∧ h = h0
set_option maxRecDepth 65536 in
set_option maxHeartbeats 40000000 in
theorem rm1 (l : Launch) (Z : State) (a0 : Array Value) (hw : ∀ d ∈ tables_1, d.before a0 Z = true) (ws : List Jvm.Cond) (q1 : Int64) (h0 : Heap) (n0 : Nat) (Z0 : n0 ≤ h0.size) :
    MetFree l (⟨"com/example/tideline/tideline/partition/ProducerIds", "isBlockStart", "(J)Z"⟩ : MethodName) (head1 (Jvm.Cond.code (⟨"com/example/tideline/tideline/partition/ProducerIds", "isBlockStart", "(J)Z"⟩ : MethodName) prog_194_method_5_code 2 (some .boolean) :: ws) ({ frames := 0, cells := 0, slots := 0, locals := 0 } : Room)) (fun a U => a = #[(.long q1)] ∧ Z.Warmed39 U.vm ∧ U.heap = h0) (fun _ _ _ _ _ => True) (fun _ U o U' => ∃ v L, o = .returned v ∧ Q1 Z q1 h0 n0 v U'.heap L ∧ FrameEnd U o U' L ({ frames := 0, cells := 0, slots := 0, locals := 0 } : Room).cells ({ frames := 0, cells := 0, slots := 0, locals := 0 } : Room).slots) := by
  refine MetFree.of_bodySF (plainFor_of_name pn_1) hisR ?_
  intro p e s m args below meth c s₁ Bd hml0 hP hK
  obtain ⟨rfl, hZ, hh⟩ := hP
  have hx := Bd.exec
  have hby := Bd.bytes
  have hml : c.maxLocals = 2 := hml0
  have hown : s.vm.findClass "com/example/tideline/tideline/partition/ProducerIds" = some m.cls := findClass_of_methodNamed Bd.named
  have hnm := (name_of_methodNamed Bd.named Bd.method).1
  have X0 : Stand p l e ({ frames := 0, cells := 0, slots := 0, locals := 0 } : Room) s m #[(.long q1)] below meth c s₁ [] 0 0 := Stand.of_body Bd
  have e0 : s₁.heap = h0 := by rw [← hh, Bd.state]; rfl
  have N0 := Fr.nil n0
  have pre0 : ∀ t, Steps p.tables e below (s₁.setTop (mkF m 0 #[.val (.long q1), .second] [])) t → Steps p.tables e below (s₁.setTop (entryFrame m #[(.long q1)] 2)) t := fun t k => castTop (ef_1 m q1) k
  obtain ⟨b1, hm1, pre1⟩ : ∃ (b1 : Int32), (b1 = own_blk q1) ∧ ∀ t, Steps p.tables e below (s₁.setTop (mkF m 29 #[.val (.long q1), .second] [(.int b1)])) t → Steps p.tables e below (s₁.setTop (entryFrame m #[(.long q1)] 2)) t := by
    by_cases c3 : lcmpW q1 (0 : Int64) < 0
    · refine ⟨((0 : Int32)), (by unfold own_blk; rw [if_pos c3]), fun t k => pre0 t ?_⟩
      show Steps p.tables e below (s₁.setTop (mkF m 0 #[.val (.long q1), .second] [])) _
      refine XS.lloadN X0.here hx rfl (hb hby d1_0) rfl ?_
      show Steps p.tables e below (s₁.setTop (mkF m 1 #[.val (.long q1), .second] [(.long q1)])) _
      refine XS.lconst X0.here hx rfl (hb hby d1_1) ?_
      show Steps p.tables e below (s₁.setTop (mkF m 2 #[.val (.long q1), .second] [(.long (0 : Int64)), (.long q1)])) _
      refine XS.lcmp X0.here hx rfl (hb hby d1_2) rfl ?_
      show Steps p.tables e below (s₁.setTop (mkF m 3 #[.val (.long q1), .second] [(.int (lcmpW q1 (0 : Int64)))])) _
      refine XS.ifYes X0.here hx rfl (pc0 := 3) (pc' := 28) rfl (hb hby d1_3) rfl ((if0 _ _).trans (tlt c3).1) (by decide) (by decide) ?_
      show Steps p.tables e below (s₁.setTop (mkF m 28 #[.val (.long q1), .second] [])) _
      refine XS.iconst X0.here hx rfl (hb hby d1_28) ?_
      exact k
    by_cases c11 : (0 : Int32) < lcmpW q1 (9223372036854710272 : Int64)
    · refine ⟨((0 : Int32)), (by unfold own_blk; rw [if_neg c3, if_pos c11]), fun t k => pre0 t ?_⟩
      show Steps p.tables e below (s₁.setTop (mkF m 0 #[.val (.long q1), .second] [])) _
      refine XS.lloadN X0.here hx rfl (hb hby d1_0) rfl ?_
      show Steps p.tables e below (s₁.setTop (mkF m 1 #[.val (.long q1), .second] [(.long q1)])) _
      refine XS.lconst X0.here hx rfl (hb hby d1_1) ?_
      show Steps p.tables e below (s₁.setTop (mkF m 2 #[.val (.long q1), .second] [(.long (0 : Int64)), (.long q1)])) _
      refine XS.lcmp X0.here hx rfl (hb hby d1_2) rfl ?_
      show Steps p.tables e below (s₁.setTop (mkF m 3 #[.val (.long q1), .second] [(.int (lcmpW q1 (0 : Int64)))])) _
      refine XS.ifNo X0.here hx rfl (hb hby d1_3) rfl ((if0 _ _).trans (flt c3).1) ?_
      show Steps p.tables e below (s₁.setTop (mkF m 6 #[.val (.long q1), .second] [])) _
      refine XS.lloadN X0.here hx rfl (hb hby d1_6) rfl ?_
      show Steps p.tables e below (s₁.setTop (mkF m 7 #[.val (.long q1), .second] [(.long q1)])) _
      refine X0.ldc2Long hx hown (mvT hZ (hw _ (List.mem_of_getElem? (i := 5) rfl))) (g := (mkF m 7 #[.val (.long q1), .second] [(.long q1)])) rfl (hb hby d1_7) _ ?_
      show Steps p.tables e below (s₁.setTop (mkF m 10 #[.val (.long q1), .second] [(.long (9223372036854710272 : Int64)), (.long q1)])) _
      refine XS.lcmp X0.here hx rfl (hb hby d1_10) rfl ?_
      show Steps p.tables e below (s₁.setTop (mkF m 11 #[.val (.long q1), .second] [(.int (lcmpW q1 (9223372036854710272 : Int64)))])) _
      refine XS.ifYes X0.here hx rfl (pc0 := 11) (pc' := 28) rfl (hb hby d1_11) rfl ((if0 _ _).trans (tlt c11).2.2.1) (by decide) (by decide) ?_
      show Steps p.tables e below (s₁.setTop (mkF m 28 #[.val (.long q1), .second] [])) _
      refine XS.iconst X0.here hx rfl (hb hby d1_28) ?_
      exact k
    by_cases c21 : lcmpW (q1 - (q1 / (65536 : Int64)) * (65536 : Int64)) (0 : Int64) = 0
    · refine ⟨((1 : Int32)), (by unfold own_blk; rw [if_neg c3, if_neg c11, if_pos c21]), fun t k => pre0 t ?_⟩
      show Steps p.tables e below (s₁.setTop (mkF m 0 #[.val (.long q1), .second] [])) _
      refine XS.lloadN X0.here hx rfl (hb hby d1_0) rfl ?_
      show Steps p.tables e below (s₁.setTop (mkF m 1 #[.val (.long q1), .second] [(.long q1)])) _
      refine XS.lconst X0.here hx rfl (hb hby d1_1) ?_
      show Steps p.tables e below (s₁.setTop (mkF m 2 #[.val (.long q1), .second] [(.long (0 : Int64)), (.long q1)])) _
      refine XS.lcmp X0.here hx rfl (hb hby d1_2) rfl ?_
      show Steps p.tables e below (s₁.setTop (mkF m 3 #[.val (.long q1), .second] [(.int (lcmpW q1 (0 : Int64)))])) _
      refine XS.ifNo X0.here hx rfl (hb hby d1_3) rfl ((if0 _ _).trans (flt c3).1) ?_
      show Steps p.tables e below (s₁.setTop (mkF m 6 #[.val (.long q1), .second] [])) _
      refine XS.lloadN X0.here hx rfl (hb hby d1_6) rfl ?_
      show Steps p.tables e below (s₁.setTop (mkF m 7 #[.val (.long q1), .second] [(.long q1)])) _
      refine X0.ldc2Long hx hown (mvT hZ (hw _ (List.mem_of_getElem? (i := 5) rfl))) (g := (mkF m 7 #[.val (.long q1), .second] [(.long q1)])) rfl (hb hby d1_7) _ ?_
      show Steps p.tables e below (s₁.setTop (mkF m 10 #[.val (.long q1), .second] [(.long (9223372036854710272 : Int64)), (.long q1)])) _
      refine XS.lcmp X0.here hx rfl (hb hby d1_10) rfl ?_
      show Steps p.tables e below (s₁.setTop (mkF m 11 #[.val (.long q1), .second] [(.int (lcmpW q1 (9223372036854710272 : Int64)))])) _
      refine XS.ifNo X0.here hx rfl (hb hby d1_11) rfl ((if0 _ _).trans (flt c11).2.2.1) ?_
      show Steps p.tables e below (s₁.setTop (mkF m 14 #[.val (.long q1), .second] [])) _
      refine XS.lloadN X0.here hx rfl (hb hby d1_14) rfl ?_
      show Steps p.tables e below (s₁.setTop (mkF m 15 #[.val (.long q1), .second] [(.long q1)])) _
      refine X0.ldc2Long hx hown (mvT hZ (hw _ (List.mem_of_getElem? (i := 6) rfl))) (g := (mkF m 15 #[.val (.long q1), .second] [(.long q1)])) rfl (hb hby d1_15) _ ?_
      show Steps p.tables e below (s₁.setTop (mkF m 18 #[.val (.long q1), .second] [(.long (65536 : Int64)), (.long q1)])) _
      refine XS.lrem X0.here hx rfl (hb hby d1_18) rfl (by decide) ?_
      show Steps p.tables e below (s₁.setTop (mkF m 19 #[.val (.long q1), .second] [(.long (q1 - (q1 / (65536 : Int64)) * (65536 : Int64)))])) _
      refine XS.lconst X0.here hx rfl (hb hby d1_19) ?_
      show Steps p.tables e below (s₁.setTop (mkF m 20 #[.val (.long q1), .second] [(.long (0 : Int64)), (.long (q1 - (q1 / (65536 : Int64)) * (65536 : Int64)))])) _
      refine XS.lcmp X0.here hx rfl (hb hby d1_20) rfl ?_
      show Steps p.tables e below (s₁.setTop (mkF m 21 #[.val (.long q1), .second] [(.int (lcmpW (q1 - (q1 / (65536 : Int64)) * (65536 : Int64)) (0 : Int64)))])) _
      refine XS.ifNo X0.here hx rfl (hb hby d1_21) rfl ((if0 _ _).trans (teq c21).2) ?_
      show Steps p.tables e below (s₁.setTop (mkF m 24 #[.val (.long q1), .second] [])) _
      refine XS.iconst X0.here hx rfl (hb hby d1_24) ?_
      show Steps p.tables e below (s₁.setTop (mkF m 25 #[.val (.long q1), .second] [(.int (1 : Int32))])) _
      refine XS.goto X0.here hx rfl (pc0 := 25) (pc' := 29) rfl (hb hby d1_25) (by decide) (by decide) ?_
      exact k
    · refine ⟨((0 : Int32)), (by unfold own_blk; rw [if_neg c3, if_neg c11, if_neg c21]), fun t k => pre0 t ?_⟩
      show Steps p.tables e below (s₁.setTop (mkF m 0 #[.val (.long q1), .second] [])) _
      refine XS.lloadN X0.here hx rfl (hb hby d1_0) rfl ?_
      show Steps p.tables e below (s₁.setTop (mkF m 1 #[.val (.long q1), .second] [(.long q1)])) _
      refine XS.lconst X0.here hx rfl (hb hby d1_1) ?_
      show Steps p.tables e below (s₁.setTop (mkF m 2 #[.val (.long q1), .second] [(.long (0 : Int64)), (.long q1)])) _
      refine XS.lcmp X0.here hx rfl (hb hby d1_2) rfl ?_
      show Steps p.tables e below (s₁.setTop (mkF m 3 #[.val (.long q1), .second] [(.int (lcmpW q1 (0 : Int64)))])) _
      refine XS.ifNo X0.here hx rfl (hb hby d1_3) rfl ((if0 _ _).trans (flt c3).1) ?_
      show Steps p.tables e below (s₁.setTop (mkF m 6 #[.val (.long q1), .second] [])) _
      refine XS.lloadN X0.here hx rfl (hb hby d1_6) rfl ?_
      show Steps p.tables e below (s₁.setTop (mkF m 7 #[.val (.long q1), .second] [(.long q1)])) _
      refine X0.ldc2Long hx hown (mvT hZ (hw _ (List.mem_of_getElem? (i := 5) rfl))) (g := (mkF m 7 #[.val (.long q1), .second] [(.long q1)])) rfl (hb hby d1_7) _ ?_
      show Steps p.tables e below (s₁.setTop (mkF m 10 #[.val (.long q1), .second] [(.long (9223372036854710272 : Int64)), (.long q1)])) _
      refine XS.lcmp X0.here hx rfl (hb hby d1_10) rfl ?_
      show Steps p.tables e below (s₁.setTop (mkF m 11 #[.val (.long q1), .second] [(.int (lcmpW q1 (9223372036854710272 : Int64)))])) _
      refine XS.ifNo X0.here hx rfl (hb hby d1_11) rfl ((if0 _ _).trans (flt c11).2.2.1) ?_
      show Steps p.tables e below (s₁.setTop (mkF m 14 #[.val (.long q1), .second] [])) _
      refine XS.lloadN X0.here hx rfl (hb hby d1_14) rfl ?_
      show Steps p.tables e below (s₁.setTop (mkF m 15 #[.val (.long q1), .second] [(.long q1)])) _
      refine X0.ldc2Long hx hown (mvT hZ (hw _ (List.mem_of_getElem? (i := 6) rfl))) (g := (mkF m 15 #[.val (.long q1), .second] [(.long q1)])) rfl (hb hby d1_15) _ ?_
      show Steps p.tables e below (s₁.setTop (mkF m 18 #[.val (.long q1), .second] [(.long (65536 : Int64)), (.long q1)])) _
      refine XS.lrem X0.here hx rfl (hb hby d1_18) rfl (by decide) ?_
      show Steps p.tables e below (s₁.setTop (mkF m 19 #[.val (.long q1), .second] [(.long (q1 - (q1 / (65536 : Int64)) * (65536 : Int64)))])) _
      refine XS.lconst X0.here hx rfl (hb hby d1_19) ?_
      show Steps p.tables e below (s₁.setTop (mkF m 20 #[.val (.long q1), .second] [(.long (0 : Int64)), (.long (q1 - (q1 / (65536 : Int64)) * (65536 : Int64)))])) _
      refine XS.lcmp X0.here hx rfl (hb hby d1_20) rfl ?_
      show Steps p.tables e below (s₁.setTop (mkF m 21 #[.val (.long q1), .second] [(.int (lcmpW (q1 - (q1 / (65536 : Int64)) * (65536 : Int64)) (0 : Int64)))])) _
      refine XS.ifYes X0.here hx rfl (pc0 := 21) (pc' := 28) rfl (hb hby d1_21) rfl ((if0 _ _).trans (feq c21).2) (by decide) (by decide) ?_
      show Steps p.tables e below (s₁.setTop (mkF m 28 #[.val (.long q1), .second] [])) _
      refine XS.iconst X0.here hx rfl (hb hby d1_28) ?_
      exact k
  subst hm1
  obtain ⟨fs, hr, hrun, hended, hW, hsame⟩ := X0.leave (v := some (.int (nar .boolean (own_blk q1)))) (fun h => by rw [Bd.returns] at h; cases h)
  refine ⟨_, _, pre1 _ ?_, hrun, hended, _, _, rfl, ?_, ⟨_, rfl⟩, hW, hsame.mono (by decide) (by decide)⟩
  · show Steps p.tables e below (s₁.setTop (mkF m 29 #[.val (.long q1), .second] [(.int (own_blk q1))])) _
    exact retN X0 hx (t := .boolean) Bd.returns (by simp) (hb hby d1_29) hr
  · show Q1 Z q1 h0 n0 _ s₁.heap _
    rw [e0]
    exact ⟨congrArg (fun z => some (Value.int z)) (own_blkb q1), N0, rfl⟩
def Q0 (Z : State) (q0 : Int64) (p2 p3 : Int32) (h0 : Heap) (n0 : Nat) (v : Option Value) (h : Heap) (L : List Loc) : Prop := v = some (.int 1) ∧ Fr n0 L
set_option maxRecDepth 65536 in
set_option maxHeartbeats 40000000 in
theorem rm0 (l : Launch) (Z : State) (a0 : Array Value) (hw : ∀ d ∈ tables_1, d.before a0 Z = true) (ws : List Jvm.Cond) (q0 : Int64) (p2 p3 : Int32) (h0 : Heap) (n0 : Nat) (Z0 : n0 ≤ h0.size) :
    MetFree l x (head1 (Jvm.Cond.code x code maxLocals ret :: ws) room_1) (fun a U => a = #[(.long q0), (.int p2), (.int p3)] ∧ Z.Warmed39 U.vm ∧ U.heap = h0) (fun _ _ _ _ _ => True) (fun _ U o U' => ∃ v L, o = .returned v ∧ Q0 Z q0 p2 p3 h0 n0 v U'.heap L ∧ FrameEnd U o U' L room_1.cells room_1.slots) := by
  refine MetFree.of_bodySF (plainFor_of_name pn_0) hisR ?_
  intro p e s m args below meth c s₁ Bd hml0 hP hK
  obtain ⟨rfl, hZ, hh⟩ := hP
  have hx := Bd.exec
  have hby := Bd.bytes
  have hml : c.maxLocals = 8 := hml0
  have hown : s.vm.findClass "com/example/tideline/tideline/partition/ProducerIdsIsBlockStartPinLaw" = some m.cls := findClass_of_methodNamed Bd.named
  have hnm := (name_of_methodNamed Bd.named Bd.method).1
  have X0 : Stand p l e room_1 s m #[(.long q0), (.int p2), (.int p3)] below meth c s₁ [] 0 0 := Stand.of_body Bd
  have e0 : s₁.heap = h0 := by rw [← hh, Bd.state]; rfl
  have N0 := Fr.nil n0
  have pre0 : ∀ t, Steps p.tables e below (s₁.setTop (mkF m 0 #[.val (.long q0), .second, .val (.int p2), .val (.int p3), .unset, .unset, .unset, .unset] [])) t → Steps p.tables e below (s₁.setTop (entryFrame m #[(.long q0), (.int p2), (.int p3)] maxLocals)) t := fun t k => castTop (ef_0 m q0 p2 p3) k
  have pre1 : ∀ t, Steps p.tables e below (s₁.setTop (mkF m 5 #[.val (.long q0), .second, .val (.int p2), .val (.int p3), .unset, .unset, .val (.int (p3 &&& (3 : Int32))), .unset] [])) t → Steps p.tables e below (s₁.setTop (entryFrame m #[(.long q0), (.int p2), (.int p3)] maxLocals)) t := by
    intro t k
    refine pre0 t ?_
    show Steps p.tables e below (s₁.setTop (mkF m 0 #[.val (.long q0), .second, .val (.int p2), .val (.int p3), .unset, .unset, .unset, .unset] [])) _
    refine XS.iloadN X0.here hx rfl (hb hby at_0) rfl ?_
    show Steps p.tables e below (s₁.setTop (mkF m 1 #[.val (.long q0), .second, .val (.int p2), .val (.int p3), .unset, .unset, .unset, .unset] [(.int p3)])) _
    refine XS.iconst X0.here hx rfl (hb hby at_1) ?_
    show Steps p.tables e below (s₁.setTop (mkF m 2 #[.val (.long q0), .second, .val (.int p2), .val (.int p3), .unset, .unset, .unset, .unset] [(.int (3 : Int32)), (.int p3)])) _
    refine XS.iand X0.here hx rfl (hb hby at_2) rfl ?_
    show Steps p.tables e below (s₁.setTop (mkF m 3 #[.val (.long q0), .second, .val (.int p2), .val (.int p3), .unset, .unset, .unset, .unset] [(.int (p3 &&& (3 : Int32)))])) _
    refine XS.istore X0.here hx rfl (hb hby at_3) rfl (l' := #[.val (.long q0), .second, .val (.int p2), .val (.int p3), .unset, .unset, .val (.int (p3 &&& (3 : Int32))), .unset]) rfl ?_
    exact k
  obtain ⟨id, pre2⟩ : ∃ (id : Int64), ∀ t, Steps p.tables e below (s₁.setTop (mkF m 60 #[.val (.long q0), .second, .val (.int p2), .val (.int p3), .val (.long id), .second, .val (.int (p3 &&& (3 : Int32))), .unset] [])) t → Steps p.tables e below (s₁.setTop (entryFrame m #[(.long q0), (.int p2), (.int p3)] maxLocals)) t := by
    by_cases c7 : (p3 &&& (3 : Int32)) = 0
    · refine ⟨(q0), fun t k => pre1 t ?_⟩
      show Steps p.tables e below (s₁.setTop (mkF m 5 #[.val (.long q0), .second, .val (.int p2), .val (.int p3), .unset, .unset, .val (.int (p3 &&& (3 : Int32))), .unset] [])) _
      refine XS.iload X0.here hx rfl (hb hby at_5) rfl ?_
      show Steps p.tables e below (s₁.setTop (mkF m 7 #[.val (.long q0), .second, .val (.int p2), .val (.int p3), .unset, .unset, .val (.int (p3 &&& (3 : Int32))), .unset] [(.int (p3 &&& (3 : Int32)))])) _
      refine XS.ifNo X0.here hx rfl (hb hby at_7) rfl ((if0 _ _).trans (teq c7).2) ?_
      show Steps p.tables e below (s₁.setTop (mkF m 10 #[.val (.long q0), .second, .val (.int p2), .val (.int p3), .unset, .unset, .val (.int (p3 &&& (3 : Int32))), .unset] [])) _
      refine XS.lloadN X0.here hx rfl (hb hby at_10) rfl ?_
      show Steps p.tables e below (s₁.setTop (mkF m 11 #[.val (.long q0), .second, .val (.int p2), .val (.int p3), .unset, .unset, .val (.int (p3 &&& (3 : Int32))), .unset] [(.long q0)])) _
      refine XS.lstore X0.here hx rfl (hb hby at_11) rfl (l' := #[.val (.long q0), .second, .val (.int p2), .val (.int p3), .val (.long q0), .second, .val (.int (p3 &&& (3 : Int32))), .unset]) rfl ?_
      show Steps p.tables e below (s₁.setTop (mkF m 13 #[.val (.long q0), .second, .val (.int p2), .val (.int p3), .val (.long q0), .second, .val (.int (p3 &&& (3 : Int32))), .unset] [])) _
      refine XS.goto X0.here hx rfl (pc0 := 13) (pc' := 60) rfl (hb hby at_13) (by decide) (by decide) ?_
      exact k
    by_cases c19 : (p3 &&& (3 : Int32)) = 1
    · refine ⟨((q0 <<< ((16 : Int32) &&& 0x3f).toInt64)), fun t k => pre1 t ?_⟩
      show Steps p.tables e below (s₁.setTop (mkF m 5 #[.val (.long q0), .second, .val (.int p2), .val (.int p3), .unset, .unset, .val (.int (p3 &&& (3 : Int32))), .unset] [])) _
      refine XS.iload X0.here hx rfl (hb hby at_5) rfl ?_
      show Steps p.tables e below (s₁.setTop (mkF m 7 #[.val (.long q0), .second, .val (.int p2), .val (.int p3), .unset, .unset, .val (.int (p3 &&& (3 : Int32))), .unset] [(.int (p3 &&& (3 : Int32)))])) _
      refine XS.ifYes X0.here hx rfl (pc0 := 7) (pc' := 16) rfl (hb hby at_7) rfl ((if0 _ _).trans (feq c7).2) (by decide) (by decide) ?_
      show Steps p.tables e below (s₁.setTop (mkF m 16 #[.val (.long q0), .second, .val (.int p2), .val (.int p3), .unset, .unset, .val (.int (p3 &&& (3 : Int32))), .unset] [])) _
      refine XS.iload X0.here hx rfl (hb hby at_16) rfl ?_
      show Steps p.tables e below (s₁.setTop (mkF m 18 #[.val (.long q0), .second, .val (.int p2), .val (.int p3), .unset, .unset, .val (.int (p3 &&& (3 : Int32))), .unset] [(.int (p3 &&& (3 : Int32)))])) _
      refine XS.iconst X0.here hx rfl (hb hby at_18) ?_
      show Steps p.tables e below (s₁.setTop (mkF m 19 #[.val (.long q0), .second, .val (.int p2), .val (.int p3), .unset, .unset, .val (.int (p3 &&& (3 : Int32))), .unset] [(.int (1 : Int32)), (.int (p3 &&& (3 : Int32)))])) _
      refine XS.icmpNo X0.here hx rfl (hb hby at_19) rfl (teq c19).2 ?_
      show Steps p.tables e below (s₁.setTop (mkF m 22 #[.val (.long q0), .second, .val (.int p2), .val (.int p3), .unset, .unset, .val (.int (p3 &&& (3 : Int32))), .unset] [])) _
      refine XS.lloadN X0.here hx rfl (hb hby at_22) rfl ?_
      show Steps p.tables e below (s₁.setTop (mkF m 23 #[.val (.long q0), .second, .val (.int p2), .val (.int p3), .unset, .unset, .val (.int (p3 &&& (3 : Int32))), .unset] [(.long q0)])) _
      refine XS.bipush X0.here hx rfl (hb hby at_23) ?_
      show Steps p.tables e below (s₁.setTop (mkF m 25 #[.val (.long q0), .second, .val (.int p2), .val (.int p3), .unset, .unset, .val (.int (p3 &&& (3 : Int32))), .unset] [(.int (16 : Int32)), (.long q0)])) _
      refine XS.lshl X0.here hx rfl (hb hby at_25) rfl ?_
      show Steps p.tables e below (s₁.setTop (mkF m 26 #[.val (.long q0), .second, .val (.int p2), .val (.int p3), .unset, .unset, .val (.int (p3 &&& (3 : Int32))), .unset] [(.long (q0 <<< ((16 : Int32) &&& 0x3f).toInt64))])) _
      refine XS.lstore X0.here hx rfl (hb hby at_26) rfl (l' := #[.val (.long q0), .second, .val (.int p2), .val (.int p3), .val (.long (q0 <<< ((16 : Int32) &&& 0x3f).toInt64)), .second, .val (.int (p3 &&& (3 : Int32))), .unset]) rfl ?_
      show Steps p.tables e below (s₁.setTop (mkF m 28 #[.val (.long q0), .second, .val (.int p2), .val (.int p3), .val (.long (q0 <<< ((16 : Int32) &&& 0x3f).toInt64)), .second, .val (.int (p3 &&& (3 : Int32))), .unset] [])) _
      refine XS.goto X0.here hx rfl (pc0 := 28) (pc' := 60) rfl (hb hby at_28) (by decide) (by decide) ?_
      exact k
    by_cases c34 : (p3 &&& (3 : Int32)) = 2
    · refine ⟨(((q0 <<< ((16 : Int32) &&& 0x3f).toInt64) + (p2.toInt64))), fun t k => pre1 t ?_⟩
      show Steps p.tables e below (s₁.setTop (mkF m 5 #[.val (.long q0), .second, .val (.int p2), .val (.int p3), .unset, .unset, .val (.int (p3 &&& (3 : Int32))), .unset] [])) _
      refine XS.iload X0.here hx rfl (hb hby at_5) rfl ?_
      show Steps p.tables e below (s₁.setTop (mkF m 7 #[.val (.long q0), .second, .val (.int p2), .val (.int p3), .unset, .unset, .val (.int (p3 &&& (3 : Int32))), .unset] [(.int (p3 &&& (3 : Int32)))])) _
      refine XS.ifYes X0.here hx rfl (pc0 := 7) (pc' := 16) rfl (hb hby at_7) rfl ((if0 _ _).trans (feq c7).2) (by decide) (by decide) ?_
      show Steps p.tables e below (s₁.setTop (mkF m 16 #[.val (.long q0), .second, .val (.int p2), .val (.int p3), .unset, .unset, .val (.int (p3 &&& (3 : Int32))), .unset] [])) _
      refine XS.iload X0.here hx rfl (hb hby at_16) rfl ?_
      show Steps p.tables e below (s₁.setTop (mkF m 18 #[.val (.long q0), .second, .val (.int p2), .val (.int p3), .unset, .unset, .val (.int (p3 &&& (3 : Int32))), .unset] [(.int (p3 &&& (3 : Int32)))])) _
      refine XS.iconst X0.here hx rfl (hb hby at_18) ?_
      show Steps p.tables e below (s₁.setTop (mkF m 19 #[.val (.long q0), .second, .val (.int p2), .val (.int p3), .unset, .unset, .val (.int (p3 &&& (3 : Int32))), .unset] [(.int (1 : Int32)), (.int (p3 &&& (3 : Int32)))])) _
      refine XS.icmpYes X0.here hx rfl (pc0 := 19) (pc' := 31) rfl (hb hby at_19) rfl (feq c19).2 (by decide) (by decide) ?_
      show Steps p.tables e below (s₁.setTop (mkF m 31 #[.val (.long q0), .second, .val (.int p2), .val (.int p3), .unset, .unset, .val (.int (p3 &&& (3 : Int32))), .unset] [])) _
      refine XS.iload X0.here hx rfl (hb hby at_31) rfl ?_
      show Steps p.tables e below (s₁.setTop (mkF m 33 #[.val (.long q0), .second, .val (.int p2), .val (.int p3), .unset, .unset, .val (.int (p3 &&& (3 : Int32))), .unset] [(.int (p3 &&& (3 : Int32)))])) _
      refine XS.iconst X0.here hx rfl (hb hby at_33) ?_
      show Steps p.tables e below (s₁.setTop (mkF m 34 #[.val (.long q0), .second, .val (.int p2), .val (.int p3), .unset, .unset, .val (.int (p3 &&& (3 : Int32))), .unset] [(.int (2 : Int32)), (.int (p3 &&& (3 : Int32)))])) _
      refine XS.icmpNo X0.here hx rfl (hb hby at_34) rfl (teq c34).2 ?_
      show Steps p.tables e below (s₁.setTop (mkF m 37 #[.val (.long q0), .second, .val (.int p2), .val (.int p3), .unset, .unset, .val (.int (p3 &&& (3 : Int32))), .unset] [])) _
      refine XS.lloadN X0.here hx rfl (hb hby at_37) rfl ?_
      show Steps p.tables e below (s₁.setTop (mkF m 38 #[.val (.long q0), .second, .val (.int p2), .val (.int p3), .unset, .unset, .val (.int (p3 &&& (3 : Int32))), .unset] [(.long q0)])) _
      refine XS.bipush X0.here hx rfl (hb hby at_38) ?_
      show Steps p.tables e below (s₁.setTop (mkF m 40 #[.val (.long q0), .second, .val (.int p2), .val (.int p3), .unset, .unset, .val (.int (p3 &&& (3 : Int32))), .unset] [(.int (16 : Int32)), (.long q0)])) _
      refine XS.lshl X0.here hx rfl (hb hby at_40) rfl ?_
      show Steps p.tables e below (s₁.setTop (mkF m 41 #[.val (.long q0), .second, .val (.int p2), .val (.int p3), .unset, .unset, .val (.int (p3 &&& (3 : Int32))), .unset] [(.long (q0 <<< ((16 : Int32) &&& 0x3f).toInt64))])) _
      refine XS.iloadN X0.here hx rfl (hb hby at_41) rfl ?_
      show Steps p.tables e below (s₁.setTop (mkF m 42 #[.val (.long q0), .second, .val (.int p2), .val (.int p3), .unset, .unset, .val (.int (p3 &&& (3 : Int32))), .unset] [(.int p2), (.long (q0 <<< ((16 : Int32) &&& 0x3f).toInt64))])) _
      refine XS.i2l X0.here hx rfl (hb hby at_42) rfl ?_
      show Steps p.tables e below (s₁.setTop (mkF m 43 #[.val (.long q0), .second, .val (.int p2), .val (.int p3), .unset, .unset, .val (.int (p3 &&& (3 : Int32))), .unset] [(.long (p2.toInt64)), (.long (q0 <<< ((16 : Int32) &&& 0x3f).toInt64))])) _
      refine XS.ladd X0.here hx rfl (hb hby at_43) rfl ?_
      show Steps p.tables e below (s₁.setTop (mkF m 44 #[.val (.long q0), .second, .val (.int p2), .val (.int p3), .unset, .unset, .val (.int (p3 &&& (3 : Int32))), .unset] [(.long ((q0 <<< ((16 : Int32) &&& 0x3f).toInt64) + (p2.toInt64)))])) _
      refine XS.lstore X0.here hx rfl (hb hby at_44) rfl (l' := #[.val (.long q0), .second, .val (.int p2), .val (.int p3), .val (.long ((q0 <<< ((16 : Int32) &&& 0x3f).toInt64) + (p2.toInt64))), .second, .val (.int (p3 &&& (3 : Int32))), .unset]) rfl ?_
      show Steps p.tables e below (s₁.setTop (mkF m 46 #[.val (.long q0), .second, .val (.int p2), .val (.int p3), .val (.long ((q0 <<< ((16 : Int32) &&& 0x3f).toInt64) + (p2.toInt64))), .second, .val (.int (p3 &&& (3 : Int32))), .unset] [])) _
      refine XS.goto X0.here hx rfl (pc0 := 46) (pc' := 60) rfl (hb hby at_46) (by decide) (by decide) ?_
      exact k
    · refine ⟨(((9223372036854775807 : Int64) - ((p2 &&& (262143 : Int32)).toInt64))), fun t k => pre1 t ?_⟩
      show Steps p.tables e below (s₁.setTop (mkF m 5 #[.val (.long q0), .second, .val (.int p2), .val (.int p3), .unset, .unset, .val (.int (p3 &&& (3 : Int32))), .unset] [])) _
      refine XS.iload X0.here hx rfl (hb hby at_5) rfl ?_
      show Steps p.tables e below (s₁.setTop (mkF m 7 #[.val (.long q0), .second, .val (.int p2), .val (.int p3), .unset, .unset, .val (.int (p3 &&& (3 : Int32))), .unset] [(.int (p3 &&& (3 : Int32)))])) _
      refine XS.ifYes X0.here hx rfl (pc0 := 7) (pc' := 16) rfl (hb hby at_7) rfl ((if0 _ _).trans (feq c7).2) (by decide) (by decide) ?_
      show Steps p.tables e below (s₁.setTop (mkF m 16 #[.val (.long q0), .second, .val (.int p2), .val (.int p3), .unset, .unset, .val (.int (p3 &&& (3 : Int32))), .unset] [])) _
      refine XS.iload X0.here hx rfl (hb hby at_16) rfl ?_
      show Steps p.tables e below (s₁.setTop (mkF m 18 #[.val (.long q0), .second, .val (.int p2), .val (.int p3), .unset, .unset, .val (.int (p3 &&& (3 : Int32))), .unset] [(.int (p3 &&& (3 : Int32)))])) _
      refine XS.iconst X0.here hx rfl (hb hby at_18) ?_
      show Steps p.tables e below (s₁.setTop (mkF m 19 #[.val (.long q0), .second, .val (.int p2), .val (.int p3), .unset, .unset, .val (.int (p3 &&& (3 : Int32))), .unset] [(.int (1 : Int32)), (.int (p3 &&& (3 : Int32)))])) _
      refine XS.icmpYes X0.here hx rfl (pc0 := 19) (pc' := 31) rfl (hb hby at_19) rfl (feq c19).2 (by decide) (by decide) ?_
      show Steps p.tables e below (s₁.setTop (mkF m 31 #[.val (.long q0), .second, .val (.int p2), .val (.int p3), .unset, .unset, .val (.int (p3 &&& (3 : Int32))), .unset] [])) _
      refine XS.iload X0.here hx rfl (hb hby at_31) rfl ?_
      show Steps p.tables e below (s₁.setTop (mkF m 33 #[.val (.long q0), .second, .val (.int p2), .val (.int p3), .unset, .unset, .val (.int (p3 &&& (3 : Int32))), .unset] [(.int (p3 &&& (3 : Int32)))])) _
      refine XS.iconst X0.here hx rfl (hb hby at_33) ?_
      show Steps p.tables e below (s₁.setTop (mkF m 34 #[.val (.long q0), .second, .val (.int p2), .val (.int p3), .unset, .unset, .val (.int (p3 &&& (3 : Int32))), .unset] [(.int (2 : Int32)), (.int (p3 &&& (3 : Int32)))])) _
      refine XS.icmpYes X0.here hx rfl (pc0 := 34) (pc' := 49) rfl (hb hby at_34) rfl (feq c34).2 (by decide) (by decide) ?_
      show Steps p.tables e below (s₁.setTop (mkF m 49 #[.val (.long q0), .second, .val (.int p2), .val (.int p3), .unset, .unset, .val (.int (p3 &&& (3 : Int32))), .unset] [])) _
      refine X0.ldc2Long hx hown (mvT hZ (hw _ (List.mem_of_getElem? (i := 7) rfl))) (g := (mkF m 49 #[.val (.long q0), .second, .val (.int p2), .val (.int p3), .unset, .unset, .val (.int (p3 &&& (3 : Int32))), .unset] [])) rfl (hb hby at_49) _ ?_
      show Steps p.tables e below (s₁.setTop (mkF m 52 #[.val (.long q0), .second, .val (.int p2), .val (.int p3), .unset, .unset, .val (.int (p3 &&& (3 : Int32))), .unset] [(.long (9223372036854775807 : Int64))])) _
      refine XS.iloadN X0.here hx rfl (hb hby at_52) rfl ?_
      show Steps p.tables e below (s₁.setTop (mkF m 53 #[.val (.long q0), .second, .val (.int p2), .val (.int p3), .unset, .unset, .val (.int (p3 &&& (3 : Int32))), .unset] [(.int p2), (.long (9223372036854775807 : Int64))])) _
      refine X0.ldcInt hx hown (mvT hZ (hw _ (List.mem_of_getElem? (i := 8) rfl))) (g := (mkF m 53 #[.val (.long q0), .second, .val (.int p2), .val (.int p3), .unset, .unset, .val (.int (p3 &&& (3 : Int32))), .unset] [(.int p2), (.long (9223372036854775807 : Int64))])) rfl (hb hby at_53) _ ?_
      show Steps p.tables e below (s₁.setTop (mkF m 55 #[.val (.long q0), .second, .val (.int p2), .val (.int p3), .unset, .unset, .val (.int (p3 &&& (3 : Int32))), .unset] [(.int (262143 : Int32)), (.int p2), (.long (9223372036854775807 : Int64))])) _
      refine XS.iand X0.here hx rfl (hb hby at_55) rfl ?_
      show Steps p.tables e below (s₁.setTop (mkF m 56 #[.val (.long q0), .second, .val (.int p2), .val (.int p3), .unset, .unset, .val (.int (p3 &&& (3 : Int32))), .unset] [(.int (p2 &&& (262143 : Int32))), (.long (9223372036854775807 : Int64))])) _
      refine XS.i2l X0.here hx rfl (hb hby at_56) rfl ?_
      show Steps p.tables e below (s₁.setTop (mkF m 57 #[.val (.long q0), .second, .val (.int p2), .val (.int p3), .unset, .unset, .val (.int (p3 &&& (3 : Int32))), .unset] [(.long ((p2 &&& (262143 : Int32)).toInt64)), (.long (9223372036854775807 : Int64))])) _
      refine XS.lsub X0.here hx rfl (hb hby at_57) rfl ?_
      show Steps p.tables e below (s₁.setTop (mkF m 58 #[.val (.long q0), .second, .val (.int p2), .val (.int p3), .unset, .unset, .val (.int (p3 &&& (3 : Int32))), .unset] [(.long ((9223372036854775807 : Int64) - ((p2 &&& (262143 : Int32)).toInt64)))])) _
      refine XS.lstore X0.here hx rfl (hb hby at_58) rfl (l' := #[.val (.long q0), .second, .val (.int p2), .val (.int p3), .val (.long ((9223372036854775807 : Int64) - ((p2 &&& (262143 : Int32)).toInt64))), .second, .val (.int (p3 &&& (3 : Int32))), .unset]) rfl ?_
      exact k
  obtain ⟨b7, hm3, pre3⟩ : ∃ (b7 : Int32), (b7 = own_exp id) ∧ ∀ t, Steps p.tables e below (s₁.setTop (mkF m 83 #[.val (.long q0), .second, .val (.int p2), .val (.int p3), .val (.long id), .second, .val (.int (p3 &&& (3 : Int32))), .unset] [(.int b7)])) t → Steps p.tables e below (s₁.setTop (entryFrame m #[(.long q0), (.int p2), (.int p3)] maxLocals)) t := by
    by_cases c64 : lcmpW id (0 : Int64) < 0
    · refine ⟨((0 : Int32)), (by unfold own_exp; rw [if_pos c64]), fun t k => pre2 t ?_⟩
      show Steps p.tables e below (s₁.setTop (mkF m 60 #[.val (.long q0), .second, .val (.int p2), .val (.int p3), .val (.long id), .second, .val (.int (p3 &&& (3 : Int32))), .unset] [])) _
      refine XS.lload X0.here hx rfl (hb hby at_60) rfl ?_
      show Steps p.tables e below (s₁.setTop (mkF m 62 #[.val (.long q0), .second, .val (.int p2), .val (.int p3), .val (.long id), .second, .val (.int (p3 &&& (3 : Int32))), .unset] [(.long id)])) _
      refine XS.lconst X0.here hx rfl (hb hby at_62) ?_
      show Steps p.tables e below (s₁.setTop (mkF m 63 #[.val (.long q0), .second, .val (.int p2), .val (.int p3), .val (.long id), .second, .val (.int (p3 &&& (3 : Int32))), .unset] [(.long (0 : Int64)), (.long id)])) _
      refine XS.lcmp X0.here hx rfl (hb hby at_63) rfl ?_
      show Steps p.tables e below (s₁.setTop (mkF m 64 #[.val (.long q0), .second, .val (.int p2), .val (.int p3), .val (.long id), .second, .val (.int (p3 &&& (3 : Int32))), .unset] [(.int (lcmpW id (0 : Int64)))])) _
      refine XS.ifYes X0.here hx rfl (pc0 := 64) (pc' := 82) rfl (hb hby at_64) rfl ((if0 _ _).trans (tlt c64).1) (by decide) (by decide) ?_
      show Steps p.tables e below (s₁.setTop (mkF m 82 #[.val (.long q0), .second, .val (.int p2), .val (.int p3), .val (.long id), .second, .val (.int (p3 &&& (3 : Int32))), .unset] [])) _
      refine XS.iconst X0.here hx rfl (hb hby at_82) ?_
      exact k
    by_cases c75 : lcmpW (id &&& (65535 : Int64)) (0 : Int64) = 0
    · refine ⟨((1 : Int32)), (by unfold own_exp; rw [if_neg c64, if_pos c75]), fun t k => pre2 t ?_⟩
      show Steps p.tables e below (s₁.setTop (mkF m 60 #[.val (.long q0), .second, .val (.int p2), .val (.int p3), .val (.long id), .second, .val (.int (p3 &&& (3 : Int32))), .unset] [])) _
      refine XS.lload X0.here hx rfl (hb hby at_60) rfl ?_
      show Steps p.tables e below (s₁.setTop (mkF m 62 #[.val (.long q0), .second, .val (.int p2), .val (.int p3), .val (.long id), .second, .val (.int (p3 &&& (3 : Int32))), .unset] [(.long id)])) _
      refine XS.lconst X0.here hx rfl (hb hby at_62) ?_
      show Steps p.tables e below (s₁.setTop (mkF m 63 #[.val (.long q0), .second, .val (.int p2), .val (.int p3), .val (.long id), .second, .val (.int (p3 &&& (3 : Int32))), .unset] [(.long (0 : Int64)), (.long id)])) _
      refine XS.lcmp X0.here hx rfl (hb hby at_63) rfl ?_
      show Steps p.tables e below (s₁.setTop (mkF m 64 #[.val (.long q0), .second, .val (.int p2), .val (.int p3), .val (.long id), .second, .val (.int (p3 &&& (3 : Int32))), .unset] [(.int (lcmpW id (0 : Int64)))])) _
      refine XS.ifNo X0.here hx rfl (hb hby at_64) rfl ((if0 _ _).trans (flt c64).1) ?_
      show Steps p.tables e below (s₁.setTop (mkF m 67 #[.val (.long q0), .second, .val (.int p2), .val (.int p3), .val (.long id), .second, .val (.int (p3 &&& (3 : Int32))), .unset] [])) _
      refine XS.lload X0.here hx rfl (hb hby at_67) rfl ?_
      show Steps p.tables e below (s₁.setTop (mkF m 69 #[.val (.long q0), .second, .val (.int p2), .val (.int p3), .val (.long id), .second, .val (.int (p3 &&& (3 : Int32))), .unset] [(.long id)])) _
      refine X0.ldc2Long hx hown (mvT hZ (hw _ (List.mem_of_getElem? (i := 0) rfl))) (g := (mkF m 69 #[.val (.long q0), .second, .val (.int p2), .val (.int p3), .val (.long id), .second, .val (.int (p3 &&& (3 : Int32))), .unset] [(.long id)])) rfl (hb hby at_69) _ ?_
      show Steps p.tables e below (s₁.setTop (mkF m 72 #[.val (.long q0), .second, .val (.int p2), .val (.int p3), .val (.long id), .second, .val (.int (p3 &&& (3 : Int32))), .unset] [(.long (65535 : Int64)), (.long id)])) _
      refine XS.land X0.here hx rfl (hb hby at_72) rfl ?_
      show Steps p.tables e below (s₁.setTop (mkF m 73 #[.val (.long q0), .second, .val (.int p2), .val (.int p3), .val (.long id), .second, .val (.int (p3 &&& (3 : Int32))), .unset] [(.long (id &&& (65535 : Int64)))])) _
      refine XS.lconst X0.here hx rfl (hb hby at_73) ?_
      show Steps p.tables e below (s₁.setTop (mkF m 74 #[.val (.long q0), .second, .val (.int p2), .val (.int p3), .val (.long id), .second, .val (.int (p3 &&& (3 : Int32))), .unset] [(.long (0 : Int64)), (.long (id &&& (65535 : Int64)))])) _
      refine XS.lcmp X0.here hx rfl (hb hby at_74) rfl ?_
      show Steps p.tables e below (s₁.setTop (mkF m 75 #[.val (.long q0), .second, .val (.int p2), .val (.int p3), .val (.long id), .second, .val (.int (p3 &&& (3 : Int32))), .unset] [(.int (lcmpW (id &&& (65535 : Int64)) (0 : Int64)))])) _
      refine XS.ifNo X0.here hx rfl (hb hby at_75) rfl ((if0 _ _).trans (teq c75).2) ?_
      show Steps p.tables e below (s₁.setTop (mkF m 78 #[.val (.long q0), .second, .val (.int p2), .val (.int p3), .val (.long id), .second, .val (.int (p3 &&& (3 : Int32))), .unset] [])) _
      refine XS.iconst X0.here hx rfl (hb hby at_78) ?_
      show Steps p.tables e below (s₁.setTop (mkF m 79 #[.val (.long q0), .second, .val (.int p2), .val (.int p3), .val (.long id), .second, .val (.int (p3 &&& (3 : Int32))), .unset] [(.int (1 : Int32))])) _
      refine XS.goto X0.here hx rfl (pc0 := 79) (pc' := 83) rfl (hb hby at_79) (by decide) (by decide) ?_
      exact k
    · refine ⟨((0 : Int32)), (by unfold own_exp; rw [if_neg c64, if_neg c75]), fun t k => pre2 t ?_⟩
      show Steps p.tables e below (s₁.setTop (mkF m 60 #[.val (.long q0), .second, .val (.int p2), .val (.int p3), .val (.long id), .second, .val (.int (p3 &&& (3 : Int32))), .unset] [])) _
      refine XS.lload X0.here hx rfl (hb hby at_60) rfl ?_
      show Steps p.tables e below (s₁.setTop (mkF m 62 #[.val (.long q0), .second, .val (.int p2), .val (.int p3), .val (.long id), .second, .val (.int (p3 &&& (3 : Int32))), .unset] [(.long id)])) _
      refine XS.lconst X0.here hx rfl (hb hby at_62) ?_
      show Steps p.tables e below (s₁.setTop (mkF m 63 #[.val (.long q0), .second, .val (.int p2), .val (.int p3), .val (.long id), .second, .val (.int (p3 &&& (3 : Int32))), .unset] [(.long (0 : Int64)), (.long id)])) _
      refine XS.lcmp X0.here hx rfl (hb hby at_63) rfl ?_
      show Steps p.tables e below (s₁.setTop (mkF m 64 #[.val (.long q0), .second, .val (.int p2), .val (.int p3), .val (.long id), .second, .val (.int (p3 &&& (3 : Int32))), .unset] [(.int (lcmpW id (0 : Int64)))])) _
      refine XS.ifNo X0.here hx rfl (hb hby at_64) rfl ((if0 _ _).trans (flt c64).1) ?_
      show Steps p.tables e below (s₁.setTop (mkF m 67 #[.val (.long q0), .second, .val (.int p2), .val (.int p3), .val (.long id), .second, .val (.int (p3 &&& (3 : Int32))), .unset] [])) _
      refine XS.lload X0.here hx rfl (hb hby at_67) rfl ?_
      show Steps p.tables e below (s₁.setTop (mkF m 69 #[.val (.long q0), .second, .val (.int p2), .val (.int p3), .val (.long id), .second, .val (.int (p3 &&& (3 : Int32))), .unset] [(.long id)])) _
      refine X0.ldc2Long hx hown (mvT hZ (hw _ (List.mem_of_getElem? (i := 0) rfl))) (g := (mkF m 69 #[.val (.long q0), .second, .val (.int p2), .val (.int p3), .val (.long id), .second, .val (.int (p3 &&& (3 : Int32))), .unset] [(.long id)])) rfl (hb hby at_69) _ ?_
      show Steps p.tables e below (s₁.setTop (mkF m 72 #[.val (.long q0), .second, .val (.int p2), .val (.int p3), .val (.long id), .second, .val (.int (p3 &&& (3 : Int32))), .unset] [(.long (65535 : Int64)), (.long id)])) _
      refine XS.land X0.here hx rfl (hb hby at_72) rfl ?_
      show Steps p.tables e below (s₁.setTop (mkF m 73 #[.val (.long q0), .second, .val (.int p2), .val (.int p3), .val (.long id), .second, .val (.int (p3 &&& (3 : Int32))), .unset] [(.long (id &&& (65535 : Int64)))])) _
      refine XS.lconst X0.here hx rfl (hb hby at_73) ?_
      show Steps p.tables e below (s₁.setTop (mkF m 74 #[.val (.long q0), .second, .val (.int p2), .val (.int p3), .val (.long id), .second, .val (.int (p3 &&& (3 : Int32))), .unset] [(.long (0 : Int64)), (.long (id &&& (65535 : Int64)))])) _
      refine XS.lcmp X0.here hx rfl (hb hby at_74) rfl ?_
      show Steps p.tables e below (s₁.setTop (mkF m 75 #[.val (.long q0), .second, .val (.int p2), .val (.int p3), .val (.long id), .second, .val (.int (p3 &&& (3 : Int32))), .unset] [(.int (lcmpW (id &&& (65535 : Int64)) (0 : Int64)))])) _
      refine XS.ifYes X0.here hx rfl (pc0 := 75) (pc' := 82) rfl (hb hby at_75) rfl ((if0 _ _).trans (feq c75).2) (by decide) (by decide) ?_
      show Steps p.tables e below (s₁.setTop (mkF m 82 #[.val (.long q0), .second, .val (.int p2), .val (.int p3), .val (.long id), .second, .val (.int (p3 &&& (3 : Int32))), .unset] [])) _
      refine XS.iconst X0.here hx rfl (hb hby at_82) ?_
      exact k
  obtain ⟨_, _, ⟨T1, L1, k1, n1⟩, -, X1, ⟨Lc1, hQ1, l1, y1, z1⟩, st1⟩ := Jvm.LawKit.callS X0 hx (y := (⟨"com/example/tideline/tideline/partition/ProducerIds", "isBlockStart", "(J)Z"⟩ : MethodName)) hown (mvT hZ (hw _ (List.mem_of_getElem? (i := 1) rfl))) (mvT hZ (hw _ (List.mem_of_getElem? (i := 2) rfl))) (mvT hZ (hw _ (List.mem_of_getElem? (i := 3) rfl))) (mvT hZ (hw _ (List.mem_of_getElem? (i := 4) rfl))) (by decide) (backOf (W := 0) (rm1 l Z a0 hw [] id h0 n0 Z0) hZ (hw _ (List.mem_of_getElem? (i := 4) rfl)) (hw _ (List.mem_of_getElem? (i := 3) rfl)) (by decide) (by decide)) (g := (mkF m 87 #[.val (.long q0), .second, .val (.int p2), .val (.int p3), .val (.long id), .second, .val (.int (p3 &&& (3 : Int32))), .val (.int b7)] [(.long id)])) rfl (by rw [hml]; rfl) (argsL := [(.long id)]) (rest := []) (lenOf pd_0 rfl) rfl (by show 2 * 0 + _ ≤ _; exact Nat.le_of_eq rfl) (hb hby at_87) (fun _ _ => ⟨rfl, e0, (by decide : 0 + 0 ≤ _), (by decide : 0 + 0 ≤ _)⟩)
  dsimp only [Pt.U, Pt.locs, Pt.cells, Pt.slots] at X1 l1 y1 z1 st1 hQ1
  subst l1 y1 z1
  obtain ⟨rfl, N1q, e1q⟩ := hQ1
  have N1 := Fr.app N0 N1q
  have pre4 : ∀ t, Steps p.tables e below (T1.setTop (mkF m 92 #[.val (.long q0), .second, .val (.int p2), .val (.int p3), .val (.long id), .second, .val (.int (p3 &&& (3 : Int32))), .val (.int b7)] [(.int b7), (.int (own_blk id))])) t → Steps p.tables e below (s₁.setTop (entryFrame m #[(.long q0), (.int p2), (.int p3)] maxLocals)) t := by
    intro t k
    refine pre3 t ?_
    show Steps p.tables e below (s₁.setTop (mkF m 83 #[.val (.long q0), .second, .val (.int p2), .val (.int p3), .val (.long id), .second, .val (.int (p3 &&& (3 : Int32))), .unset] [(.int b7)])) _
    refine XS.istore X0.here hx rfl (hb hby at_83) rfl (l' := #[.val (.long q0), .second, .val (.int p2), .val (.int p3), .val (.long id), .second, .val (.int (p3 &&& (3 : Int32))), .val (.int b7)]) rfl ?_
    show Steps p.tables e below (s₁.setTop (mkF m 85 #[.val (.long q0), .second, .val (.int p2), .val (.int p3), .val (.long id), .second, .val (.int (p3 &&& (3 : Int32))), .val (.int b7)] [])) _
    refine XS.lload X0.here hx rfl (hb hby at_85) rfl ?_
    show Steps p.tables e below (s₁.setTop (mkF m 87 #[.val (.long q0), .second, .val (.int p2), .val (.int p3), .val (.long id), .second, .val (.int (p3 &&& (3 : Int32))), .val (.int b7)] [(.long id)])) _
    refine st1 _ ?_
    show Steps p.tables e below (T1.setTop (mkF m 90 #[.val (.long q0), .second, .val (.int p2), .val (.int p3), .val (.long id), .second, .val (.int (p3 &&& (3 : Int32))), .val (.int b7)] [(.int (own_blk id))])) _
    refine XS.iload X1.here hx rfl (hb hby at_90) rfl ?_
    exact k
  subst hm3
  obtain ⟨fs, hr, hrun, hended, hW, hsame⟩ := X1.leave (v := some (.int (1 : Int32))) (fun h => by rw [Bd.returns] at h; cases h)
  refine ⟨_, _, pre4 _ ?_, hrun, hended, _, _, rfl, ?_, ⟨_, rfl⟩, hW, hsame.mono (by decide) (by decide)⟩
  · show Steps p.tables e below (T1.setTop (mkF m 92 #[.val (.long q0), .second, .val (.int p2), .val (.int p3), .val (.long id), .second, .val (.int (p3 &&& (3 : Int32))), .val (.int (own_exp id))] [(.int (own_exp id)), (.int (own_blk id))])) _
    refine XS.icmpNo X1.here hx rfl (hb hby at_92) rfl (teq (own_law id)).2 ?_
    show Steps p.tables e below (T1.setTop (mkF m 95 #[.val (.long q0), .second, .val (.int p2), .val (.int p3), .val (.long id), .second, .val (.int (p3 &&& (3 : Int32))), .val (.int (own_exp id))] [])) _
    refine XS.iconst X1.here hx rfl (hb hby at_95) ?_
    show Steps p.tables e below (T1.setTop (mkF m 96 #[.val (.long q0), .second, .val (.int p2), .val (.int p3), .val (.long id), .second, .val (.int (p3 &&& (3 : Int32))), .val (.int (own_exp id))] [(.int (1 : Int32))])) _
    refine XS.goto X1.here hx rfl (pc0 := 96) (pc' := 100) rfl (hb hby at_96) (by decide) (by decide) ?_
    show Steps p.tables e below (T1.setTop (mkF m 100 #[.val (.long q0), .second, .val (.int p2), .val (.int p3), .val (.long id), .second, .val (.int (p3 &&& (3 : Int32))), .val (.int (own_exp id))] [(.int (1 : Int32))])) _
    exact retN X1 hx (t := .boolean) Bd.returns (by simp) (hb hby at_100) hr
  · show Q0 Z q0 p2 p3 h0 n0 _ T1.heap _
    exact ⟨rfl, N1⟩
set_option maxRecDepth 65536 in
set_option maxHeartbeats 40000000 in
theorem comes_1 {Post : Tables → Env → Array Value → State → Outcome → State → Prop} (hpost : ∀ tb e args s v u, (limb_1_1.after args s (.returned v) u = true ∧ limb_1_2.after args s (.returned v) u = true ∧ True) → FrameEnd s (.returned v) u (Jvm.fieldLocs frame_1_writes args s ++ Jvm.arrayLocs frame_1_arrays args s ++ Jvm.staticLocs frame_1_statics s) 0 0 → Post tb e args s (.returned v) u) :
    ArmFor flags0 classFile x code maxLocals ret World_1 tables_1 room_1 Calls_1 rest_1 Pre_1 Post := by
  intro l hfl _ _ p e ha hc hk s m args below hf hA hF happ hP
  obtain ⟨hcalls, hrest, hpre⟩ := hP
  obtain ⟨-, -, -, hnamed, -, -, -, hat⟩ := (Spec.applies_iff hf).mp happ
  obtain ⟨hg, hn⟩ := and_e (Cond.before_iff.mp (show (Jvm.Cond.and given_1 narrow_1).before args s = true from hpre))
  obtain ⟨gv1, gv2⟩ := and_e hg
  obtain ⟨gv3, gv4⟩ := and_e gv2
  obtain ⟨gv5, gv6⟩ := and_e gv4
  obtain ⟨w0, w1, w2, rfl⟩ : ∃ w0 w1 w2 : Value, args = #[w0, w1, w2] := by
    have hs : args.size = 3 := by simpa [Cond.value, given_1] using gv1
    obtain ⟨L⟩ := args
    match L, hs with
    | [w0, w1, w2], _ => exact ⟨w0, w1, w2, rfl⟩
  have hw := fun d (hd : d ∈ tables_1) => atoms_spec (ws := Jvm.Cond.code x code maxLocals ret :: tables_1) hat d (List.mem_cons_of_mem _ hd)
  have hfit : Fit s := fun {y c} hc i hi => by
    obtain ⟨ha, rfl⟩ := Array.getElem?_eq_some_iff.mp hc
    have q := List.all_eq_true.mp ((Array.all_eq_true_iff_forall_mem.mp hF) _ (Array.getElem_mem ha)) i (List.mem_range.mpr hi)
    simpa [Array.getElem?_eq_getElem hi] using q
  obtain ⟨i0, ei0⟩ := isL_v gv3
  obtain rfl : w0 = (.long i0) := Option.some.inj ei0
  obtain ⟨i1, ei1⟩ := is_v gv5
  obtain rfl : w1 = (.int i1) := Option.some.inj ei1
  obtain ⟨i2, ei2⟩ := is_v gv6
  obtain rfl : w2 = (.int i2) := Option.some.inj ei2
  obtain ⟨n, o, h1, h2, h3, _, L, rfl, ⟨rfl, N⟩, hq⟩ := rm0 l s _ hw tables_1 i0 i1 i2 s.heap s.heap.size (Nat.le_refl _)  p e ha hc hk s m _ below hf ((Spec.applies_iff_loose hf).mp happ).1 ⟨rfl, State.Warmed39.refl s, rfl⟩ trivial
  refine ⟨n, _, h1, h2, h3, hpost _ _ _ _ _ _ ⟨Cond.after_iff.mpr rfl, Cond.after_iff.mpr (eq_i res_at (Term.int_eval (1)) rfl), trivial⟩ ⟨hq.1, hq.2.1, (hq.2.2.sift fun y hy => Or.inr (N y hy)).mono (by decide) (by decide)⟩⟩
theorem main_1_1 : Claimed_1_1 := comes_1 fun _ _ _ _ _ _ h hF => ⟨h.1, hF⟩
theorem main_1_2 : Claimed_1_2 := comes_1 fun _ _ _ _ _ _ h hF => ⟨h.2.1, hF⟩
end Jvm.Pilot.@@N@@
namespace Jvm.Pilot.@@N@@
open Jvm Jvm.ClassFile Sem Op Lib Jvm.Free Jvm.Stand Jvm.Pilot.@@N@@.Jvm.D
/-! MADE BY PROGRAM (witnessworld.py) out of the Statement's table words and the real class files: 9 classes; the members and pool entries that the words name. The judged class is class 1, her method 1. -/
namespace start1
open Jvm.ClassFile
def u (s : String) : CpInfo := .utf8 (stringToUtf16 s)
/-- a pool by its gaps: so many unusable entries, then the entry; so many at the end -/
def gap : Nat → List CpInfo → List CpInfo
  | 0, r => r
  | n + 1, r => .unusable :: gap n r
def poolList (es : List (Nat × CpInfo)) (last : Nat) : List CpInfo := es.foldr (fun e r => gap e.1 (e.2 :: r)) (gap last [])
def pool (es : List (Nat × CpInfo)) (last : Nat) : Array CpInfo := ⟨poolList es last⟩
def fileOf (pool : Array CpInfo) (this : Nat) (attrs : Array Attribute := #[]) (ms : Array MethodInfo := #[]) (fl : Nat := 33) (sup : Nat := 0) (ifs : Array Nat := #[]) (fds : Array FieldInfo := #[]) : ClassFile where
  minorVersion := 0
  majorVersion := 65
  constantPool := pool
  accessFlags := fl
  thisClass := this
  superClass := sup
  interfaces := ifs
  fields := fds
  methods := ms
  attributes := attrs
def plain (name : String) (sup : Option ClassId) : Class where
  name := name
  kind := .ordinary
  loader := none
  accessFlags := 33
  super := sup
  interfaces := #[]
  cf := none
  fields := #[]
  methods := #[]
  instanceTypes := #[]
  staticTypes := #[]
  resolved := #[]
  callSites := []
  init := .initialized
  statics := none
  mirror := none

def pool0 : Array CpInfo := pool [(5, u "<init>"), (0, u "()V"), (1, .class_ 10), (1, u "java/lang/Object")] 113

def k0m0 : Method := { name := "<init>", desc := "()V", sig := { parameters := [], returnType := none }, accessFlags := 1, code := none }
/-- java/lang/Object -/
def k0 : Class := { plain "java/lang/Object" none with
  accessFlags := 33
  interfaces := #[]
  cf := some (fileOf pool0 8 #[] #[{ accessFlags := 1, nameIndex := 5, descriptorIndex := 6, attributes := #[] }] 33 0 #[] #[])
  fields := #[]
  methods := #[k0m0]
  instanceTypes := #[]
  staticTypes := #[]
  resolved := Array.replicate 124 none
  statics := none }

def pool1 : Array CpInfo := pool [(2, .class_ 4), (1, u "java/lang/Object"), (0, u "<init>"), (0, u "()V"), (2, .long 9223372036854775807), (1, .integer 262143), (0, .long 65535), (1, .methodref 15 16), (0, .class_ 17), (0, .nameAndType 18 19), (0, u "com/example/tideline/tideline/partition/ProducerIds"), (0, u "isBlockStart"), (0, u "(J)Z"), (0, .class_ 21), (0, u "com/example/tideline/tideline/partition/ProducerIdsIsBlockStartPinLaw"), (2, u "law"), (0, u "(JII)Z")] 3

def k1m0 : Method := { name := "<init>", desc := "()V", sig := { parameters := [], returnType := none }, accessFlags := 1, code := none }
def k1c1 : Code := { maxStack := 4, maxLocals := 8, code := code, exceptionTable := #[], attributes := #[] }
def k1m1 : Method := { name := "law", desc := "(JII)Z", sig := { parameters := [.long, .int, .int], returnType := some .boolean }, accessFlags := 9, code := some k1c1 }
/-- com/example/tideline/tideline/partition/ProducerIdsIsBlockStartPinLaw -/
def k1 : Class := { plain "com/example/tideline/tideline/partition/ProducerIdsIsBlockStartPinLaw" (some 0) with
  accessFlags := 49
  interfaces := #[]
  cf := some (fileOf pool1 20 #[] #[{ accessFlags := 1, nameIndex := 5, descriptorIndex := 6, attributes := #[] }, { accessFlags := 9, nameIndex := 24, descriptorIndex := 25, attributes := #[] }] 49 2 #[] #[])
  fields := #[]
  methods := #[k1m0, k1m1]
  instanceTypes := #[]
  staticTypes := #[]
  resolved := Array.replicate 29 none
  statics := none }

def pool2 : Array CpInfo := pool [(3, .class_ 4), (0, u "com/example/tideline/tideline/partition/ProducerIds"), (1, .class_ 8), (1, u "java/lang/Object"), (7, u "held"), (0, u "Ljava/util/ArrayDeque;"), (10, u "file"), (0, u "Ljava/nio/file/Path;"), (4, u "newFile"), (9, u "failures"), (0, u "Lcom/example/tideline/tideline/net/RateLimitedReport;"), (2, u "next"), (0, u "J"), (2, u "end"), (2, u "rangeFirst"), (2, u "asker"), (0, u "Lcom/example/tideline/tideline/partition/ProducerIds$Asker;"), (13, u "brokerIds"), (0, u "Ljava/util/List;"), (2, u "from"), (79, .class_ 158), (0, u "com/example/tideline/tideline/partition/ProducerIds$Asker"), (6, .long 9223372036854710272), (1, .long 65536), (53, u "asking"), (0, u "Z"), (21, u "askAgainAt"), (2, u "ASK_AGAIN_NANOS"), (9, u "FILE"), (0, u "Ljava/lang/String;"), (1, u "NEW_FILE"), (0, u "FORMAT_LINE"), (0, u "BLOCK"), (0, u "SPACE_END"), (0, u "RANGE"), (0, u "RESERVED"), (18, u "isBlockStart"), (0, u "(J)Z")] 36

def k2c0 : Code := { maxStack := 4, maxLocals := 2, code := prog_194_method_5_code, exceptionTable := #[], attributes := #[] }
def k2m0 : Method := { name := "isBlockStart", desc := "(J)Z", sig := { parameters := [.long], returnType := some .boolean }, accessFlags := 8, code := some k2c0 }
/-- com/example/tideline/tideline/partition/ProducerIds -/
def k2 : Class := { plain "com/example/tideline/tideline/partition/ProducerIds" (some 0) with
  accessFlags := 49
  interfaces := #[]
  cf := some (fileOf pool2 3 #[.nestMembers #[157]] #[{ accessFlags := 8, nameIndex := 284, descriptorIndex := 285, attributes := #[] }] 49 6 #[] #[{ accessFlags := 24, nameIndex := 257, descriptorIndex := 258, attributes := #[] }, { accessFlags := 24, nameIndex := 260, descriptorIndex := 258, attributes := #[] }, { accessFlags := 24, nameIndex := 261, descriptorIndex := 258, attributes := #[] }, { accessFlags := 24, nameIndex := 262, descriptorIndex := 49, attributes := #[] }, { accessFlags := 24, nameIndex := 263, descriptorIndex := 49, attributes := #[] }, { accessFlags := 26, nameIndex := 264, descriptorIndex := 49, attributes := #[] }, { accessFlags := 26, nameIndex := 247, descriptorIndex := 49, attributes := #[] }, { accessFlags := 26, nameIndex := 265, descriptorIndex := 258, attributes := #[] }, { accessFlags := 18, nameIndex := 44, descriptorIndex := 45, attributes := #[] }, { accessFlags := 2, nameIndex := 48, descriptorIndex := 49, attributes := #[] }, { accessFlags := 2, nameIndex := 52, descriptorIndex := 49, attributes := #[] }, { accessFlags := 18, nameIndex := 28, descriptorIndex := 29, attributes := #[] }, { accessFlags := 18, nameIndex := 34, descriptorIndex := 29, attributes := #[] }, { accessFlags := 18, nameIndex := 55, descriptorIndex := 49, attributes := #[] }, { accessFlags := 18, nameIndex := 58, descriptorIndex := 59, attributes := #[] }, { accessFlags := 18, nameIndex := 73, descriptorIndex := 74, attributes := #[] }, { accessFlags := 2, nameIndex := 77, descriptorIndex := 49, attributes := #[] }, { accessFlags := 18, nameIndex := 16, descriptorIndex := 17, attributes := #[] }, { accessFlags := 2, nameIndex := 221, descriptorIndex := 222, attributes := #[] }, { accessFlags := 2, nameIndex := 244, descriptorIndex := 49, attributes := #[] }])
  fields := #[{ name := "FILE", type := (.object "java/lang/String"), accessFlags := 24, slot := 0, constantValue := 0 }, { name := "NEW_FILE", type := (.object "java/lang/String"), accessFlags := 24, slot := 1, constantValue := 0 }, { name := "FORMAT_LINE", type := (.object "java/lang/String"), accessFlags := 24, slot := 2, constantValue := 0 }, { name := "BLOCK", type := .long, accessFlags := 24, slot := 3, constantValue := 0 }, { name := "SPACE_END", type := .long, accessFlags := 24, slot := 4, constantValue := 0 }, { name := "RANGE", type := .long, accessFlags := 26, slot := 5, constantValue := 0 }, { name := "ASK_AGAIN_NANOS", type := .long, accessFlags := 26, slot := 6, constantValue := 0 }, { name := "RESERVED", type := (.object "java/lang/String"), accessFlags := 26, slot := 7, constantValue := 0 }, { name := "failures", type := (.object "com/example/tideline/tideline/net/RateLimitedReport"), accessFlags := 18, slot := 0, constantValue := 0 }, { name := "next", type := .long, accessFlags := 2, slot := 1, constantValue := 0 }, { name := "end", type := .long, accessFlags := 2, slot := 2, constantValue := 0 }, { name := "file", type := (.object "java/nio/file/Path"), accessFlags := 18, slot := 3, constantValue := 0 }, { name := "newFile", type := (.object "java/nio/file/Path"), accessFlags := 18, slot := 4, constantValue := 0 }, { name := "rangeFirst", type := .long, accessFlags := 18, slot := 5, constantValue := 0 }, { name := "asker", type := (.object "com/example/tideline/tideline/partition/ProducerIds$Asker"), accessFlags := 18, slot := 6, constantValue := 0 }, { name := "brokerIds", type := (.object "java/util/List"), accessFlags := 18, slot := 7, constantValue := 0 }, { name := "from", type := .long, accessFlags := 2, slot := 8, constantValue := 0 }, { name := "held", type := (.object "java/util/ArrayDeque"), accessFlags := 18, slot := 9, constantValue := 0 }, { name := "asking", type := .boolean, accessFlags := 2, slot := 10, constantValue := 0 }, { name := "askAgainAt", type := .long, accessFlags := 2, slot := 11, constantValue := 0 }]
  methods := #[k2m0]
  instanceTypes := #[(.object "com/example/tideline/tideline/net/RateLimitedReport"), .long, .long, (.object "java/nio/file/Path"), (.object "java/nio/file/Path"), .long, (.object "com/example/tideline/tideline/partition/ProducerIds$Asker"), (.object "java/util/List"), .long, (.object "java/util/ArrayDeque"), .boolean, .long]
  staticTypes := #[(.object "java/lang/String"), (.object "java/lang/String"), (.object "java/lang/String"), .long, .long, .long, .long, (.object "java/lang/String")]
  resolved := Array.replicate 322 none
  statics := none }

def pool3 : Array CpInfo := pool [(1, u "java/lang/Cloneable"), (0, .class_ 1), (0, u "java/lang/Object"), (0, .class_ 3)] 3

/-- java/lang/Cloneable -/
def k3 : Class := { plain "java/lang/Cloneable" (some 0) with
  accessFlags := 1537
  interfaces := #[]
  cf := some (fileOf pool3 2 #[] #[] 1537 4 #[] #[])
  fields := #[]
  methods := #[]
  instanceTypes := #[]
  staticTypes := #[]
  resolved := Array.replicate 8 none
  statics := none }

def pool4 : Array CpInfo := pool [(1, u "java/io/Serializable"), (0, .class_ 1), (0, u "java/lang/Object"), (0, .class_ 3)] 3

/-- java/io/Serializable -/
def k4 : Class := { plain "java/io/Serializable" (some 0) with
  accessFlags := 1537
  interfaces := #[]
  cf := some (fileOf pool4 2 #[] #[] 1537 4 #[] #[])
  fields := #[]
  methods := #[]
  instanceTypes := #[]
  staticTypes := #[]
  resolved := Array.replicate 8 none
  statics := none }

/-- the primitive byte -/
def k5 : Class := { plain "byte" none with kind := .primitive 'B', accessFlags := 0x411 }
/-- [B -/
def k6 : Class := { plain "[B" (some 0) with kind := .array 5 .byte, interfaces := #[3, 4], accessFlags := 1041 }

/-- the primitive int -/
def k7 : Class := { plain "int" none with kind := .primitive 'I', accessFlags := 0x411 }
/-- [I -/
def k8 : Class := { plain "[I" (some 0) with kind := .array 7 .int, interfaces := #[3, 4], accessFlags := 1041 }

def heap : Heap := #[]
def classes : Array Class := #[k0, k1, k2, k3, k4, k5, k6, k7, k8]
def interned : List (Array UInt16 × Addr) := []
def slotsUsed : Nat := 0
def theMethod : MethodId := ⟨1, 1⟩
def args0 : Array Value := #[.long 65536, .int 5, .int 0]
def aboutOver (below : List Frame) : State where
  vm := { classes := classes, interned := interned.toArray }
  heap := heap
  slotsUsed := slotsUsed
  threads := #[{ frames := .invoking theMethod args0 :: below }]
def below0 : List Frame := [.native { method := ⟨0, 0⟩, args := #[] }]
def about1 : State := aboutOver below0
def p0 : Program := .bare "" "" ""
def e0 : Env := launch0.env 0 0 0
theorem w_frames : about1.frames = Frame.invoking theMethod args0 :: below0 := rfl
set_option maxRecDepth 65536 in
theorem w_args : argsFit about1.vm theMethod args0 = true := by decide +kernel
set_option maxRecDepth 65536 in
theorem w_heap : heapFits about1 = true := by decide +kernel
set_option maxRecDepth 65536 in
theorem w_runnable : about1.curStatus? = some .runnable := by decide +kernel
set_option maxRecDepth 65536 in
theorem w_alone : about1.alone = true := by decide +kernel
set_option maxRecDepth 65536 in
theorem w_named : about1.methodNamed? x = some theMethod := by decide +kernel
set_option maxRecDepth 65536 in
theorem w_hears : about1.hears theMethod below0 = true := by decide +kernel
set_option maxRecDepth 65536 in
theorem w_ripe : about1.ripe theMethod args0 below0 = true := by decide +kernel
theorem w_running : about1.status = .running := rfl
set_option maxRecDepth 65536 in
theorem w_room : about1.hasRoom e0.platform room_1 = true :=
  launch0.hasRoom_least _ room_1 (by decide +kernel) (by decide +kernel) (by decide +kernel) (by decide +kernel) (by decide +kernel) (by decide +kernel)
theorem allAtoms_all (ts : List Jvm.Cond) (a : Array Jvm.Value) (st : Jvm.State) : (allAtoms ts).before a st = ts.all (fun c => c.before a st) := by
  induction ts with
  | nil => rfl
  | cons c t ih =>
    show (Jvm.Cond.and c (allAtoms t)).before a st = _
    rw [Jvm.Cond.before_and, ih, List.all_cons]
def words1 : List Jvm.Cond := Jvm.Cond.code x code maxLocals ret :: tables_1
/-- a 'code' word, met by the world's own term for the bytes: nothing is compared byte by byte -/
theorem code_word {y : MethodName} {bytes : ByteArray} {mx : Nat} {rt : Option FieldType} {a : Array Value} {s : State} {m : MethodId} {meth : Method} {c : Code} (h1 : s.methodNamed? y = some m) (h2 : s.vm.method? m = some meth) (h3 : meth.code = some c) (h4 : c.code = bytes)
    (h5 : (c.maxLocals == mx && c.exceptionTable.isEmpty && decide (c.maxStack ≤ mostOperands) && decide (meth.sig.returnType = rt) && !meth.locks && decide (parseMethodDescriptor y.desc = some meth.sig)) = true) : (Jvm.Cond.code y bytes mx rt).before a s = true := by
  simp only [Bool.and_eq_true, beq_iff_eq, Bool.not_eq_true', decide_eq_true_eq] at h5
  obtain ⟨⟨⟨⟨⟨g1, g2⟩, g3⟩, g4⟩, g5⟩, g6⟩ := h5
  simp [Cond.before, Cond.holds, Cond.value, h1, h2, h3, h4, g1, g2, g3, g4, g5, g6]
def isCode : Jvm.Cond → Bool
  | .code _ _ _ _ => true
  | _ => false
theorem all_split {L : List Jvm.Cond} {P : Jvm.Cond → Bool} (h1 : L.all (fun c => isCode c || P c) = true) (h2 : ∀ c ∈ L.filter isCode, P c = true) : L.all P = true := by
  refine List.all_eq_true.mpr fun c hc => ?_
  have h := List.all_eq_true.mp h1 c hc
  rcases Bool.eq_false_or_eq_true (isCode c) with hi | hi
  · exact h2 c (List.mem_filter.mpr ⟨hc, hi⟩)
  · simpa [hi] using h
set_option maxRecDepth 65536 in
theorem w_c0 : (Jvm.Cond.code x code maxLocals ret).before args0 about1 = true := code_word (m := ⟨1, 1⟩) (meth := k1m1) (c := k1c1) (by decide +kernel) rfl rfl rfl (by decide +kernel)
set_option maxRecDepth 65536 in
theorem w_c1 : (Jvm.Cond.code ({ cls := "com/example/tideline/tideline/partition/ProducerIds", name := "isBlockStart", desc := "(J)Z" } : Jvm.MethodName) prog_194_method_5_code (2 : Nat) (Option.some Jvm.ClassFile.FieldType.boolean)).before args0 about1 = true := code_word (m := ⟨2, 0⟩) (meth := k2m0) (c := k2c0) (by decide +kernel) rfl rfl rfl (by decide +kernel)
def codes1 : List Jvm.Cond := [Jvm.Cond.code x code maxLocals ret, Jvm.Cond.code ({ cls := "com/example/tideline/tideline/partition/ProducerIds", name := "isBlockStart", desc := "(J)Z" } : Jvm.MethodName) prog_194_method_5_code (2 : Nat) (Option.some Jvm.ClassFile.FieldType.boolean)]
set_option maxRecDepth 65536 in
theorem codes_eq : words1.filter isCode = codes1 := rfl
theorem w_codes : ∀ c ∈ words1.filter isCode, c.before args0 about1 = true := by
  rw [codes_eq]
  intro c hc
  simp only [codes1, List.mem_cons, List.not_mem_nil, or_false] at hc
  rcases hc with rfl | rfl
  · exact w_c0
  · exact w_c1
set_option maxRecDepth 65536 in
theorem w_t1 : words1.all (fun c => isCode c || c.before args0 about1) = true := by decide +kernel
theorem w_tables : (allAtoms (Jvm.Cond.code x code maxLocals ret :: tables_1)).before args0 about1 = true := by
  rw [allAtoms_all]
  show words1.all (fun c => c.before args0 about1) = true
  refine all_split ?_ w_codes
  rw [w_t1]
set_option maxRecDepth 65536 in
theorem w_case : (Jvm.Cond.and given_1 narrow_1).before args0 about1 = true := by decide +kernel
theorem w_applies : (headSpec (Jvm.Cond.code x code maxLocals ret :: tables_1) room_1).applies x e0.platform about1 = true :=
  (Spec.applies_iff w_frames).mpr ⟨w_running, w_runnable, w_alone, w_named, w_hears, w_ripe, w_room, w_tables⟩
theorem atStart : AtStart classFile x code maxLocals ret World_1 tables_1 room_1 Calls_1 rest_1 Pre_1 launch0 p0 e0 about1 theMethod args0 below0 :=
  ⟨lists_1, trivial, launch0.admits_env _ _ _, launch0.least_env, fairChoices_fair.cas, fairChoices_fair.clock, w_frames, w_args, w_heap, w_applies, trivial, trivial, w_case⟩
end start1
theorem witness_1 : WitnessClaimed_1 := ⟨start1.p0, start1.e0, start1.about1, start1.theMethod, start1.args0, start1.below0, start1.atStart⟩
end Jvm.Pilot.@@N@@
