import JvmDerived
import JvmDerived.Pilot.@@N@@Statement
import JvmDerived.Pilot.@@N@@Code
set_option linter.unusedVariables false
set_option linter.unusedSimpArgs false
@@BLOCK:NumsL.lean.txt@@
@@BLOCK:Masks.lean.txt@@
namespace Jvm.RoadKit
open Sem ClassFile Op Lib Jvm.Stand Jvm.Free Jvm.LawKit
section New
variable {p : Program} {l : Launch} {e : Env} {R : Room} {s : State} {m : MethodId} {args : Array Value} {below : List Frame} {meth : Method} {c : Code} {T : State} {locs : List Loc} {cells slots : Nat}
theorem retI (X : Stand p l e R s m args below meth c T locs cells slots) (hx : p.tables.exec = Jvm.exec) {pc : Nat} {Ls : Array Slot} {z : Int32} {rest : List Value} (hret : meth.sig.returnType = some .int) (hd : decode c.code pc = .ok (.ireturn, 1)) {fs : List Frame}
    (hl : ∀ (f : JFrame) (acts : List Action), f.method = m → f.locked = none → f.entered = [] → (doReturn e (T.setTop f) acts (some (.int z))).1 = T.setFrames fs) : Steps p.tables e below (T.setTop (mkF m pc Ls (.int z :: rest))) (T.setFrames fs) :=
  retOut X hx hret rfl (Or.inl ⟨rfl, Or.inl rfl, z, rfl⟩) hd hl
end New
end Jvm.RoadKit
namespace Jvm.Pilot.@@N@@
open Jvm Jvm.ClassFile Sem Op Lib Jvm.Free Jvm.Stand Jvm.LawKit Jvm.RoadKit Bundle Jvm.Pilot.@@N@@.Jvm.D
theorem d1_0 : decode method_2_code 0 = .ok (.iload_n 1, 1) := by decide +kernel
theorem d1_1 : decode method_2_code 1 = .ok (.iload_n 2, 1) := by decide +kernel
theorem d1_2 : decode method_2_code 2 = .ok (.if_icmp .ge 7, 3) := by decide +kernel
theorem d1_5 : decode method_2_code 5 = .ok (.iload_n 0, 1) := by decide +kernel
theorem d1_6 : decode method_2_code 6 = .ok (.goto 6, 3) := by decide +kernel
theorem d1_9 : decode method_2_code 9 = .ok (.iload_n 0, 1) := by decide +kernel
theorem d1_10 : decode method_2_code 10 = .ok (.iconst (-1), 1) := by decide +kernel
theorem d1_11 : decode method_2_code 11 = .ok (.ixor, 1) := by decide +kernel
theorem d1_12 : decode method_2_code 12 = .ok (.ireturn, 1) := by decide +kernel
theorem d2_0 : decode prog_17_method_6_code 0 = .ok (.iload_n 1, 1) := by decide +kernel
theorem d2_1 : decode prog_17_method_6_code 1 = .ok (.istore_n 2, 1) := by decide +kernel
theorem d2_2 : decode prog_17_method_6_code 2 = .ok (.iconst 0, 1) := by decide +kernel
theorem d2_3 : decode prog_17_method_6_code 3 = .ok (.istore_n 3, 1) := by decide +kernel
theorem d2_4 : decode prog_17_method_6_code 4 = .ok (.iload_n 3, 1) := by decide +kernel
theorem d2_5 : decode prog_17_method_6_code 5 = .ok (.iload_n 1, 1) := by decide +kernel
theorem d2_6 : decode prog_17_method_6_code 6 = .ok (.if_icmp .ge 25, 3) := by decide +kernel
theorem d2_9 : decode prog_17_method_6_code 9 = .ok (.iload_n 2, 1) := by decide +kernel
theorem d2_10 : decode prog_17_method_6_code 10 = .ok (.aload_n 0, 1) := by decide +kernel
theorem d2_11 : decode prog_17_method_6_code 11 = .ok (.iload_n 3, 1) := by decide +kernel
theorem d2_12 : decode prog_17_method_6_code 12 = .ok (.iaload, 1) := by decide +kernel
theorem d2_13 : decode prog_17_method_6_code 13 = .ok (.iadd, 1) := by decide +kernel
theorem d2_14 : decode prog_17_method_6_code 14 = .ok (.ldc 75, 2) := by decide +kernel
theorem d2_16 : decode prog_17_method_6_code 16 = .ok (.imul, 1) := by decide +kernel
theorem d2_17 : decode prog_17_method_6_code 17 = .ok (.istore_n 2, 1) := by decide +kernel
theorem d2_18 : decode prog_17_method_6_code 18 = .ok (.iload_n 2, 1) := by decide +kernel
theorem d2_19 : decode prog_17_method_6_code 19 = .ok (.iload_n 2, 1) := by decide +kernel
theorem d2_20 : decode prog_17_method_6_code 20 = .ok (.bipush 16, 2) := by decide +kernel
theorem d2_22 : decode prog_17_method_6_code 22 = .ok (.iushr, 1) := by decide +kernel
theorem d2_23 : decode prog_17_method_6_code 23 = .ok (.ixor, 1) := by decide +kernel
theorem d2_24 : decode prog_17_method_6_code 24 = .ok (.istore_n 2, 1) := by decide +kernel
theorem d2_25 : decode prog_17_method_6_code 25 = .ok (.iinc 3 1, 3) := by decide +kernel
theorem d2_28 : decode prog_17_method_6_code 28 = .ok (.goto (-24), 3) := by decide +kernel
theorem d2_31 : decode prog_17_method_6_code 31 = .ok (.iload_n 2, 1) := by decide +kernel
theorem d2_32 : decode prog_17_method_6_code 32 = .ok (.ldc 76, 2) := by decide +kernel
theorem d2_34 : decode prog_17_method_6_code 34 = .ok (.imul, 1) := by decide +kernel
theorem d2_35 : decode prog_17_method_6_code 35 = .ok (.istore_n 2, 1) := by decide +kernel
theorem d2_36 : decode prog_17_method_6_code 36 = .ok (.iload_n 2, 1) := by decide +kernel
theorem d2_37 : decode prog_17_method_6_code 37 = .ok (.iload_n 2, 1) := by decide +kernel
theorem d2_38 : decode prog_17_method_6_code 38 = .ok (.bipush 13, 2) := by decide +kernel
theorem d2_40 : decode prog_17_method_6_code 40 = .ok (.iushr, 1) := by decide +kernel
theorem d2_41 : decode prog_17_method_6_code 41 = .ok (.ixor, 1) := by decide +kernel
theorem d2_42 : decode prog_17_method_6_code 42 = .ok (.ireturn, 1) := by decide +kernel
theorem pd_0 : parseMethodDescriptor "(III)I" = some ⟨[.int, .int, .int], some .int⟩ := by decide +kernel
theorem pd_1 : parseMethodDescriptor "([II)I" = some ⟨[(.array .int), .int], some .int⟩ := by decide +kernel
theorem own_ushr (x : Int32) : 0 ≤ (x.toUInt32 >>> ((3 : Int32) &&& 31).toUInt32).toInt32 := Jvm.Kit.i32_iushr_nonneg x (k := 3) (by decide) (by decide) (by decide)
theorem own_lt {i n : Nat} (h : i < n) (hn : n ≤ 255) : Int32.ofNat i < Int32.ofNat n := by
  rw [Int32.lt_iff_toInt_lt, Int32.toInt_ofNat_of_lt (by omega), Int32.toInt_ofNat_of_lt (by omega)]
  omega
theorem own_irr (n : Int32) : ¬ n < n := by rw [Int32.lt_iff_toInt_lt]; omega
theorem own_nn {n : Nat} (hn : n ≤ 255) : ¬ Int32.ofNat n < 0 := by
  rw [Int32.lt_iff_toInt_lt, Int32.toInt_ofNat_of_lt (by omega), show (0 : Int32).toInt = 0 from rfl]
  omega
theorem own_n32 {n : Nat} (hn : n ≤ 255) : (Int32.ofNat n).toNatClampNeg = n := by
  rw [Int32.toNatClampNeg, Int32.toInt_ofNat_of_lt (by omega)]; rfl
theorem own_one (i : Nat) : Int32.ofNat i + (1 : Int32) = Int32.ofNat (i + 1) := (Int32.ofNat_add i 1).symm
theorem own_n (x : Int32) : ∃ n : Nat, n ≤ 4 ∧ ((x &&& (7 : Int32)) % (5 : Int32)) = Int32.ofNat n := by
  have hm : (x &&& 7).toInt = x.toInt % 2 ^ 3 := Jvm.Kit.i32_mask x 7 (k := 3) (by decide) (by decide)
  have h0 : 0 ≤ (x &&& 7).toInt := by omega
  have hr : ((x &&& 7) % 5).toInt = (x &&& 7).toInt % (5 : Int32).toInt := Jvm.Kit.i32_rem_nonneg h0
  have c5 : (5 : Int32).toInt = 5 := by decide
  rw [c5] at hr
  refine ⟨((x &&& 7) % 5).toInt.toNat, by omega, ?_⟩
  apply Int32.toInt_inj.mp
  rw [Int32.toInt_ofNat_of_lt (by omega)]
  omega
theorem own_p (x : Int32) {nn : Nat} (h1 : 0 < nn) (h2 : nn ≤ 4) : ∃ pp : Nat, pp < nn ∧ (((x.toUInt32 >>> ((3 : Int32) &&& 31).toUInt32).toInt32) % Int32.ofNat nn) = Int32.ofNat pp := by
  have h0 : 0 ≤ (x.toUInt32 >>> ((3 : Int32) &&& 31).toUInt32).toInt32 := own_ushr x
  rw [Jvm.Kit.i32_nonneg] at h0
  generalize (x.toUInt32 >>> ((3 : Int32) &&& 31).toUInt32).toInt32 = y at *
  have hr : (y % Int32.ofNat nn).toInt = y.toInt % (Int32.ofNat nn).toInt := Jvm.Kit.i32_rem_nonneg h0
  rw [Int32.toInt_ofNat_of_lt (by omega)] at hr
  have a1 := Int.emod_nonneg y.toInt (b := (nn : Int)) (by omega)
  have a2 := Int.emod_lt_of_pos y.toInt (b := (nn : Int)) (by omega)
  refine ⟨(y % Int32.ofNat nn).toInt.toNat, by omega, ?_⟩
  apply Int32.toInt_inj.mp
  rw [Int32.toInt_ofNat_of_lt (by omega)]
  omega
theorem own_nz {nn : Nat} (h : Int32.ofNat nn ≠ 0) : 0 < nn := by
  rcases Nat.eq_zero_or_pos nn with rfl | h'
  · exact absurd rfl h
  · exact h'
def own_mix (a : Int32) : Int32 := a ^^^ ((a.toUInt32 >>> ((16 : Int32) &&& 31).toUInt32).toInt32)
def own_mixb (a : Int32) : Int32 := a ^^^ ((a.toUInt32 >>> ((13 : Int32) &&& 31).toUInt32).toInt32)
def own_step (hh k : Int32) : Int32 := own_mix ((hh + k) * (-1640531527 : Int32))
def own_fin (hh : Int32) : Int32 := own_mixb (hh * (-2048144789 : Int32))
def own_foldg (f : Int32 → Int32 → Int32) (vs : List Int32) : Nat → Nat → Int32 → Int32
  | 0, _, hh => hh
  | k + 1, i, hh => own_foldg f vs k (i + 1) (f hh (vs.getD i 0))
theorem own_fz (f : Int32 → Int32 → Int32) (vs : List Int32) (i : Nat) (hh : Int32) : own_foldg f vs 0 i hh = hh := rfl
theorem own_fs (f : Int32 → Int32 → Int32) (vs : List Int32) (k i : Nat) (hh : Int32) : own_foldg f vs (k + 1) i hh = own_foldg f vs k (i + 1) (f hh (vs.getD i 0)) := rfl
theorem own_congr (f : Int32 → Int32 → Int32) {vs ws : List Int32} (k : Nat) : ∀ (i : Nat) (hh : Int32), (∀ j, i ≤ j → j < i + k → vs.getD j 0 = ws.getD j 0) → own_foldg f vs k i hh = own_foldg f ws k i hh := by
  induction k with
  | zero => intro i hh _; rw [own_fz, own_fz]
  | succ k ih =>
    intro i hh H
    rw [own_fs, own_fs, H i (Nat.le_refl _) (by omega)]
    exact ih (i + 1) _ (fun j h1 h2 => H j (by omega) (by omega))
theorem own_fold_inj (f : Int32 → Int32 → Int32) (hf : ∀ k a b, f a k = f b k ↔ a = b) {vs : List Int32} (k : Nat) : ∀ (i : Nat) (h1 h2 : Int32), own_foldg f vs k i h1 = own_foldg f vs k i h2 ↔ h1 = h2 := by
  induction k with
  | zero => intro i h1 h2; rw [own_fz, own_fz]
  | succ k ih => intro i h1 h2; rw [own_fs, own_fs, ih, hf]
theorem own_fold_set (f : Int32 → Int32 → Int32) (hf : ∀ k a b, f a k = f b k ↔ a = b) (hg : ∀ k a b, f k a = f k b ↔ a = b) {vs : List Int32} {pp : Nat} {x : Int32} (hl : pp < vs.length) (k : Nat) : ∀ (i : Nat) (hh : Int32), i ≤ pp → pp < i + k → (own_foldg f (vs.set pp x) k i hh = own_foldg f vs k i hh ↔ x = vs.getD pp 0) := by
  induction k with
  | zero => intro i hh h1 h2; omega
  | succ k ih =>
    intro i hh h1 h2
    rw [own_fs, own_fs]
    by_cases e : i = pp
    · subst e
      have e1 : (vs.set i x).getD i 0 = x := by simp [List.getD_eq_getElem?_getD, hl]
      have e2 : own_foldg f (vs.set i x) k (i + 1) (f hh x) = own_foldg f vs k (i + 1) (f hh x) := own_congr f k (i + 1) _ (fun j h3 h4 => by
        simp only [List.getD_eq_getElem?_getD]
        rw [List.getElem?_set_ne (by omega)])
      rw [e1, e2, own_fold_inj f hf, hg]
    · have e1 : (vs.set pp x).getD i 0 = vs.getD i 0 := by
        simp only [List.getD_eq_getElem?_getD]
        rw [List.getElem?_set_ne (fun q => e q.symm)]
      rw [e1]
      exact ih (i + 1) _ (by omega) (by omega)
def own_hash (vs : List Int32) (nn : Nat) : Int32 := own_fin (own_foldg own_step vs nn 0 (Int32.ofNat nn))
def own_keep (v i n : Int32) : Int32 := if i < n then v else v ^^^ (-1 : Int32)
theorem own_bv16 (a : BitVec 32) : (a ^^^ a >>> 16) ^^^ ((a ^^^ a >>> 16) >>> 16) = a := by
  rw [BitVec.ushiftRight_xor_distrib, ← BitVec.shiftRight_add, BitVec.ushiftRight_eq_zero (x := a) (n := 16 + 16) (by decide)]
  rw [BitVec.xor_zero, BitVec.xor_assoc, BitVec.xor_self, BitVec.xor_zero]
theorem own_bv13 (a : BitVec 32) : (a ^^^ a >>> 13) ^^^ ((a ^^^ a >>> 13) >>> 13) ^^^ ((a ^^^ a >>> 13) >>> 26) = a := by
  rw [BitVec.ushiftRight_xor_distrib, ← BitVec.shiftRight_add, BitVec.ushiftRight_xor_distrib, ← BitVec.shiftRight_add, BitVec.ushiftRight_eq_zero (x := a) (n := 13 + 26) (by decide)]
  show a ^^^ a >>> 13 ^^^ (a >>> 13 ^^^ a >>> 26) ^^^ (a >>> 26 ^^^ 0#32) = a
  rw [BitVec.xor_zero, BitVec.xor_assoc a, ← BitVec.xor_assoc (a >>> 13), BitVec.xor_self, BitVec.zero_xor, BitVec.xor_assoc, BitVec.xor_self, BitVec.xor_zero]
theorem own_mix_bv (a : Int32) : (own_mix a).toBitVec = a.toBitVec ^^^ a.toBitVec >>> 16 := rfl
theorem own_mixb_bv (a : Int32) : (own_mixb a).toBitVec = a.toBitVec ^^^ a.toBitVec >>> 13 := rfl
theorem own_mix_inj {a b : Int32} : own_mix a = own_mix b ↔ a = b := by
  refine ⟨fun h => ?_, fun h => by rw [h]⟩
  have h2 := congrArg Int32.toBitVec h
  rw [own_mix_bv, own_mix_bv] at h2
  apply Int32.toBitVec_inj.mp
  rw [← own_bv16 a.toBitVec, h2, own_bv16]
theorem own_mixb_inj {a b : Int32} : own_mixb a = own_mixb b ↔ a = b := by
  refine ⟨fun h => ?_, fun h => by rw [h]⟩
  have h2 := congrArg Int32.toBitVec h
  rw [own_mixb_bv, own_mixb_bv] at h2
  apply Int32.toBitVec_inj.mp
  rw [← own_bv13 a.toBitVec, h2, own_bv13]
theorem own_mul_inj {c d : Int32} (hc : c * d = 1) {a b : Int32} : a * c = b * c ↔ a = b := by
  refine ⟨fun h => ?_, fun h => by rw [h]⟩
  have h2 := congrArg (· * d) h
  simp only [Int32.mul_assoc, hc, Int32.mul_one] at h2
  exact h2
theorem own_addr {k a b : Int32} : a + k = b + k ↔ a = b := Int32.add_left_inj k
theorem own_addl {k a b : Int32} : k + a = k + b ↔ a = b := Int32.add_right_inj k
theorem own_step_h {k a b : Int32} : own_step a k = own_step b k ↔ a = b := by
  unfold own_step; rw [own_mix_inj, own_mul_inj (d := (340573321 : Int32)) (by decide), own_addr]
theorem own_step_k {k a b : Int32} : own_step k a = own_step k b ↔ a = b := by
  unfold own_step; rw [own_mix_inj, own_mul_inj (d := (340573321 : Int32)) (by decide), own_addl]
theorem own_fin_inj {a b : Int32} : own_fin a = own_fin b ↔ a = b := by
  unfold own_fin; rw [own_mixb_inj, own_mul_inj (d := (-1513385405 : Int32)) (by decide)]
theorem own_pref (a b c d e : Int32) {nn : Nat} (hn : nn ≤ 4) : own_hash [a, b, c, d, e] nn = own_hash [own_keep a 0 (Int32.ofNat nn), own_keep b 1 (Int32.ofNat nn), own_keep c 2 (Int32.ofNat nn), own_keep d 3 (Int32.ofNat nn), own_keep e 4 (Int32.ofNat nn)] nn := by
  unfold own_hash
  congr 1
  refine own_congr _ _ _ _ (fun j _ h2 => ?_)
  have k : ∀ (v : Int32) (i : Nat), i < nn → own_keep v (Int32.ofNat i) (Int32.ofNat nn) = v := fun v i hi => by
    unfold own_keep; rw [if_pos (own_lt hi (by omega))]
  have h3 : j < nn := by omega
  match j, h3 with
  | 0, h3 => exact (k a 0 h3).symm
  | 1, h3 => exact (k b 1 h3).symm
  | 2, h3 => exact (k c 2 h3).symm
  | 3, h3 => exact (k d 3 h3).symm
  | j + 4, h3 => omega
theorem own_inj (a b c d e x : Int32) {nn pp : Nat} (hn : nn ≤ 4) (hp : pp < nn) : own_hash ([a, b, c, d, e].set pp x) nn = own_hash [a, b, c, d, e] nn ↔ x = [a, b, c, d, e].getD pp 0 := by
  unfold own_hash
  rw [own_fin_inj]
  exact own_fold_set own_step (fun k a b => own_step_h) (fun k a b => own_step_k) (by show pp < 5; omega) nn 0 _ (Nat.zero_le _) (by omega)
theorem ef_1 (m : MethodId) (p1 : Int32) (p2 : Int32) (p3 : Int32) : entryFrame m #[(.int p1), (.int p2), (.int p3)] 3 = (mkF m 0 #[.val (.int p1), .val (.int p2), .val (.int p3)] []) := by first | (simp [entryFrame, mkF, argsToLocals, Value.category]; done) | rfl
theorem pn_1 : plainName "com/example/frangia/frangia/analysis/WalkHashPinLaw" = true := by first | (simp [plainName, overriddenIn]; done) | decide +kernel
theorem ef_2 (m : MethodId) (a1 : Addr) (p1 : Int32) : entryFrame m #[(.ref a1), (.int p1)] 4 = (mkF m 0 #[.val (.ref a1), .val (.int p1), .unset, .unset] []) := by first | (simp [entryFrame, mkF, argsToLocals, Value.category]; done) | rfl
theorem pn_2 : plainName "com/example/frangia/frangia/analysis/LrAutomaton$Walk" = true := by first | (simp [plainName, overriddenIn]; done) | decide +kernel
theorem ef_0 (m : MethodId) (p0 : Int32) (p1 : Int32) (p2 : Int32) (p3 : Int32) (p4 : Int32) (p5 : Int32) : entryFrame m #[(.int p0), (.int p1), (.int p2), (.int p3), (.int p4), (.int p5)] maxLocals = (mkF m 0 #[.val (.int p0), .val (.int p1), .val (.int p2), .val (.int p3), .val (.int p4), .val (.int p5), .unset, .unset, .unset, .unset, .unset, .unset, .unset, .unset, .unset, .unset, .unset, .unset] []) := by first | (simp [entryFrame, mkF, argsToLocals, Value.category, maxLocals]; done) | rfl
theorem pn_0 : plainName "com/example/frangia/frangia/analysis/WalkHashPinLaw" = true := by first | (simp [plainName, overriddenIn]; done) | decide +kernel
def Q1 (Z : State) (p1 p2 p3 : Int32) (h0 : Heap) (n0 : Nat) (v : Option Value) (h : Heap) (L : List Loc) : Prop := v = some (.int (own_keep p1 p2 p3)) ∧ Fr n0 L ∧ h = h0
set_option maxRecDepth 65536 in
set_option maxHeartbeats 40000000 in
theorem rm1 (l : Launch) (Z : State) (a0 : Array Value) (hw : ∀ d ∈ tables_1, d.before a0 Z = true) (ws : List Jvm.Cond) (p1 p2 p3 : Int32) (h0 : Heap) (n0 : Nat) (Z0 : n0 ≤ h0.size) :
    MetFree l (⟨"com/example/frangia/frangia/analysis/WalkHashPinLaw", "keep", "(III)I"⟩ : MethodName) (head1 (Jvm.Cond.code (⟨"com/example/frangia/frangia/analysis/WalkHashPinLaw", "keep", "(III)I"⟩ : MethodName) method_2_code 3 (some .int) :: ws) ({ frames := 0, cells := 0, slots := 0, locals := 0 } : Room)) (fun a U => a = #[(.int p1), (.int p2), (.int p3)] ∧ Z.Warmed39 U.vm ∧ U.heap = h0) (fun _ _ _ _ _ => True) (fun _ U o U' => ∃ v L, o = .returned v ∧ Q1 Z p1 p2 p3 h0 n0 v U'.heap L ∧ FrameEnd U o U' L ({ frames := 0, cells := 0, slots := 0, locals := 0 } : Room).cells ({ frames := 0, cells := 0, slots := 0, locals := 0 } : Room).slots) := by
  refine MetFree.of_bodySF (plainFor_of_name pn_1) hisR ?_
  intro p e s m args below meth c s₁ Bd hml0 hP hK
  obtain ⟨rfl, hZ, hh⟩ := hP
  have hx := Bd.exec
  have hby := Bd.bytes
  have hml : c.maxLocals = 3 := hml0
  have hown : s.vm.findClass "com/example/frangia/frangia/analysis/WalkHashPinLaw" = some m.cls := findClass_of_methodNamed Bd.named
  have hnm := (name_of_methodNamed Bd.named Bd.method).1
  have X0 : Stand p l e ({ frames := 0, cells := 0, slots := 0, locals := 0 } : Room) s m #[(.int p1), (.int p2), (.int p3)] below meth c s₁ [] 0 0 := Stand.of_body Bd
  have e0 : s₁.heap = h0 := by rw [← hh, Bd.state]; rfl
  have N0 := Fr.nil n0
  have pre0 : ∀ t, Steps p.tables e below (s₁.setTop (mkF m 0 #[.val (.int p1), .val (.int p2), .val (.int p3)] [])) t → Steps p.tables e below (s₁.setTop (entryFrame m #[(.int p1), (.int p2), (.int p3)] 3)) t := fun t k => castTop (ef_1 m p1 p2 p3) k
  obtain ⟨b1, hm1, pre1⟩ : ∃ (b1 : Int32), (b1 = own_keep p1 p2 p3) ∧ ∀ t, Steps p.tables e below (s₁.setTop (mkF m 12 #[.val (.int p1), .val (.int p2), .val (.int p3)] [(.int b1)])) t → Steps p.tables e below (s₁.setTop (entryFrame m #[(.int p1), (.int p2), (.int p3)] 3)) t := by
    by_cases c2 : p2 < p3
    · refine ⟨(p1), (by unfold own_keep; rw [if_pos c2]), fun t k => pre0 t ?_⟩
      show Steps p.tables e below (s₁.setTop (mkF m 0 #[.val (.int p1), .val (.int p2), .val (.int p3)] [])) _
      refine XS.iloadN X0.here hx rfl (hb hby d1_0) rfl ?_
      show Steps p.tables e below (s₁.setTop (mkF m 1 #[.val (.int p1), .val (.int p2), .val (.int p3)] [(.int p2)])) _
      refine XS.iloadN X0.here hx rfl (hb hby d1_1) rfl ?_
      show Steps p.tables e below (s₁.setTop (mkF m 2 #[.val (.int p1), .val (.int p2), .val (.int p3)] [(.int p3), (.int p2)])) _
      refine XS.icmpNo X0.here hx rfl (hb hby d1_2) rfl (tlt c2).2.1 ?_
      show Steps p.tables e below (s₁.setTop (mkF m 5 #[.val (.int p1), .val (.int p2), .val (.int p3)] [])) _
      refine XS.iloadN X0.here hx rfl (hb hby d1_5) rfl ?_
      show Steps p.tables e below (s₁.setTop (mkF m 6 #[.val (.int p1), .val (.int p2), .val (.int p3)] [(.int p1)])) _
      refine XS.goto X0.here hx rfl (pc0 := 6) (pc' := 12) rfl (hb hby d1_6) (by decide) (by decide) ?_
      exact k
    · refine ⟨((p1 ^^^ (-1 : Int32))), (by unfold own_keep; rw [if_neg c2]), fun t k => pre0 t ?_⟩
      show Steps p.tables e below (s₁.setTop (mkF m 0 #[.val (.int p1), .val (.int p2), .val (.int p3)] [])) _
      refine XS.iloadN X0.here hx rfl (hb hby d1_0) rfl ?_
      show Steps p.tables e below (s₁.setTop (mkF m 1 #[.val (.int p1), .val (.int p2), .val (.int p3)] [(.int p2)])) _
      refine XS.iloadN X0.here hx rfl (hb hby d1_1) rfl ?_
      show Steps p.tables e below (s₁.setTop (mkF m 2 #[.val (.int p1), .val (.int p2), .val (.int p3)] [(.int p3), (.int p2)])) _
      refine XS.icmpYes X0.here hx rfl (pc0 := 2) (pc' := 9) rfl (hb hby d1_2) rfl (flt c2).2.1 (by decide) (by decide) ?_
      show Steps p.tables e below (s₁.setTop (mkF m 9 #[.val (.int p1), .val (.int p2), .val (.int p3)] [])) _
      refine XS.iloadN X0.here hx rfl (hb hby d1_9) rfl ?_
      show Steps p.tables e below (s₁.setTop (mkF m 10 #[.val (.int p1), .val (.int p2), .val (.int p3)] [(.int p1)])) _
      refine XS.iconst X0.here hx rfl (hb hby d1_10) ?_
      show Steps p.tables e below (s₁.setTop (mkF m 11 #[.val (.int p1), .val (.int p2), .val (.int p3)] [(.int (-1 : Int32)), (.int p1)])) _
      refine XS.ixor X0.here hx rfl (hb hby d1_11) rfl ?_
      exact k
  subst hm1
  obtain ⟨fs, hr, hrun, hended, hW, hsame⟩ := X0.leave (v := some (.int (own_keep p1 p2 p3))) (fun h => by rw [Bd.returns] at h; cases h)
  refine ⟨_, _, pre1 _ ?_, hrun, hended, _, _, rfl, ?_, ⟨_, rfl⟩, hW, hsame.mono (by decide) (by decide)⟩
  · show Steps p.tables e below (s₁.setTop (mkF m 12 #[.val (.int p1), .val (.int p2), .val (.int p3)] [(.int (own_keep p1 p2 p3))])) _
    exact retI X0 hx Bd.returns (hb hby d1_12) hr
  · show Q1 Z p1 p2 p3 h0 n0 _ s₁.heap _
    rw [e0]
    exact ⟨rfl, N0, rfl⟩
def Q2 (Z : State) (a1 : Addr) (p1 : Int32) (nn : Nat) (vs : List Int32) (kk : ClassId) (h0 : Heap) (n0 : Nat) (v : Option Value) (h : Heap) (L : List Loc) : Prop := v = some (.int (own_hash vs nn)) ∧ Fr n0 L ∧ h = h0
set_option maxRecDepth 65536 in
set_option maxHeartbeats 40000000 in
theorem rm2 (l : Launch) (Z : State) (a0 : Array Value) (hw : ∀ d ∈ tables_1, d.before a0 Z = true) (ws : List Jvm.Cond) (a1 : Addr) (p1 : Int32) (nn : Nat) (vs : List Int32) (kk : ClassId) (h0 : Heap) (n0 : Nat) (Z0 : n0 ≤ h0.size) (hp : p1 = Int32.ofNat nn) (hn : nn ≤ 4) (V1 : Arv Z h0 a1 kk .int (5 : Int32) (vs.map Value.int) (.int (0 : Int32))) (hv : vs.length = 5) :
    MetFree l (⟨"com/example/frangia/frangia/analysis/LrAutomaton$Walk", "hash", "([II)I"⟩ : MethodName) (head1 (Jvm.Cond.code (⟨"com/example/frangia/frangia/analysis/LrAutomaton$Walk", "hash", "([II)I"⟩ : MethodName) prog_17_method_6_code 4 (some .int) :: ws) ({ frames := 0, cells := 0, slots := 0, locals := 0 } : Room)) (fun a U => a = #[(.ref a1), (.int p1)] ∧ Z.Warmed39 U.vm ∧ U.heap = h0) (fun _ _ _ _ _ => True) (fun _ U o U' => ∃ v L, o = .returned v ∧ Q2 Z a1 p1 nn vs kk h0 n0 v U'.heap L ∧ FrameEnd U o U' L ({ frames := 0, cells := 0, slots := 0, locals := 0 } : Room).cells ({ frames := 0, cells := 0, slots := 0, locals := 0 } : Room).slots) := by
  refine MetFree.of_bodySF (plainFor_of_name pn_2) hisR ?_
  intro p e s m args below meth c s₁ Bd hml0 hP hK
  obtain ⟨rfl, hZ, hh⟩ := hP
  have hx := Bd.exec
  have hby := Bd.bytes
  have hml : c.maxLocals = 4 := hml0
  have hown : s.vm.findClass "com/example/frangia/frangia/analysis/LrAutomaton$Walk" = some m.cls := findClass_of_methodNamed Bd.named
  have hnm := (name_of_methodNamed Bd.named Bd.method).1
  have X0 : Stand p l e ({ frames := 0, cells := 0, slots := 0, locals := 0 } : Room) s m #[(.ref a1), (.int p1)] below meth c s₁ [] 0 0 := Stand.of_body Bd
  have e0 : s₁.heap = h0 := by rw [← hh, Bd.state]; rfl
  have N0 := Fr.nil n0
  have pre0 : ∀ t, Steps p.tables e below (s₁.setTop (mkF m 0 #[.val (.ref a1), .val (.int p1), .unset, .unset] [])) t → Steps p.tables e below (s₁.setTop (entryFrame m #[(.ref a1), (.int p1)] 4)) t := fun t k => castTop (ef_2 m a1 p1) k
  have pre1 : ∀ t, Steps p.tables e below (s₁.setTop (mkF m 4 #[.val (.ref a1), .val (.int p1), .val (.int p1), .val (.int (0 : Int32))] [])) t → Steps p.tables e below (s₁.setTop (entryFrame m #[(.ref a1), (.int p1)] 4)) t := by
    intro t k
    refine pre0 t ?_
    show Steps p.tables e below (s₁.setTop (mkF m 0 #[.val (.ref a1), .val (.int p1), .unset, .unset] [])) _
    refine XS.iloadN X0.here hx rfl (hb hby d2_0) rfl ?_
    show Steps p.tables e below (s₁.setTop (mkF m 1 #[.val (.ref a1), .val (.int p1), .unset, .unset] [(.int p1)])) _
    refine XS.istoreN X0.here hx rfl (hb hby d2_1) rfl (l' := #[.val (.ref a1), .val (.int p1), .val (.int p1), .unset]) rfl ?_
    show Steps p.tables e below (s₁.setTop (mkF m 2 #[.val (.ref a1), .val (.int p1), .val (.int p1), .unset] [])) _
    refine XS.iconst X0.here hx rfl (hb hby d2_2) ?_
    show Steps p.tables e below (s₁.setTop (mkF m 3 #[.val (.ref a1), .val (.int p1), .val (.int p1), .unset] [(.int (0 : Int32))])) _
    refine XS.istoreN X0.here hx rfl (hb hby d2_3) rfl (l' := #[.val (.ref a1), .val (.int p1), .val (.int p1), .val (.int (0 : Int32))]) rfl ?_
    exact k
  obtain ⟨cl, Ar, -, Sz, -, Hs, -⟩ := V1
  have loop : ∀ (k i : Nat) (hh : Int32), i + k = nn → ∀ t, Steps p.tables e below (s₁.setTop (mkF m 31 #[.val (.ref a1), .val (.int p1), .val (.int (own_foldg own_step vs k i hh)), .val (.int (Int32.ofNat nn))] [])) t → Steps p.tables e below (s₁.setTop (mkF m 4 #[.val (.ref a1), .val (.int p1), .val (.int hh), .val (.int (Int32.ofNat i))] [])) t := by
    intro k
    induction k with
    | zero =>
      intro i hh hik t k0
      obtain rfl : i = nn := by omega
      have hc : ¬ (Int32.ofNat i < p1) := by rw [hp]; exact own_irr _
      rw [own_fz] at k0
      show Steps p.tables e below (s₁.setTop (mkF m 4 #[.val (.ref a1), .val (.int p1), .val (.int hh), .val (.int (Int32.ofNat i))] [])) _
      refine XS.iloadN X0.here hx rfl (hb hby d2_4) rfl ?_
      show Steps p.tables e below (s₁.setTop (mkF m 5 #[.val (.ref a1), .val (.int p1), .val (.int hh), .val (.int (Int32.ofNat i))] [(.int (Int32.ofNat i))])) _
      refine XS.iloadN X0.here hx rfl (hb hby d2_5) rfl ?_
      show Steps p.tables e below (s₁.setTop (mkF m 6 #[.val (.ref a1), .val (.int p1), .val (.int hh), .val (.int (Int32.ofNat i))] [(.int p1), (.int (Int32.ofNat i))])) _
      refine XS.icmpYes X0.here hx rfl (pc0 := 6) (pc' := 31) rfl (hb hby d2_6) rfl (flt hc).2.1 (by decide) (by decide) ?_
      exact k0
    | succ k ih =>
      intro i hh hik t k0
      have hc : Int32.ofNat i < p1 := by rw [hp]; exact own_lt (by omega) (by omega)
      have hin : ¬ (Int32.ofNat i < 0 ∨ cl.slots.size ≤ (Int32.ofNat i).toNatClampNeg) := inb_of Sz ⟨own_nn (by omega), own_lt (n := 5) (by omega) (by omega)⟩
      have hat : cl.slots[(Int32.ofNat i).toNatClampNeg]? = some (.int (vs.getD i 0)) := Hs.at hin (by
        rw [own_n32 (by omega)]
        simp only [List.getD_eq_getElem?_getD, List.getElem?_map]
        rw [List.getElem?_eq_getElem (by omega)]
        rfl)
      show Steps p.tables e below (s₁.setTop (mkF m 4 #[.val (.ref a1), .val (.int p1), .val (.int hh), .val (.int (Int32.ofNat i))] [])) _
      refine XS.iloadN X0.here hx rfl (hb hby d2_4) rfl ?_
      show Steps p.tables e below (s₁.setTop (mkF m 5 #[.val (.ref a1), .val (.int p1), .val (.int hh), .val (.int (Int32.ofNat i))] [(.int (Int32.ofNat i))])) _
      refine XS.iloadN X0.here hx rfl (hb hby d2_5) rfl ?_
      show Steps p.tables e below (s₁.setTop (mkF m 6 #[.val (.ref a1), .val (.int p1), .val (.int hh), .val (.int (Int32.ofNat i))] [(.int p1), (.int (Int32.ofNat i))])) _
      refine XS.icmpNo X0.here hx rfl (hb hby d2_6) rfl (tlt hc).2.1 ?_
      show Steps p.tables e below (s₁.setTop (mkF m 9 #[.val (.ref a1), .val (.int p1), .val (.int hh), .val (.int (Int32.ofNat i))] [])) _
      refine XS.iloadN X0.here hx rfl (hb hby d2_9) rfl ?_
      show Steps p.tables e below (s₁.setTop (mkF m 10 #[.val (.ref a1), .val (.int p1), .val (.int hh), .val (.int (Int32.ofNat i))] [(.int hh)])) _
      refine XS.aloadN X0.here hx rfl (hb hby d2_10) rfl rfl ?_
      show Steps p.tables e below (s₁.setTop (mkF m 11 #[.val (.ref a1), .val (.int p1), .val (.int hh), .val (.int (Int32.ofNat i))] [(.ref a1), (.int hh)])) _
      refine XS.iloadN X0.here hx rfl (hb hby d2_11) rfl ?_
      show Steps p.tables e below (s₁.setTop (mkF m 12 #[.val (.ref a1), .val (.int p1), .val (.int hh), .val (.int (Int32.ofNat i))] [(.int (Int32.ofNat i)), (.ref a1), (.int hh)])) _
      refine X0.iaload hx (j := (Int32.ofNat i)) (v := (.int (vs.getD i 0))) (by rw [e0]; exact Ar.1) (State.isArrayOf_alike hZ.alike Ar.2.1) Ar.2.2 hin hat (g := (mkF m 12 #[.val (.ref a1), .val (.int p1), .val (.int hh), .val (.int (Int32.ofNat i))] [(.int (Int32.ofNat i)), (.ref a1), (.int hh)])) rfl rfl (hb hby d2_12) _ ?_
      show Steps p.tables e below (s₁.setTop (mkF m 13 #[.val (.ref a1), .val (.int p1), .val (.int hh), .val (.int (Int32.ofNat i))] [(.int (vs.getD i 0)), (.int hh)])) _
      refine XS.iadd X0.here hx rfl (hb hby d2_13) rfl ?_
      show Steps p.tables e below (s₁.setTop (mkF m 14 #[.val (.ref a1), .val (.int p1), .val (.int hh), .val (.int (Int32.ofNat i))] [(.int (hh + (vs.getD i 0)))])) _
      refine X0.ldcInt hx hown (mvT hZ (hw _ (List.mem_of_getElem? (i := 9) rfl))) (g := (mkF m 14 #[.val (.ref a1), .val (.int p1), .val (.int hh), .val (.int (Int32.ofNat i))] [(.int (hh + (vs.getD i 0)))])) rfl (hb hby d2_14) _ ?_
      show Steps p.tables e below (s₁.setTop (mkF m 16 #[.val (.ref a1), .val (.int p1), .val (.int hh), .val (.int (Int32.ofNat i))] [(.int (-1640531527 : Int32)), (.int (hh + (vs.getD i 0)))])) _
      refine XS.imul X0.here hx rfl (hb hby d2_16) rfl ?_
      show Steps p.tables e below (s₁.setTop (mkF m 17 #[.val (.ref a1), .val (.int p1), .val (.int hh), .val (.int (Int32.ofNat i))] [(.int ((hh + (vs.getD i 0)) * (-1640531527 : Int32)))])) _
      refine XS.istoreN X0.here hx rfl (hb hby d2_17) rfl (l' := #[.val (.ref a1), .val (.int p1), .val (.int ((hh + (vs.getD i 0)) * (-1640531527 : Int32))), .val (.int (Int32.ofNat i))]) rfl ?_
      show Steps p.tables e below (s₁.setTop (mkF m 18 #[.val (.ref a1), .val (.int p1), .val (.int ((hh + (vs.getD i 0)) * (-1640531527 : Int32))), .val (.int (Int32.ofNat i))] [])) _
      refine XS.iloadN X0.here hx rfl (hb hby d2_18) rfl ?_
      show Steps p.tables e below (s₁.setTop (mkF m 19 #[.val (.ref a1), .val (.int p1), .val (.int ((hh + (vs.getD i 0)) * (-1640531527 : Int32))), .val (.int (Int32.ofNat i))] [(.int ((hh + (vs.getD i 0)) * (-1640531527 : Int32)))])) _
      refine XS.iloadN X0.here hx rfl (hb hby d2_19) rfl ?_
      show Steps p.tables e below (s₁.setTop (mkF m 20 #[.val (.ref a1), .val (.int p1), .val (.int ((hh + (vs.getD i 0)) * (-1640531527 : Int32))), .val (.int (Int32.ofNat i))] [(.int ((hh + (vs.getD i 0)) * (-1640531527 : Int32))), (.int ((hh + (vs.getD i 0)) * (-1640531527 : Int32)))])) _
      refine XS.bipush X0.here hx rfl (hb hby d2_20) ?_
      show Steps p.tables e below (s₁.setTop (mkF m 22 #[.val (.ref a1), .val (.int p1), .val (.int ((hh + (vs.getD i 0)) * (-1640531527 : Int32))), .val (.int (Int32.ofNat i))] [(.int (16 : Int32)), (.int ((hh + (vs.getD i 0)) * (-1640531527 : Int32))), (.int ((hh + (vs.getD i 0)) * (-1640531527 : Int32)))])) _
      refine XS.iushr X0.here hx rfl (hb hby d2_22) rfl ?_
      show Steps p.tables e below (s₁.setTop (mkF m 23 #[.val (.ref a1), .val (.int p1), .val (.int ((hh + (vs.getD i 0)) * (-1640531527 : Int32))), .val (.int (Int32.ofNat i))] [(.int ((((hh + (vs.getD i 0)) * (-1640531527 : Int32)).toUInt32 >>> ((16 : Int32) &&& 31).toUInt32).toInt32)), (.int ((hh + (vs.getD i 0)) * (-1640531527 : Int32)))])) _
      refine XS.ixor X0.here hx rfl (hb hby d2_23) rfl ?_
      show Steps p.tables e below (s₁.setTop (mkF m 24 #[.val (.ref a1), .val (.int p1), .val (.int ((hh + (vs.getD i 0)) * (-1640531527 : Int32))), .val (.int (Int32.ofNat i))] [(.int (((hh + (vs.getD i 0)) * (-1640531527 : Int32)) ^^^ ((((hh + (vs.getD i 0)) * (-1640531527 : Int32)).toUInt32 >>> ((16 : Int32) &&& 31).toUInt32).toInt32)))])) _
      refine XS.istoreN X0.here hx rfl (hb hby d2_24) rfl (l' := #[.val (.ref a1), .val (.int p1), .val (.int (((hh + (vs.getD i 0)) * (-1640531527 : Int32)) ^^^ ((((hh + (vs.getD i 0)) * (-1640531527 : Int32)).toUInt32 >>> ((16 : Int32) &&& 31).toUInt32).toInt32))), .val (.int (Int32.ofNat i))]) rfl ?_
      show Steps p.tables e below (s₁.setTop (mkF m 25 #[.val (.ref a1), .val (.int p1), .val (.int (((hh + (vs.getD i 0)) * (-1640531527 : Int32)) ^^^ ((((hh + (vs.getD i 0)) * (-1640531527 : Int32)).toUInt32 >>> ((16 : Int32) &&& 31).toUInt32).toInt32))), .val (.int (Int32.ofNat i))] [])) _
      refine XS.iinc X0.here hx rfl (hb hby d2_25) rfl (l' := #[.val (.ref a1), .val (.int p1), .val (.int (((hh + (vs.getD i 0)) * (-1640531527 : Int32)) ^^^ ((((hh + (vs.getD i 0)) * (-1640531527 : Int32)).toUInt32 >>> ((16 : Int32) &&& 31).toUInt32).toInt32))), .val (.int ((Int32.ofNat i) + (1 : Int32)))]) rfl ?_
      show Steps p.tables e below (s₁.setTop (mkF m 28 #[.val (.ref a1), .val (.int p1), .val (.int (((hh + (vs.getD i 0)) * (-1640531527 : Int32)) ^^^ ((((hh + (vs.getD i 0)) * (-1640531527 : Int32)).toUInt32 >>> ((16 : Int32) &&& 31).toUInt32).toInt32))), .val (.int ((Int32.ofNat i) + (1 : Int32)))] [])) _
      refine XS.goto X0.here hx rfl (pc0 := 28) (pc' := 4) rfl (hb hby d2_28) (by decide) (by decide) ?_
      show Steps p.tables e below (s₁.setTop (mkF m 4 #[.val (.ref a1), .val (.int p1), .val (.int (own_step hh (vs.getD i 0))), .val (.int (Int32.ofNat i + (1 : Int32)))] [])) _
      rw [own_one]
      rw [own_fs] at k0
      exact ih (i + 1) _ (by omega) t k0
  have pre2 : ∀ t, Steps p.tables e below (s₁.setTop (mkF m 31 #[.val (.ref a1), .val (.int p1), .val (.int (own_foldg own_step vs nn 0 p1)), .val (.int (Int32.ofNat nn))] [])) t → Steps p.tables e below (s₁.setTop (entryFrame m #[(.ref a1), (.int p1)] 4)) t := fun t k => pre1 t (loop nn 0 p1 (Nat.zero_add nn) t k)
  obtain ⟨fs, hr, hrun, hended, hW, hsame⟩ := X0.leave (v := some (.int (((own_foldg own_step vs nn 0 p1) * (-2048144789 : Int32)) ^^^ ((((own_foldg own_step vs nn 0 p1) * (-2048144789 : Int32)).toUInt32 >>> ((13 : Int32) &&& 31).toUInt32).toInt32)))) (fun h => by rw [Bd.returns] at h; cases h)
  refine ⟨_, _, pre2 _ ?_, hrun, hended, _, _, rfl, ?_, ⟨_, rfl⟩, hW, hsame.mono (by decide) (by decide)⟩
  · show Steps p.tables e below (s₁.setTop (mkF m 31 #[.val (.ref a1), .val (.int p1), .val (.int (own_foldg own_step vs nn 0 p1)), .val (.int (Int32.ofNat nn))] [])) _
    refine XS.iloadN X0.here hx rfl (hb hby d2_31) rfl ?_
    show Steps p.tables e below (s₁.setTop (mkF m 32 #[.val (.ref a1), .val (.int p1), .val (.int (own_foldg own_step vs nn 0 p1)), .val (.int (Int32.ofNat nn))] [(.int (own_foldg own_step vs nn 0 p1))])) _
    refine X0.ldcInt hx hown (mvT hZ (hw _ (List.mem_of_getElem? (i := 10) rfl))) (g := (mkF m 32 #[.val (.ref a1), .val (.int p1), .val (.int (own_foldg own_step vs nn 0 p1)), .val (.int (Int32.ofNat nn))] [(.int (own_foldg own_step vs nn 0 p1))])) rfl (hb hby d2_32) _ ?_
    show Steps p.tables e below (s₁.setTop (mkF m 34 #[.val (.ref a1), .val (.int p1), .val (.int (own_foldg own_step vs nn 0 p1)), .val (.int (Int32.ofNat nn))] [(.int (-2048144789 : Int32)), (.int (own_foldg own_step vs nn 0 p1))])) _
    refine XS.imul X0.here hx rfl (hb hby d2_34) rfl ?_
    show Steps p.tables e below (s₁.setTop (mkF m 35 #[.val (.ref a1), .val (.int p1), .val (.int (own_foldg own_step vs nn 0 p1)), .val (.int (Int32.ofNat nn))] [(.int ((own_foldg own_step vs nn 0 p1) * (-2048144789 : Int32)))])) _
    refine XS.istoreN X0.here hx rfl (hb hby d2_35) rfl (l' := #[.val (.ref a1), .val (.int p1), .val (.int ((own_foldg own_step vs nn 0 p1) * (-2048144789 : Int32))), .val (.int (Int32.ofNat nn))]) rfl ?_
    show Steps p.tables e below (s₁.setTop (mkF m 36 #[.val (.ref a1), .val (.int p1), .val (.int ((own_foldg own_step vs nn 0 p1) * (-2048144789 : Int32))), .val (.int (Int32.ofNat nn))] [])) _
    refine XS.iloadN X0.here hx rfl (hb hby d2_36) rfl ?_
    show Steps p.tables e below (s₁.setTop (mkF m 37 #[.val (.ref a1), .val (.int p1), .val (.int ((own_foldg own_step vs nn 0 p1) * (-2048144789 : Int32))), .val (.int (Int32.ofNat nn))] [(.int ((own_foldg own_step vs nn 0 p1) * (-2048144789 : Int32)))])) _
    refine XS.iloadN X0.here hx rfl (hb hby d2_37) rfl ?_
    show Steps p.tables e below (s₁.setTop (mkF m 38 #[.val (.ref a1), .val (.int p1), .val (.int ((own_foldg own_step vs nn 0 p1) * (-2048144789 : Int32))), .val (.int (Int32.ofNat nn))] [(.int ((own_foldg own_step vs nn 0 p1) * (-2048144789 : Int32))), (.int ((own_foldg own_step vs nn 0 p1) * (-2048144789 : Int32)))])) _
    refine XS.bipush X0.here hx rfl (hb hby d2_38) ?_
    show Steps p.tables e below (s₁.setTop (mkF m 40 #[.val (.ref a1), .val (.int p1), .val (.int ((own_foldg own_step vs nn 0 p1) * (-2048144789 : Int32))), .val (.int (Int32.ofNat nn))] [(.int (13 : Int32)), (.int ((own_foldg own_step vs nn 0 p1) * (-2048144789 : Int32))), (.int ((own_foldg own_step vs nn 0 p1) * (-2048144789 : Int32)))])) _
    refine XS.iushr X0.here hx rfl (hb hby d2_40) rfl ?_
    show Steps p.tables e below (s₁.setTop (mkF m 41 #[.val (.ref a1), .val (.int p1), .val (.int ((own_foldg own_step vs nn 0 p1) * (-2048144789 : Int32))), .val (.int (Int32.ofNat nn))] [(.int ((((own_foldg own_step vs nn 0 p1) * (-2048144789 : Int32)).toUInt32 >>> ((13 : Int32) &&& 31).toUInt32).toInt32)), (.int ((own_foldg own_step vs nn 0 p1) * (-2048144789 : Int32)))])) _
    refine XS.ixor X0.here hx rfl (hb hby d2_41) rfl ?_
    show Steps p.tables e below (s₁.setTop (mkF m 42 #[.val (.ref a1), .val (.int p1), .val (.int ((own_foldg own_step vs nn 0 p1) * (-2048144789 : Int32))), .val (.int (Int32.ofNat nn))] [(.int (((own_foldg own_step vs nn 0 p1) * (-2048144789 : Int32)) ^^^ ((((own_foldg own_step vs nn 0 p1) * (-2048144789 : Int32)).toUInt32 >>> ((13 : Int32) &&& 31).toUInt32).toInt32)))])) _
    exact retI X0 hx Bd.returns (hb hby d2_42) hr
  · show Q2 Z a1 p1 nn vs kk h0 n0 _ s₁.heap _
    rw [e0]
    exact ⟨by unfold own_hash; rw [← hp]; rfl, N0, rfl⟩
def Q0 (Z : State) (p0 p1 p2 p3 p4 p5 : Int32) (h0 : Heap) (n0 : Nat) (v : Option Value) (h : Heap) (L : List Loc) : Prop := v = some (.int 1) ∧ Fr n0 L
set_option maxRecDepth 65536 in
set_option maxHeartbeats 40000000 in
theorem rm0 (l : Launch) (Z : State) (a0 : Array Value) (hw : ∀ d ∈ tables_1, d.before a0 Z = true) (ws : List Jvm.Cond) (p0 p1 p2 p3 p4 p5 : Int32) (h0 : Heap) (n0 : Nat) (Z0 : n0 ≤ h0.size) :
    MetFree l x (head1 (Jvm.Cond.code x code maxLocals ret :: ws) room_1) (fun a U => a = #[(.int p0), (.int p1), (.int p2), (.int p3), (.int p4), (.int p5)] ∧ Z.Warmed39 U.vm ∧ U.heap = h0) (fun _ _ _ _ _ => True) (fun _ U o U' => ∃ v L, o = .returned v ∧ Q0 Z p0 p1 p2 p3 p4 p5 h0 n0 v U'.heap L ∧ FrameEnd U o U' L room_1.cells room_1.slots) := by
  refine MetFree.of_bodySF (plainFor_of_name pn_0) hisR ?_
  intro p e s m args below meth c s₁ Bd hml0 hP hK
  obtain ⟨rfl, hZ, hh⟩ := hP
  have hx := Bd.exec
  have hby := Bd.bytes
  have hml : c.maxLocals = 18 := hml0
  have hown : s.vm.findClass "com/example/frangia/frangia/analysis/WalkHashPinLaw" = some m.cls := findClass_of_methodNamed Bd.named
  have hnm := (name_of_methodNamed Bd.named Bd.method).1
  have X0 : Stand p l e room_1 s m #[(.int p0), (.int p1), (.int p2), (.int p3), (.int p4), (.int p5)] below meth c s₁ [] 0 0 := Stand.of_body Bd
  have e0 : s₁.heap = h0 := by rw [← hh, Bd.state]; rfl
  have N0 := Fr.nil n0
  have pre0 : ∀ t, Steps p.tables e below (s₁.setTop (mkF m 0 #[.val (.int p0), .val (.int p1), .val (.int p2), .val (.int p3), .val (.int p4), .val (.int p5), .unset, .unset, .unset, .unset, .unset, .unset, .unset, .unset, .unset, .unset, .unset, .unset] [])) t → Steps p.tables e below (s₁.setTop (entryFrame m #[(.int p0), (.int p1), (.int p2), (.int p3), (.int p4), (.int p5)] maxLocals)) t := fun t k => castTop (ef_0 m p0 p1 p2 p3 p4 p5) k
  have pre1 : ∀ t, Steps p.tables e below (s₁.setTop (mkF m 9 #[.val (.int p0), .val (.int p1), .val (.int p2), .val (.int p3), .val (.int p4), .val (.int p5), .val (.int ((p5 &&& (7 : Int32)) % (5 : Int32))), .unset, .unset, .unset, .unset, .unset, .unset, .unset, .unset, .unset, .unset, .unset] [])) t → Steps p.tables e below (s₁.setTop (entryFrame m #[(.int p0), (.int p1), (.int p2), (.int p3), (.int p4), (.int p5)] maxLocals)) t := by
    intro t k
    refine pre0 t ?_
    show Steps p.tables e below (s₁.setTop (mkF m 0 #[.val (.int p0), .val (.int p1), .val (.int p2), .val (.int p3), .val (.int p4), .val (.int p5), .unset, .unset, .unset, .unset, .unset, .unset, .unset, .unset, .unset, .unset, .unset, .unset] [])) _
    refine XS.iload X0.here hx rfl (hb hby at_0) rfl ?_
    show Steps p.tables e below (s₁.setTop (mkF m 2 #[.val (.int p0), .val (.int p1), .val (.int p2), .val (.int p3), .val (.int p4), .val (.int p5), .unset, .unset, .unset, .unset, .unset, .unset, .unset, .unset, .unset, .unset, .unset, .unset] [(.int p5)])) _
    refine XS.bipush X0.here hx rfl (hb hby at_2) ?_
    show Steps p.tables e below (s₁.setTop (mkF m 4 #[.val (.int p0), .val (.int p1), .val (.int p2), .val (.int p3), .val (.int p4), .val (.int p5), .unset, .unset, .unset, .unset, .unset, .unset, .unset, .unset, .unset, .unset, .unset, .unset] [(.int (7 : Int32)), (.int p5)])) _
    refine XS.iand X0.here hx rfl (hb hby at_4) rfl ?_
    show Steps p.tables e below (s₁.setTop (mkF m 5 #[.val (.int p0), .val (.int p1), .val (.int p2), .val (.int p3), .val (.int p4), .val (.int p5), .unset, .unset, .unset, .unset, .unset, .unset, .unset, .unset, .unset, .unset, .unset, .unset] [(.int (p5 &&& (7 : Int32)))])) _
    refine XS.iconst X0.here hx rfl (hb hby at_5) ?_
    show Steps p.tables e below (s₁.setTop (mkF m 6 #[.val (.int p0), .val (.int p1), .val (.int p2), .val (.int p3), .val (.int p4), .val (.int p5), .unset, .unset, .unset, .unset, .unset, .unset, .unset, .unset, .unset, .unset, .unset, .unset] [(.int (5 : Int32)), (.int (p5 &&& (7 : Int32)))])) _
    refine iremM X0 hx rfl (hb hby at_6) rfl (by decide) ?_
    show Steps p.tables e below (s₁.setTop (mkF m 7 #[.val (.int p0), .val (.int p1), .val (.int p2), .val (.int p3), .val (.int p4), .val (.int p5), .unset, .unset, .unset, .unset, .unset, .unset, .unset, .unset, .unset, .unset, .unset, .unset] [(.int ((p5 &&& (7 : Int32)) % (5 : Int32)))])) _
    refine XS.istore X0.here hx rfl (hb hby at_7) rfl (l' := #[.val (.int p0), .val (.int p1), .val (.int p2), .val (.int p3), .val (.int p4), .val (.int p5), .val (.int ((p5 &&& (7 : Int32)) % (5 : Int32))), .unset, .unset, .unset, .unset, .unset, .unset, .unset, .unset, .unset, .unset, .unset]) rfl ?_
    exact k
  obtain ⟨nn, hnn, en⟩ := own_n p5
  rw [en] at pre1
  obtain ⟨n6, en6⟩ : ∃ z, z = Int32.ofNat nn := ⟨_, rfl⟩
  rw [← en6] at pre1
  obtain ⟨T1, h1, k1, X1, e1, E1, A1, st1⟩ := newP X0 hx hZ (hw _ (List.mem_of_getElem? (i := 0) rfl)) e0 (g := (mkF m 16 #[.val (.int p0), .val (.int p1), .val (.int p2), .val (.int p3), .val (.int p4), .val (.int p5), .val (.int n6), .val (.int (p1 ^^^ p4)), .unset, .unset, .unset, .unset, .unset, .unset, .unset, .unset, .unset, .unset] [(.int (5 : Int32))])) rfl (hb hby at_16) rfl (by decide) (cap := 5) (by decide) (by decide) (by decide) (by decide)
  obtain ⟨b1, g1⟩ : ∃ z, z = h0.size := ⟨_, rfl⟩
  rw [← g1] at A1 st1
  have g_b1 : n0 ≤ b1 := Nat.le_trans Z0 (Nat.le_of_eq g1.symm)
  have Zs2 := Nat.le_trans Z0 E1.1
  have V_b1 : Arv Z h1 b1 k1 .int (5 : Int32) [(.int (0 : Int32)), (.int (0 : Int32)), (.int (0 : Int32)), (.int (0 : Int32)), (.int (0 : Int32))] (.int (0 : Int32)) := (Arv.new A1 (by decide)).pad (pad_rep [] (.int (0 : Int32)) 5)
  obtain ⟨cl3, Ar3, q3, S3, N3m, H3, G3⟩ := id V_b1
  have hin3 : ¬ ((0 : Int32) < 0 ∨ cl3.slots.size ≤ ((0 : Int32)).toNatClampNeg) := inb_of S3 ⟨by decide, by decide⟩
  obtain ⟨T3, h3, X3, e3, W3, st3⟩ := stI X1 hx hZ e1 Ar3 (j := (0 : Int32)) hin3 (g := (mkF m 21 #[.val (.int p0), .val (.int p1), .val (.int p2), .val (.int p3), .val (.int p4), .val (.int p5), .val (.int n6), .val (.int (p1 ^^^ p4)), .unset, .unset, .unset, .unset, .unset, .unset, .unset, .unset, .unset, .unset] [(.int p0), (.int (0 : Int32)), (.ref b1), (.ref b1)])) rfl rfl (hb hby at_21)
  have V3_b1 : Arv Z h3 b1 k1 .int (5 : Int32) [(.int p0), (.int (0 : Int32)), (.int (0 : Int32)), (.int (0 : Int32)), (.int (0 : Int32))] (.int (0 : Int32)) := Arv.set Ar3 q3 S3 N3m H3 G3 rfl W3 0 rfl (Nat.le_of_ble_eq_true rfl)
  have Zs4 := Nat.le_trans Zs2 (Keep.of_wr W3).1
  have N3 := Fr.snoc X3 N0 g_b1
  obtain ⟨cl5, Ar5, q5, S5, N5m, H5, G5⟩ := id V3_b1
  have hin5 : ¬ ((1 : Int32) < 0 ∨ cl5.slots.size ≤ ((1 : Int32)).toNatClampNeg) := inb_of S5 ⟨by decide, by decide⟩
  obtain ⟨T5, h5, X5, e5, W5, st5⟩ := stI X3 hx hZ e3 Ar5 (j := (1 : Int32)) hin5 (g := (mkF m 25 #[.val (.int p0), .val (.int p1), .val (.int p2), .val (.int p3), .val (.int p4), .val (.int p5), .val (.int n6), .val (.int (p1 ^^^ p4)), .unset, .unset, .unset, .unset, .unset, .unset, .unset, .unset, .unset, .unset] [(.int p1), (.int (1 : Int32)), (.ref b1), (.ref b1)])) rfl rfl (hb hby at_25)
  have V5_b1 : Arv Z h5 b1 k1 .int (5 : Int32) [(.int p0), (.int p1), (.int (0 : Int32)), (.int (0 : Int32)), (.int (0 : Int32))] (.int (0 : Int32)) := Arv.set Ar5 q5 S5 N5m H5 G5 rfl W5 1 rfl (Nat.le_of_ble_eq_true rfl)
  have Zs6 := Nat.le_trans Zs4 (Keep.of_wr W5).1
  have N5 := Fr.snoc X5 N3 g_b1
  obtain ⟨cl7, Ar7, q7, S7, N7m, H7, G7⟩ := id V5_b1
  have hin7 : ¬ ((2 : Int32) < 0 ∨ cl7.slots.size ≤ ((2 : Int32)).toNatClampNeg) := inb_of S7 ⟨by decide, by decide⟩
  obtain ⟨T7, h7, X7, e7, W7, st7⟩ := stI X5 hx hZ e5 Ar7 (j := (2 : Int32)) hin7 (g := (mkF m 29 #[.val (.int p0), .val (.int p1), .val (.int p2), .val (.int p3), .val (.int p4), .val (.int p5), .val (.int n6), .val (.int (p1 ^^^ p4)), .unset, .unset, .unset, .unset, .unset, .unset, .unset, .unset, .unset, .unset] [(.int p2), (.int (2 : Int32)), (.ref b1), (.ref b1)])) rfl rfl (hb hby at_29)
  have V7_b1 : Arv Z h7 b1 k1 .int (5 : Int32) [(.int p0), (.int p1), (.int p2), (.int (0 : Int32)), (.int (0 : Int32))] (.int (0 : Int32)) := Arv.set Ar7 q7 S7 N7m H7 G7 rfl W7 2 rfl (Nat.le_of_ble_eq_true rfl)
  have Zs8 := Nat.le_trans Zs6 (Keep.of_wr W7).1
  have N7 := Fr.snoc X7 N5 g_b1
  obtain ⟨cl9, Ar9, q9, S9, N9m, H9, G9⟩ := id V7_b1
  have hin9 : ¬ ((3 : Int32) < 0 ∨ cl9.slots.size ≤ ((3 : Int32)).toNatClampNeg) := inb_of S9 ⟨by decide, by decide⟩
  obtain ⟨T9, h9, X9, e9, W9, st9⟩ := stI X7 hx hZ e7 Ar9 (j := (3 : Int32)) hin9 (g := (mkF m 33 #[.val (.int p0), .val (.int p1), .val (.int p2), .val (.int p3), .val (.int p4), .val (.int p5), .val (.int n6), .val (.int (p1 ^^^ p4)), .unset, .unset, .unset, .unset, .unset, .unset, .unset, .unset, .unset, .unset] [(.int p3), (.int (3 : Int32)), (.ref b1), (.ref b1)])) rfl rfl (hb hby at_33)
  have V9_b1 : Arv Z h9 b1 k1 .int (5 : Int32) [(.int p0), (.int p1), (.int p2), (.int p3), (.int (0 : Int32))] (.int (0 : Int32)) := Arv.set Ar9 q9 S9 N9m H9 G9 rfl W9 3 rfl (Nat.le_of_ble_eq_true rfl)
  have Zs10 := Nat.le_trans Zs8 (Keep.of_wr W9).1
  have N9 := Fr.snoc X9 N7 g_b1
  obtain ⟨cl11, Ar11, q11, S11, N11m, H11, G11⟩ := id V9_b1
  have hin11 : ¬ ((4 : Int32) < 0 ∨ cl11.slots.size ≤ ((4 : Int32)).toNatClampNeg) := inb_of S11 ⟨by decide, by decide⟩
  obtain ⟨T11, h11, X11, e11, W11, st11⟩ := stI X9 hx hZ e9 Ar11 (j := (4 : Int32)) hin11 (g := (mkF m 38 #[.val (.int p0), .val (.int p1), .val (.int p2), .val (.int p3), .val (.int p4), .val (.int p5), .val (.int n6), .val (.int (p1 ^^^ p4)), .unset, .unset, .unset, .unset, .unset, .unset, .unset, .unset, .unset, .unset] [(.int (p1 ^^^ p4)), (.int (4 : Int32)), (.ref b1), (.ref b1)])) rfl rfl (hb hby at_38)
  have V11_b1 : Arv Z h11 b1 k1 .int (5 : Int32) [(.int p0), (.int p1), (.int p2), (.int p3), (.int (p1 ^^^ p4))] (.int (0 : Int32)) := Arv.set Ar11 q11 S11 N11m H11 G11 rfl W11 4 rfl (Nat.le_of_ble_eq_true rfl)
  have Zs12 := Nat.le_trans Zs10 (Keep.of_wr W11).1
  have N11 := Fr.snoc X11 N9 g_b1
  have pre2 : ∀ t, Steps p.tables e below (T11.setTop (mkF m 41 #[.val (.int p0), .val (.int p1), .val (.int p2), .val (.int p3), .val (.int p4), .val (.int p5), .val (.int n6), .val (.int (p1 ^^^ p4)), .val (.ref b1), .unset, .unset, .unset, .unset, .unset, .unset, .unset, .unset, .unset] [])) t → Steps p.tables e below (s₁.setTop (entryFrame m #[(.int p0), (.int p1), (.int p2), (.int p3), (.int p4), (.int p5)] maxLocals)) t := by
    intro t k
    refine pre1 t ?_
    show Steps p.tables e below (s₁.setTop (mkF m 9 #[.val (.int p0), .val (.int p1), .val (.int p2), .val (.int p3), .val (.int p4), .val (.int p5), .val (.int n6), .unset, .unset, .unset, .unset, .unset, .unset, .unset, .unset, .unset, .unset, .unset] [])) _
    refine XS.iloadN X0.here hx rfl (hb hby at_9) rfl ?_
    show Steps p.tables e below (s₁.setTop (mkF m 10 #[.val (.int p0), .val (.int p1), .val (.int p2), .val (.int p3), .val (.int p4), .val (.int p5), .val (.int n6), .unset, .unset, .unset, .unset, .unset, .unset, .unset, .unset, .unset, .unset, .unset] [(.int p1)])) _
    refine XS.iload X0.here hx rfl (hb hby at_10) rfl ?_
    show Steps p.tables e below (s₁.setTop (mkF m 12 #[.val (.int p0), .val (.int p1), .val (.int p2), .val (.int p3), .val (.int p4), .val (.int p5), .val (.int n6), .unset, .unset, .unset, .unset, .unset, .unset, .unset, .unset, .unset, .unset, .unset] [(.int p4), (.int p1)])) _
    refine XS.ixor X0.here hx rfl (hb hby at_12) rfl ?_
    show Steps p.tables e below (s₁.setTop (mkF m 13 #[.val (.int p0), .val (.int p1), .val (.int p2), .val (.int p3), .val (.int p4), .val (.int p5), .val (.int n6), .unset, .unset, .unset, .unset, .unset, .unset, .unset, .unset, .unset, .unset, .unset] [(.int (p1 ^^^ p4))])) _
    refine XS.istore X0.here hx rfl (hb hby at_13) rfl (l' := #[.val (.int p0), .val (.int p1), .val (.int p2), .val (.int p3), .val (.int p4), .val (.int p5), .val (.int n6), .val (.int (p1 ^^^ p4)), .unset, .unset, .unset, .unset, .unset, .unset, .unset, .unset, .unset, .unset]) rfl ?_
    show Steps p.tables e below (s₁.setTop (mkF m 15 #[.val (.int p0), .val (.int p1), .val (.int p2), .val (.int p3), .val (.int p4), .val (.int p5), .val (.int n6), .val (.int (p1 ^^^ p4)), .unset, .unset, .unset, .unset, .unset, .unset, .unset, .unset, .unset, .unset] [])) _
    refine XS.iconst X0.here hx rfl (hb hby at_15) ?_
    show Steps p.tables e below (s₁.setTop (mkF m 16 #[.val (.int p0), .val (.int p1), .val (.int p2), .val (.int p3), .val (.int p4), .val (.int p5), .val (.int n6), .val (.int (p1 ^^^ p4)), .unset, .unset, .unset, .unset, .unset, .unset, .unset, .unset, .unset, .unset] [(.int (5 : Int32))])) _
    refine st1 _ ?_
    show Steps p.tables e below (T1.setTop (mkF m 18 #[.val (.int p0), .val (.int p1), .val (.int p2), .val (.int p3), .val (.int p4), .val (.int p5), .val (.int n6), .val (.int (p1 ^^^ p4)), .unset, .unset, .unset, .unset, .unset, .unset, .unset, .unset, .unset, .unset] [(.ref b1)])) _
    refine XS.dup X1.here hx rfl (hb hby at_18) rfl rfl ?_
    show Steps p.tables e below (T1.setTop (mkF m 19 #[.val (.int p0), .val (.int p1), .val (.int p2), .val (.int p3), .val (.int p4), .val (.int p5), .val (.int n6), .val (.int (p1 ^^^ p4)), .unset, .unset, .unset, .unset, .unset, .unset, .unset, .unset, .unset, .unset] [(.ref b1), (.ref b1)])) _
    refine XS.iconst X1.here hx rfl (hb hby at_19) ?_
    show Steps p.tables e below (T1.setTop (mkF m 20 #[.val (.int p0), .val (.int p1), .val (.int p2), .val (.int p3), .val (.int p4), .val (.int p5), .val (.int n6), .val (.int (p1 ^^^ p4)), .unset, .unset, .unset, .unset, .unset, .unset, .unset, .unset, .unset, .unset] [(.int (0 : Int32)), (.ref b1), (.ref b1)])) _
    refine XS.iloadN X1.here hx rfl (hb hby at_20) rfl ?_
    show Steps p.tables e below (T1.setTop (mkF m 21 #[.val (.int p0), .val (.int p1), .val (.int p2), .val (.int p3), .val (.int p4), .val (.int p5), .val (.int n6), .val (.int (p1 ^^^ p4)), .unset, .unset, .unset, .unset, .unset, .unset, .unset, .unset, .unset, .unset] [(.int p0), (.int (0 : Int32)), (.ref b1), (.ref b1)])) _
    refine st3 _ ?_
    show Steps p.tables e below (T3.setTop (mkF m 22 #[.val (.int p0), .val (.int p1), .val (.int p2), .val (.int p3), .val (.int p4), .val (.int p5), .val (.int n6), .val (.int (p1 ^^^ p4)), .unset, .unset, .unset, .unset, .unset, .unset, .unset, .unset, .unset, .unset] [(.ref b1)])) _
    refine XS.dup X3.here hx rfl (hb hby at_22) rfl rfl ?_
    show Steps p.tables e below (T3.setTop (mkF m 23 #[.val (.int p0), .val (.int p1), .val (.int p2), .val (.int p3), .val (.int p4), .val (.int p5), .val (.int n6), .val (.int (p1 ^^^ p4)), .unset, .unset, .unset, .unset, .unset, .unset, .unset, .unset, .unset, .unset] [(.ref b1), (.ref b1)])) _
    refine XS.iconst X3.here hx rfl (hb hby at_23) ?_
    show Steps p.tables e below (T3.setTop (mkF m 24 #[.val (.int p0), .val (.int p1), .val (.int p2), .val (.int p3), .val (.int p4), .val (.int p5), .val (.int n6), .val (.int (p1 ^^^ p4)), .unset, .unset, .unset, .unset, .unset, .unset, .unset, .unset, .unset, .unset] [(.int (1 : Int32)), (.ref b1), (.ref b1)])) _
    refine XS.iloadN X3.here hx rfl (hb hby at_24) rfl ?_
    show Steps p.tables e below (T3.setTop (mkF m 25 #[.val (.int p0), .val (.int p1), .val (.int p2), .val (.int p3), .val (.int p4), .val (.int p5), .val (.int n6), .val (.int (p1 ^^^ p4)), .unset, .unset, .unset, .unset, .unset, .unset, .unset, .unset, .unset, .unset] [(.int p1), (.int (1 : Int32)), (.ref b1), (.ref b1)])) _
    refine st5 _ ?_
    show Steps p.tables e below (T5.setTop (mkF m 26 #[.val (.int p0), .val (.int p1), .val (.int p2), .val (.int p3), .val (.int p4), .val (.int p5), .val (.int n6), .val (.int (p1 ^^^ p4)), .unset, .unset, .unset, .unset, .unset, .unset, .unset, .unset, .unset, .unset] [(.ref b1)])) _
    refine XS.dup X5.here hx rfl (hb hby at_26) rfl rfl ?_
    show Steps p.tables e below (T5.setTop (mkF m 27 #[.val (.int p0), .val (.int p1), .val (.int p2), .val (.int p3), .val (.int p4), .val (.int p5), .val (.int n6), .val (.int (p1 ^^^ p4)), .unset, .unset, .unset, .unset, .unset, .unset, .unset, .unset, .unset, .unset] [(.ref b1), (.ref b1)])) _
    refine XS.iconst X5.here hx rfl (hb hby at_27) ?_
    show Steps p.tables e below (T5.setTop (mkF m 28 #[.val (.int p0), .val (.int p1), .val (.int p2), .val (.int p3), .val (.int p4), .val (.int p5), .val (.int n6), .val (.int (p1 ^^^ p4)), .unset, .unset, .unset, .unset, .unset, .unset, .unset, .unset, .unset, .unset] [(.int (2 : Int32)), (.ref b1), (.ref b1)])) _
    refine XS.iloadN X5.here hx rfl (hb hby at_28) rfl ?_
    show Steps p.tables e below (T5.setTop (mkF m 29 #[.val (.int p0), .val (.int p1), .val (.int p2), .val (.int p3), .val (.int p4), .val (.int p5), .val (.int n6), .val (.int (p1 ^^^ p4)), .unset, .unset, .unset, .unset, .unset, .unset, .unset, .unset, .unset, .unset] [(.int p2), (.int (2 : Int32)), (.ref b1), (.ref b1)])) _
    refine st7 _ ?_
    show Steps p.tables e below (T7.setTop (mkF m 30 #[.val (.int p0), .val (.int p1), .val (.int p2), .val (.int p3), .val (.int p4), .val (.int p5), .val (.int n6), .val (.int (p1 ^^^ p4)), .unset, .unset, .unset, .unset, .unset, .unset, .unset, .unset, .unset, .unset] [(.ref b1)])) _
    refine XS.dup X7.here hx rfl (hb hby at_30) rfl rfl ?_
    show Steps p.tables e below (T7.setTop (mkF m 31 #[.val (.int p0), .val (.int p1), .val (.int p2), .val (.int p3), .val (.int p4), .val (.int p5), .val (.int n6), .val (.int (p1 ^^^ p4)), .unset, .unset, .unset, .unset, .unset, .unset, .unset, .unset, .unset, .unset] [(.ref b1), (.ref b1)])) _
    refine XS.iconst X7.here hx rfl (hb hby at_31) ?_
    show Steps p.tables e below (T7.setTop (mkF m 32 #[.val (.int p0), .val (.int p1), .val (.int p2), .val (.int p3), .val (.int p4), .val (.int p5), .val (.int n6), .val (.int (p1 ^^^ p4)), .unset, .unset, .unset, .unset, .unset, .unset, .unset, .unset, .unset, .unset] [(.int (3 : Int32)), (.ref b1), (.ref b1)])) _
    refine XS.iloadN X7.here hx rfl (hb hby at_32) rfl ?_
    show Steps p.tables e below (T7.setTop (mkF m 33 #[.val (.int p0), .val (.int p1), .val (.int p2), .val (.int p3), .val (.int p4), .val (.int p5), .val (.int n6), .val (.int (p1 ^^^ p4)), .unset, .unset, .unset, .unset, .unset, .unset, .unset, .unset, .unset, .unset] [(.int p3), (.int (3 : Int32)), (.ref b1), (.ref b1)])) _
    refine st9 _ ?_
    show Steps p.tables e below (T9.setTop (mkF m 34 #[.val (.int p0), .val (.int p1), .val (.int p2), .val (.int p3), .val (.int p4), .val (.int p5), .val (.int n6), .val (.int (p1 ^^^ p4)), .unset, .unset, .unset, .unset, .unset, .unset, .unset, .unset, .unset, .unset] [(.ref b1)])) _
    refine XS.dup X9.here hx rfl (hb hby at_34) rfl rfl ?_
    show Steps p.tables e below (T9.setTop (mkF m 35 #[.val (.int p0), .val (.int p1), .val (.int p2), .val (.int p3), .val (.int p4), .val (.int p5), .val (.int n6), .val (.int (p1 ^^^ p4)), .unset, .unset, .unset, .unset, .unset, .unset, .unset, .unset, .unset, .unset] [(.ref b1), (.ref b1)])) _
    refine XS.iconst X9.here hx rfl (hb hby at_35) ?_
    show Steps p.tables e below (T9.setTop (mkF m 36 #[.val (.int p0), .val (.int p1), .val (.int p2), .val (.int p3), .val (.int p4), .val (.int p5), .val (.int n6), .val (.int (p1 ^^^ p4)), .unset, .unset, .unset, .unset, .unset, .unset, .unset, .unset, .unset, .unset] [(.int (4 : Int32)), (.ref b1), (.ref b1)])) _
    refine XS.iload X9.here hx rfl (hb hby at_36) rfl ?_
    show Steps p.tables e below (T9.setTop (mkF m 38 #[.val (.int p0), .val (.int p1), .val (.int p2), .val (.int p3), .val (.int p4), .val (.int p5), .val (.int n6), .val (.int (p1 ^^^ p4)), .unset, .unset, .unset, .unset, .unset, .unset, .unset, .unset, .unset, .unset] [(.int (p1 ^^^ p4)), (.int (4 : Int32)), (.ref b1), (.ref b1)])) _
    refine st11 _ ?_
    show Steps p.tables e below (T11.setTop (mkF m 39 #[.val (.int p0), .val (.int p1), .val (.int p2), .val (.int p3), .val (.int p4), .val (.int p5), .val (.int n6), .val (.int (p1 ^^^ p4)), .unset, .unset, .unset, .unset, .unset, .unset, .unset, .unset, .unset, .unset] [(.ref b1)])) _
    refine XS.astore X11.here hx rfl (hb hby at_39) rfl rfl (l' := #[.val (.int p0), .val (.int p1), .val (.int p2), .val (.int p3), .val (.int p4), .val (.int p5), .val (.int n6), .val (.int (p1 ^^^ p4)), .val (.ref b1), .unset, .unset, .unset, .unset, .unset, .unset, .unset, .unset, .unset]) rfl ?_
    exact k
  obtain ⟨lq13, X13, N13⟩ : ∃ lq, Stand p l e room_1 s m #[(.int p0), (.int p1), (.int p2), (.int p3), (.int p4), (.int p5)] below meth c T11 lq 1 5 ∧ Fr n0 lq := ⟨_, X11, N11⟩
  obtain ⟨T14, h14, k14, X14, e14, E14, A14, st14⟩ := newP X13 hx hZ (hw _ (List.mem_of_getElem? (i := 0) rfl)) e11 (g := (mkF m 42 #[.val (.int p0), .val (.int p1), .val (.int p2), .val (.int p3), .val (.int p4), .val (.int p5), .val (.int n6), .val (.int (p1 ^^^ p4)), .val (.ref b1), .unset, .unset, .unset, .unset, .unset, .unset, .unset, .unset, .unset] [(.int (5 : Int32))])) rfl (hb hby at_42) rfl (by decide) (cap := 5) (by decide) (by decide) (by decide) (by decide)
  obtain ⟨b14, g14⟩ : ∃ z, z = h11.size := ⟨_, rfl⟩
  rw [← g14] at A14 st14
  have ne_b1_b14 : b1 ≠ b14 := Nat.ne_of_lt (Nat.lt_of_lt_of_le V11_b1.lt (Nat.le_of_eq g14.symm))
  have g_b14 : n0 ≤ b14 := Nat.le_trans Zs12 (Nat.le_of_eq g14.symm)
  have V_b1_14 := V11_b1.ext E14
  have Zs15 := Nat.le_trans Zs12 E14.1
  have V_b14 : Arv Z h14 b14 k14 .int (5 : Int32) [(.int (0 : Int32)), (.int (0 : Int32)), (.int (0 : Int32)), (.int (0 : Int32)), (.int (0 : Int32))] (.int (0 : Int32)) := (Arv.new A14 (by decide)).pad (pad_rep [] (.int (0 : Int32)) 5)
  obtain ⟨_, _, ⟨T16, L16, k16, n16⟩, -, X16, ⟨Lc16, hQ16, l16, y16, z16⟩, st16⟩ := Jvm.LawKit.callS X14 hx (y := (⟨"com/example/frangia/frangia/analysis/WalkHashPinLaw", "keep", "(III)I"⟩ : MethodName)) hown (mvT hZ (hw _ (List.mem_of_getElem? (i := 1) rfl))) (mvT hZ (hw _ (List.mem_of_getElem? (i := 2) rfl))) (mvT hZ (hw _ (List.mem_of_getElem? (i := 3) rfl))) (mvT hZ (hw _ (List.mem_of_getElem? (i := 4) rfl))) (by decide) (backOf (W := 3) (rm1 l Z a0 hw [] p0 (0 : Int32) n6 h14 n0 Zs15) hZ (hw _ (List.mem_of_getElem? (i := 4) rfl)) (hw _ (List.mem_of_getElem? (i := 3) rfl)) (by decide) (by decide)) (g := (mkF m 50 #[.val (.int p0), .val (.int p1), .val (.int p2), .val (.int p3), .val (.int p4), .val (.int p5), .val (.int n6), .val (.int (p1 ^^^ p4)), .val (.ref b1), .unset, .unset, .unset, .unset, .unset, .unset, .unset, .unset, .unset] [(.int n6), (.int (0 : Int32)), (.int p0), (.int (0 : Int32)), (.ref b14), (.ref b14)])) rfl (by rw [hml]; rfl) (argsL := [(.int p0), (.int (0 : Int32)), (.int n6)]) (rest := [(.int (0 : Int32)), (.ref b14), (.ref b14)]) (lenOf pd_0 rfl) rfl (by show 2 * 0 + _ ≤ _; exact Nat.le_of_eq rfl) (hb hby at_50) (fun _ _ => ⟨rfl, e14, (by decide : 2 + 0 ≤ _), (by decide : 10 + 0 ≤ _)⟩)
  dsimp only [Pt.U, Pt.locs, Pt.cells, Pt.slots] at X16 l16 y16 z16 st16 hQ16
  subst l16 y16 z16
  obtain ⟨rfl, N16q, e16q⟩ := hQ16
  have N16 := Fr.app N13 N16q
  obtain ⟨cl17, Ar17, q17, S17, N17m, H17, G17⟩ := id V_b14
  have hin17 : ¬ ((0 : Int32) < 0 ∨ cl17.slots.size ≤ ((0 : Int32)).toNatClampNeg) := inb_of S17 ⟨by decide, by decide⟩
  obtain ⟨T17, h17, X17, e17, W17, st17⟩ := stI X16 hx hZ e16q Ar17 (j := (0 : Int32)) hin17 (g := (mkF m 53 #[.val (.int p0), .val (.int p1), .val (.int p2), .val (.int p3), .val (.int p4), .val (.int p5), .val (.int n6), .val (.int (p1 ^^^ p4)), .val (.ref b1), .unset, .unset, .unset, .unset, .unset, .unset, .unset, .unset, .unset] [(.int (own_keep p0 (0 : Int32) n6)), (.int (0 : Int32)), (.ref b14), (.ref b14)])) rfl rfl (hb hby at_53)
  have V17_b14 : Arv Z h17 b14 k14 .int (5 : Int32) [(.int (own_keep p0 (0 : Int32) n6)), (.int (0 : Int32)), (.int (0 : Int32)), (.int (0 : Int32)), (.int (0 : Int32))] (.int (0 : Int32)) := Arv.set Ar17 q17 S17 N17m H17 G17 rfl W17 0 rfl (Nat.le_of_ble_eq_true rfl)
  have V_b1_17 := V_b1_14.other W17 ne_b1_b14
  have Zs18 := Nat.le_trans Zs15 (Keep.of_wr W17).1
  have N17 := Fr.snoc X17 N16 g_b14
  obtain ⟨_, _, ⟨T19, L19, k19, n19⟩, -, X19, ⟨Lc19, hQ19, l19, y19, z19⟩, st19⟩ := Jvm.LawKit.callS X17 hx (y := (⟨"com/example/frangia/frangia/analysis/WalkHashPinLaw", "keep", "(III)I"⟩ : MethodName)) hown (mvT hZ (hw _ (List.mem_of_getElem? (i := 1) rfl))) (mvT hZ (hw _ (List.mem_of_getElem? (i := 2) rfl))) (mvT hZ (hw _ (List.mem_of_getElem? (i := 3) rfl))) (mvT hZ (hw _ (List.mem_of_getElem? (i := 4) rfl))) (by decide) (backOf (W := 3) (rm1 l Z a0 hw [] p1 (1 : Int32) n6 h17 n0 Zs18) hZ (hw _ (List.mem_of_getElem? (i := 4) rfl)) (hw _ (List.mem_of_getElem? (i := 3) rfl)) (by decide) (by decide)) (g := (mkF m 60 #[.val (.int p0), .val (.int p1), .val (.int p2), .val (.int p3), .val (.int p4), .val (.int p5), .val (.int n6), .val (.int (p1 ^^^ p4)), .val (.ref b1), .unset, .unset, .unset, .unset, .unset, .unset, .unset, .unset, .unset] [(.int n6), (.int (1 : Int32)), (.int p1), (.int (1 : Int32)), (.ref b14), (.ref b14)])) rfl (by rw [hml]; rfl) (argsL := [(.int p1), (.int (1 : Int32)), (.int n6)]) (rest := [(.int (1 : Int32)), (.ref b14), (.ref b14)]) (lenOf pd_0 rfl) rfl (by show 2 * 0 + _ ≤ _; exact Nat.le_of_eq rfl) (hb hby at_60) (fun _ _ => ⟨rfl, e17, (by decide : 2 + 0 ≤ _), (by decide : 10 + 0 ≤ _)⟩)
  dsimp only [Pt.U, Pt.locs, Pt.cells, Pt.slots] at X19 l19 y19 z19 st19 hQ19
  subst l19 y19 z19
  obtain ⟨rfl, N19q, e19q⟩ := hQ19
  have N19 := Fr.app N17 N19q
  obtain ⟨cl20, Ar20, q20, S20, N20m, H20, G20⟩ := id V17_b14
  have hin20 : ¬ ((1 : Int32) < 0 ∨ cl20.slots.size ≤ ((1 : Int32)).toNatClampNeg) := inb_of S20 ⟨by decide, by decide⟩
  obtain ⟨T20, h20, X20, e20, W20, st20⟩ := stI X19 hx hZ e19q Ar20 (j := (1 : Int32)) hin20 (g := (mkF m 63 #[.val (.int p0), .val (.int p1), .val (.int p2), .val (.int p3), .val (.int p4), .val (.int p5), .val (.int n6), .val (.int (p1 ^^^ p4)), .val (.ref b1), .unset, .unset, .unset, .unset, .unset, .unset, .unset, .unset, .unset] [(.int (own_keep p1 (1 : Int32) n6)), (.int (1 : Int32)), (.ref b14), (.ref b14)])) rfl rfl (hb hby at_63)
  have V20_b14 : Arv Z h20 b14 k14 .int (5 : Int32) [(.int (own_keep p0 (0 : Int32) n6)), (.int (own_keep p1 (1 : Int32) n6)), (.int (0 : Int32)), (.int (0 : Int32)), (.int (0 : Int32))] (.int (0 : Int32)) := Arv.set Ar20 q20 S20 N20m H20 G20 rfl W20 1 rfl (Nat.le_of_ble_eq_true rfl)
  have V_b1_20 := V_b1_17.other W20 ne_b1_b14
  have Zs21 := Nat.le_trans Zs18 (Keep.of_wr W20).1
  have N20 := Fr.snoc X20 N19 g_b14
  obtain ⟨_, _, ⟨T22, L22, k22, n22⟩, -, X22, ⟨Lc22, hQ22, l22, y22, z22⟩, st22⟩ := Jvm.LawKit.callS X20 hx (y := (⟨"com/example/frangia/frangia/analysis/WalkHashPinLaw", "keep", "(III)I"⟩ : MethodName)) hown (mvT hZ (hw _ (List.mem_of_getElem? (i := 1) rfl))) (mvT hZ (hw _ (List.mem_of_getElem? (i := 2) rfl))) (mvT hZ (hw _ (List.mem_of_getElem? (i := 3) rfl))) (mvT hZ (hw _ (List.mem_of_getElem? (i := 4) rfl))) (by decide) (backOf (W := 3) (rm1 l Z a0 hw [] p2 (2 : Int32) n6 h20 n0 Zs21) hZ (hw _ (List.mem_of_getElem? (i := 4) rfl)) (hw _ (List.mem_of_getElem? (i := 3) rfl)) (by decide) (by decide)) (g := (mkF m 70 #[.val (.int p0), .val (.int p1), .val (.int p2), .val (.int p3), .val (.int p4), .val (.int p5), .val (.int n6), .val (.int (p1 ^^^ p4)), .val (.ref b1), .unset, .unset, .unset, .unset, .unset, .unset, .unset, .unset, .unset] [(.int n6), (.int (2 : Int32)), (.int p2), (.int (2 : Int32)), (.ref b14), (.ref b14)])) rfl (by rw [hml]; rfl) (argsL := [(.int p2), (.int (2 : Int32)), (.int n6)]) (rest := [(.int (2 : Int32)), (.ref b14), (.ref b14)]) (lenOf pd_0 rfl) rfl (by show 2 * 0 + _ ≤ _; exact Nat.le_of_eq rfl) (hb hby at_70) (fun _ _ => ⟨rfl, e20, (by decide : 2 + 0 ≤ _), (by decide : 10 + 0 ≤ _)⟩)
  dsimp only [Pt.U, Pt.locs, Pt.cells, Pt.slots] at X22 l22 y22 z22 st22 hQ22
  subst l22 y22 z22
  obtain ⟨rfl, N22q, e22q⟩ := hQ22
  have N22 := Fr.app N20 N22q
  obtain ⟨cl23, Ar23, q23, S23, N23m, H23, G23⟩ := id V20_b14
  have hin23 : ¬ ((2 : Int32) < 0 ∨ cl23.slots.size ≤ ((2 : Int32)).toNatClampNeg) := inb_of S23 ⟨by decide, by decide⟩
  obtain ⟨T23, h23, X23, e23, W23, st23⟩ := stI X22 hx hZ e22q Ar23 (j := (2 : Int32)) hin23 (g := (mkF m 73 #[.val (.int p0), .val (.int p1), .val (.int p2), .val (.int p3), .val (.int p4), .val (.int p5), .val (.int n6), .val (.int (p1 ^^^ p4)), .val (.ref b1), .unset, .unset, .unset, .unset, .unset, .unset, .unset, .unset, .unset] [(.int (own_keep p2 (2 : Int32) n6)), (.int (2 : Int32)), (.ref b14), (.ref b14)])) rfl rfl (hb hby at_73)
  have V23_b14 : Arv Z h23 b14 k14 .int (5 : Int32) [(.int (own_keep p0 (0 : Int32) n6)), (.int (own_keep p1 (1 : Int32) n6)), (.int (own_keep p2 (2 : Int32) n6)), (.int (0 : Int32)), (.int (0 : Int32))] (.int (0 : Int32)) := Arv.set Ar23 q23 S23 N23m H23 G23 rfl W23 2 rfl (Nat.le_of_ble_eq_true rfl)
  have V_b1_23 := V_b1_20.other W23 ne_b1_b14
  have Zs24 := Nat.le_trans Zs21 (Keep.of_wr W23).1
  have N23 := Fr.snoc X23 N22 g_b14
  obtain ⟨_, _, ⟨T25, L25, k25, n25⟩, -, X25, ⟨Lc25, hQ25, l25, y25, z25⟩, st25⟩ := Jvm.LawKit.callS X23 hx (y := (⟨"com/example/frangia/frangia/analysis/WalkHashPinLaw", "keep", "(III)I"⟩ : MethodName)) hown (mvT hZ (hw _ (List.mem_of_getElem? (i := 1) rfl))) (mvT hZ (hw _ (List.mem_of_getElem? (i := 2) rfl))) (mvT hZ (hw _ (List.mem_of_getElem? (i := 3) rfl))) (mvT hZ (hw _ (List.mem_of_getElem? (i := 4) rfl))) (by decide) (backOf (W := 3) (rm1 l Z a0 hw [] p3 (3 : Int32) n6 h23 n0 Zs24) hZ (hw _ (List.mem_of_getElem? (i := 4) rfl)) (hw _ (List.mem_of_getElem? (i := 3) rfl)) (by decide) (by decide)) (g := (mkF m 80 #[.val (.int p0), .val (.int p1), .val (.int p2), .val (.int p3), .val (.int p4), .val (.int p5), .val (.int n6), .val (.int (p1 ^^^ p4)), .val (.ref b1), .unset, .unset, .unset, .unset, .unset, .unset, .unset, .unset, .unset] [(.int n6), (.int (3 : Int32)), (.int p3), (.int (3 : Int32)), (.ref b14), (.ref b14)])) rfl (by rw [hml]; rfl) (argsL := [(.int p3), (.int (3 : Int32)), (.int n6)]) (rest := [(.int (3 : Int32)), (.ref b14), (.ref b14)]) (lenOf pd_0 rfl) rfl (by show 2 * 0 + _ ≤ _; exact Nat.le_of_eq rfl) (hb hby at_80) (fun _ _ => ⟨rfl, e23, (by decide : 2 + 0 ≤ _), (by decide : 10 + 0 ≤ _)⟩)
  dsimp only [Pt.U, Pt.locs, Pt.cells, Pt.slots] at X25 l25 y25 z25 st25 hQ25
  subst l25 y25 z25
  obtain ⟨rfl, N25q, e25q⟩ := hQ25
  have N25 := Fr.app N23 N25q
  obtain ⟨cl26, Ar26, q26, S26, N26m, H26, G26⟩ := id V23_b14
  have hin26 : ¬ ((3 : Int32) < 0 ∨ cl26.slots.size ≤ ((3 : Int32)).toNatClampNeg) := inb_of S26 ⟨by decide, by decide⟩
  obtain ⟨T26, h26, X26, e26, W26, st26⟩ := stI X25 hx hZ e25q Ar26 (j := (3 : Int32)) hin26 (g := (mkF m 83 #[.val (.int p0), .val (.int p1), .val (.int p2), .val (.int p3), .val (.int p4), .val (.int p5), .val (.int n6), .val (.int (p1 ^^^ p4)), .val (.ref b1), .unset, .unset, .unset, .unset, .unset, .unset, .unset, .unset, .unset] [(.int (own_keep p3 (3 : Int32) n6)), (.int (3 : Int32)), (.ref b14), (.ref b14)])) rfl rfl (hb hby at_83)
  have V26_b14 : Arv Z h26 b14 k14 .int (5 : Int32) [(.int (own_keep p0 (0 : Int32) n6)), (.int (own_keep p1 (1 : Int32) n6)), (.int (own_keep p2 (2 : Int32) n6)), (.int (own_keep p3 (3 : Int32) n6)), (.int (0 : Int32))] (.int (0 : Int32)) := Arv.set Ar26 q26 S26 N26m H26 G26 rfl W26 3 rfl (Nat.le_of_ble_eq_true rfl)
  have V_b1_26 := V_b1_23.other W26 ne_b1_b14
  have Zs27 := Nat.le_trans Zs24 (Keep.of_wr W26).1
  have N26 := Fr.snoc X26 N25 g_b14
  obtain ⟨_, _, ⟨T28, L28, k28, n28⟩, -, X28, ⟨Lc28, hQ28, l28, y28, z28⟩, st28⟩ := Jvm.LawKit.callS X26 hx (y := (⟨"com/example/frangia/frangia/analysis/WalkHashPinLaw", "keep", "(III)I"⟩ : MethodName)) hown (mvT hZ (hw _ (List.mem_of_getElem? (i := 1) rfl))) (mvT hZ (hw _ (List.mem_of_getElem? (i := 2) rfl))) (mvT hZ (hw _ (List.mem_of_getElem? (i := 3) rfl))) (mvT hZ (hw _ (List.mem_of_getElem? (i := 4) rfl))) (by decide) (backOf (W := 3) (rm1 l Z a0 hw [] (p1 ^^^ p4) (4 : Int32) n6 h26 n0 Zs27) hZ (hw _ (List.mem_of_getElem? (i := 4) rfl)) (hw _ (List.mem_of_getElem? (i := 3) rfl)) (by decide) (by decide)) (g := (mkF m 91 #[.val (.int p0), .val (.int p1), .val (.int p2), .val (.int p3), .val (.int p4), .val (.int p5), .val (.int n6), .val (.int (p1 ^^^ p4)), .val (.ref b1), .unset, .unset, .unset, .unset, .unset, .unset, .unset, .unset, .unset] [(.int n6), (.int (4 : Int32)), (.int (p1 ^^^ p4)), (.int (4 : Int32)), (.ref b14), (.ref b14)])) rfl (by rw [hml]; rfl) (argsL := [(.int (p1 ^^^ p4)), (.int (4 : Int32)), (.int n6)]) (rest := [(.int (4 : Int32)), (.ref b14), (.ref b14)]) (lenOf pd_0 rfl) rfl (by show 2 * 0 + _ ≤ _; exact Nat.le_of_eq rfl) (hb hby at_91) (fun _ _ => ⟨rfl, e26, (by decide : 2 + 0 ≤ _), (by decide : 10 + 0 ≤ _)⟩)
  dsimp only [Pt.U, Pt.locs, Pt.cells, Pt.slots] at X28 l28 y28 z28 st28 hQ28
  subst l28 y28 z28
  obtain ⟨rfl, N28q, e28q⟩ := hQ28
  have N28 := Fr.app N26 N28q
  obtain ⟨cl29, Ar29, q29, S29, N29m, H29, G29⟩ := id V26_b14
  have hin29 : ¬ ((4 : Int32) < 0 ∨ cl29.slots.size ≤ ((4 : Int32)).toNatClampNeg) := inb_of S29 ⟨by decide, by decide⟩
  obtain ⟨T29, h29, X29, e29, W29, st29⟩ := stI X28 hx hZ e28q Ar29 (j := (4 : Int32)) hin29 (g := (mkF m 94 #[.val (.int p0), .val (.int p1), .val (.int p2), .val (.int p3), .val (.int p4), .val (.int p5), .val (.int n6), .val (.int (p1 ^^^ p4)), .val (.ref b1), .unset, .unset, .unset, .unset, .unset, .unset, .unset, .unset, .unset] [(.int (own_keep (p1 ^^^ p4) (4 : Int32) n6)), (.int (4 : Int32)), (.ref b14), (.ref b14)])) rfl rfl (hb hby at_94)
  have V29_b14 : Arv Z h29 b14 k14 .int (5 : Int32) [(.int (own_keep p0 (0 : Int32) n6)), (.int (own_keep p1 (1 : Int32) n6)), (.int (own_keep p2 (2 : Int32) n6)), (.int (own_keep p3 (3 : Int32) n6)), (.int (own_keep (p1 ^^^ p4) (4 : Int32) n6))] (.int (0 : Int32)) := Arv.set Ar29 q29 S29 N29m H29 G29 rfl W29 4 rfl (Nat.le_of_ble_eq_true rfl)
  have V_b1_29 := V_b1_26.other W29 ne_b1_b14
  have Zs30 := Nat.le_trans Zs27 (Keep.of_wr W29).1
  have N29 := Fr.snoc X29 N28 g_b14
  have pre3 : ∀ t, Steps p.tables e below (T29.setTop (mkF m 97 #[.val (.int p0), .val (.int p1), .val (.int p2), .val (.int p3), .val (.int p4), .val (.int p5), .val (.int n6), .val (.int (p1 ^^^ p4)), .val (.ref b1), .val (.ref b14), .unset, .unset, .unset, .unset, .unset, .unset, .unset, .unset] [])) t → Steps p.tables e below (s₁.setTop (entryFrame m #[(.int p0), (.int p1), (.int p2), (.int p3), (.int p4), (.int p5)] maxLocals)) t := by
    intro t k
    refine pre2 t ?_
    show Steps p.tables e below (T11.setTop (mkF m 41 #[.val (.int p0), .val (.int p1), .val (.int p2), .val (.int p3), .val (.int p4), .val (.int p5), .val (.int n6), .val (.int (p1 ^^^ p4)), .val (.ref b1), .unset, .unset, .unset, .unset, .unset, .unset, .unset, .unset, .unset] [])) _
    refine XS.iconst X13.here hx rfl (hb hby at_41) ?_
    show Steps p.tables e below (T11.setTop (mkF m 42 #[.val (.int p0), .val (.int p1), .val (.int p2), .val (.int p3), .val (.int p4), .val (.int p5), .val (.int n6), .val (.int (p1 ^^^ p4)), .val (.ref b1), .unset, .unset, .unset, .unset, .unset, .unset, .unset, .unset, .unset] [(.int (5 : Int32))])) _
    refine st14 _ ?_
    show Steps p.tables e below (T14.setTop (mkF m 44 #[.val (.int p0), .val (.int p1), .val (.int p2), .val (.int p3), .val (.int p4), .val (.int p5), .val (.int n6), .val (.int (p1 ^^^ p4)), .val (.ref b1), .unset, .unset, .unset, .unset, .unset, .unset, .unset, .unset, .unset] [(.ref b14)])) _
    refine XS.dup X14.here hx rfl (hb hby at_44) rfl rfl ?_
    show Steps p.tables e below (T14.setTop (mkF m 45 #[.val (.int p0), .val (.int p1), .val (.int p2), .val (.int p3), .val (.int p4), .val (.int p5), .val (.int n6), .val (.int (p1 ^^^ p4)), .val (.ref b1), .unset, .unset, .unset, .unset, .unset, .unset, .unset, .unset, .unset] [(.ref b14), (.ref b14)])) _
    refine XS.iconst X14.here hx rfl (hb hby at_45) ?_
    show Steps p.tables e below (T14.setTop (mkF m 46 #[.val (.int p0), .val (.int p1), .val (.int p2), .val (.int p3), .val (.int p4), .val (.int p5), .val (.int n6), .val (.int (p1 ^^^ p4)), .val (.ref b1), .unset, .unset, .unset, .unset, .unset, .unset, .unset, .unset, .unset] [(.int (0 : Int32)), (.ref b14), (.ref b14)])) _
    refine XS.iloadN X14.here hx rfl (hb hby at_46) rfl ?_
    show Steps p.tables e below (T14.setTop (mkF m 47 #[.val (.int p0), .val (.int p1), .val (.int p2), .val (.int p3), .val (.int p4), .val (.int p5), .val (.int n6), .val (.int (p1 ^^^ p4)), .val (.ref b1), .unset, .unset, .unset, .unset, .unset, .unset, .unset, .unset, .unset] [(.int p0), (.int (0 : Int32)), (.ref b14), (.ref b14)])) _
    refine XS.iconst X14.here hx rfl (hb hby at_47) ?_
    show Steps p.tables e below (T14.setTop (mkF m 48 #[.val (.int p0), .val (.int p1), .val (.int p2), .val (.int p3), .val (.int p4), .val (.int p5), .val (.int n6), .val (.int (p1 ^^^ p4)), .val (.ref b1), .unset, .unset, .unset, .unset, .unset, .unset, .unset, .unset, .unset] [(.int (0 : Int32)), (.int p0), (.int (0 : Int32)), (.ref b14), (.ref b14)])) _
    refine XS.iload X14.here hx rfl (hb hby at_48) rfl ?_
    show Steps p.tables e below (T14.setTop (mkF m 50 #[.val (.int p0), .val (.int p1), .val (.int p2), .val (.int p3), .val (.int p4), .val (.int p5), .val (.int n6), .val (.int (p1 ^^^ p4)), .val (.ref b1), .unset, .unset, .unset, .unset, .unset, .unset, .unset, .unset, .unset] [(.int n6), (.int (0 : Int32)), (.int p0), (.int (0 : Int32)), (.ref b14), (.ref b14)])) _
    refine st16 _ ?_
    show Steps p.tables e below (T16.setTop (mkF m 53 #[.val (.int p0), .val (.int p1), .val (.int p2), .val (.int p3), .val (.int p4), .val (.int p5), .val (.int n6), .val (.int (p1 ^^^ p4)), .val (.ref b1), .unset, .unset, .unset, .unset, .unset, .unset, .unset, .unset, .unset] [(.int (own_keep p0 (0 : Int32) n6)), (.int (0 : Int32)), (.ref b14), (.ref b14)])) _
    refine st17 _ ?_
    show Steps p.tables e below (T17.setTop (mkF m 54 #[.val (.int p0), .val (.int p1), .val (.int p2), .val (.int p3), .val (.int p4), .val (.int p5), .val (.int n6), .val (.int (p1 ^^^ p4)), .val (.ref b1), .unset, .unset, .unset, .unset, .unset, .unset, .unset, .unset, .unset] [(.ref b14)])) _
    refine XS.dup X17.here hx rfl (hb hby at_54) rfl rfl ?_
    show Steps p.tables e below (T17.setTop (mkF m 55 #[.val (.int p0), .val (.int p1), .val (.int p2), .val (.int p3), .val (.int p4), .val (.int p5), .val (.int n6), .val (.int (p1 ^^^ p4)), .val (.ref b1), .unset, .unset, .unset, .unset, .unset, .unset, .unset, .unset, .unset] [(.ref b14), (.ref b14)])) _
    refine XS.iconst X17.here hx rfl (hb hby at_55) ?_
    show Steps p.tables e below (T17.setTop (mkF m 56 #[.val (.int p0), .val (.int p1), .val (.int p2), .val (.int p3), .val (.int p4), .val (.int p5), .val (.int n6), .val (.int (p1 ^^^ p4)), .val (.ref b1), .unset, .unset, .unset, .unset, .unset, .unset, .unset, .unset, .unset] [(.int (1 : Int32)), (.ref b14), (.ref b14)])) _
    refine XS.iloadN X17.here hx rfl (hb hby at_56) rfl ?_
    show Steps p.tables e below (T17.setTop (mkF m 57 #[.val (.int p0), .val (.int p1), .val (.int p2), .val (.int p3), .val (.int p4), .val (.int p5), .val (.int n6), .val (.int (p1 ^^^ p4)), .val (.ref b1), .unset, .unset, .unset, .unset, .unset, .unset, .unset, .unset, .unset] [(.int p1), (.int (1 : Int32)), (.ref b14), (.ref b14)])) _
    refine XS.iconst X17.here hx rfl (hb hby at_57) ?_
    show Steps p.tables e below (T17.setTop (mkF m 58 #[.val (.int p0), .val (.int p1), .val (.int p2), .val (.int p3), .val (.int p4), .val (.int p5), .val (.int n6), .val (.int (p1 ^^^ p4)), .val (.ref b1), .unset, .unset, .unset, .unset, .unset, .unset, .unset, .unset, .unset] [(.int (1 : Int32)), (.int p1), (.int (1 : Int32)), (.ref b14), (.ref b14)])) _
    refine XS.iload X17.here hx rfl (hb hby at_58) rfl ?_
    show Steps p.tables e below (T17.setTop (mkF m 60 #[.val (.int p0), .val (.int p1), .val (.int p2), .val (.int p3), .val (.int p4), .val (.int p5), .val (.int n6), .val (.int (p1 ^^^ p4)), .val (.ref b1), .unset, .unset, .unset, .unset, .unset, .unset, .unset, .unset, .unset] [(.int n6), (.int (1 : Int32)), (.int p1), (.int (1 : Int32)), (.ref b14), (.ref b14)])) _
    refine st19 _ ?_
    show Steps p.tables e below (T19.setTop (mkF m 63 #[.val (.int p0), .val (.int p1), .val (.int p2), .val (.int p3), .val (.int p4), .val (.int p5), .val (.int n6), .val (.int (p1 ^^^ p4)), .val (.ref b1), .unset, .unset, .unset, .unset, .unset, .unset, .unset, .unset, .unset] [(.int (own_keep p1 (1 : Int32) n6)), (.int (1 : Int32)), (.ref b14), (.ref b14)])) _
    refine st20 _ ?_
    show Steps p.tables e below (T20.setTop (mkF m 64 #[.val (.int p0), .val (.int p1), .val (.int p2), .val (.int p3), .val (.int p4), .val (.int p5), .val (.int n6), .val (.int (p1 ^^^ p4)), .val (.ref b1), .unset, .unset, .unset, .unset, .unset, .unset, .unset, .unset, .unset] [(.ref b14)])) _
    refine XS.dup X20.here hx rfl (hb hby at_64) rfl rfl ?_
    show Steps p.tables e below (T20.setTop (mkF m 65 #[.val (.int p0), .val (.int p1), .val (.int p2), .val (.int p3), .val (.int p4), .val (.int p5), .val (.int n6), .val (.int (p1 ^^^ p4)), .val (.ref b1), .unset, .unset, .unset, .unset, .unset, .unset, .unset, .unset, .unset] [(.ref b14), (.ref b14)])) _
    refine XS.iconst X20.here hx rfl (hb hby at_65) ?_
    show Steps p.tables e below (T20.setTop (mkF m 66 #[.val (.int p0), .val (.int p1), .val (.int p2), .val (.int p3), .val (.int p4), .val (.int p5), .val (.int n6), .val (.int (p1 ^^^ p4)), .val (.ref b1), .unset, .unset, .unset, .unset, .unset, .unset, .unset, .unset, .unset] [(.int (2 : Int32)), (.ref b14), (.ref b14)])) _
    refine XS.iloadN X20.here hx rfl (hb hby at_66) rfl ?_
    show Steps p.tables e below (T20.setTop (mkF m 67 #[.val (.int p0), .val (.int p1), .val (.int p2), .val (.int p3), .val (.int p4), .val (.int p5), .val (.int n6), .val (.int (p1 ^^^ p4)), .val (.ref b1), .unset, .unset, .unset, .unset, .unset, .unset, .unset, .unset, .unset] [(.int p2), (.int (2 : Int32)), (.ref b14), (.ref b14)])) _
    refine XS.iconst X20.here hx rfl (hb hby at_67) ?_
    show Steps p.tables e below (T20.setTop (mkF m 68 #[.val (.int p0), .val (.int p1), .val (.int p2), .val (.int p3), .val (.int p4), .val (.int p5), .val (.int n6), .val (.int (p1 ^^^ p4)), .val (.ref b1), .unset, .unset, .unset, .unset, .unset, .unset, .unset, .unset, .unset] [(.int (2 : Int32)), (.int p2), (.int (2 : Int32)), (.ref b14), (.ref b14)])) _
    refine XS.iload X20.here hx rfl (hb hby at_68) rfl ?_
    show Steps p.tables e below (T20.setTop (mkF m 70 #[.val (.int p0), .val (.int p1), .val (.int p2), .val (.int p3), .val (.int p4), .val (.int p5), .val (.int n6), .val (.int (p1 ^^^ p4)), .val (.ref b1), .unset, .unset, .unset, .unset, .unset, .unset, .unset, .unset, .unset] [(.int n6), (.int (2 : Int32)), (.int p2), (.int (2 : Int32)), (.ref b14), (.ref b14)])) _
    refine st22 _ ?_
    show Steps p.tables e below (T22.setTop (mkF m 73 #[.val (.int p0), .val (.int p1), .val (.int p2), .val (.int p3), .val (.int p4), .val (.int p5), .val (.int n6), .val (.int (p1 ^^^ p4)), .val (.ref b1), .unset, .unset, .unset, .unset, .unset, .unset, .unset, .unset, .unset] [(.int (own_keep p2 (2 : Int32) n6)), (.int (2 : Int32)), (.ref b14), (.ref b14)])) _
    refine st23 _ ?_
    show Steps p.tables e below (T23.setTop (mkF m 74 #[.val (.int p0), .val (.int p1), .val (.int p2), .val (.int p3), .val (.int p4), .val (.int p5), .val (.int n6), .val (.int (p1 ^^^ p4)), .val (.ref b1), .unset, .unset, .unset, .unset, .unset, .unset, .unset, .unset, .unset] [(.ref b14)])) _
    refine XS.dup X23.here hx rfl (hb hby at_74) rfl rfl ?_
    show Steps p.tables e below (T23.setTop (mkF m 75 #[.val (.int p0), .val (.int p1), .val (.int p2), .val (.int p3), .val (.int p4), .val (.int p5), .val (.int n6), .val (.int (p1 ^^^ p4)), .val (.ref b1), .unset, .unset, .unset, .unset, .unset, .unset, .unset, .unset, .unset] [(.ref b14), (.ref b14)])) _
    refine XS.iconst X23.here hx rfl (hb hby at_75) ?_
    show Steps p.tables e below (T23.setTop (mkF m 76 #[.val (.int p0), .val (.int p1), .val (.int p2), .val (.int p3), .val (.int p4), .val (.int p5), .val (.int n6), .val (.int (p1 ^^^ p4)), .val (.ref b1), .unset, .unset, .unset, .unset, .unset, .unset, .unset, .unset, .unset] [(.int (3 : Int32)), (.ref b14), (.ref b14)])) _
    refine XS.iloadN X23.here hx rfl (hb hby at_76) rfl ?_
    show Steps p.tables e below (T23.setTop (mkF m 77 #[.val (.int p0), .val (.int p1), .val (.int p2), .val (.int p3), .val (.int p4), .val (.int p5), .val (.int n6), .val (.int (p1 ^^^ p4)), .val (.ref b1), .unset, .unset, .unset, .unset, .unset, .unset, .unset, .unset, .unset] [(.int p3), (.int (3 : Int32)), (.ref b14), (.ref b14)])) _
    refine XS.iconst X23.here hx rfl (hb hby at_77) ?_
    show Steps p.tables e below (T23.setTop (mkF m 78 #[.val (.int p0), .val (.int p1), .val (.int p2), .val (.int p3), .val (.int p4), .val (.int p5), .val (.int n6), .val (.int (p1 ^^^ p4)), .val (.ref b1), .unset, .unset, .unset, .unset, .unset, .unset, .unset, .unset, .unset] [(.int (3 : Int32)), (.int p3), (.int (3 : Int32)), (.ref b14), (.ref b14)])) _
    refine XS.iload X23.here hx rfl (hb hby at_78) rfl ?_
    show Steps p.tables e below (T23.setTop (mkF m 80 #[.val (.int p0), .val (.int p1), .val (.int p2), .val (.int p3), .val (.int p4), .val (.int p5), .val (.int n6), .val (.int (p1 ^^^ p4)), .val (.ref b1), .unset, .unset, .unset, .unset, .unset, .unset, .unset, .unset, .unset] [(.int n6), (.int (3 : Int32)), (.int p3), (.int (3 : Int32)), (.ref b14), (.ref b14)])) _
    refine st25 _ ?_
    show Steps p.tables e below (T25.setTop (mkF m 83 #[.val (.int p0), .val (.int p1), .val (.int p2), .val (.int p3), .val (.int p4), .val (.int p5), .val (.int n6), .val (.int (p1 ^^^ p4)), .val (.ref b1), .unset, .unset, .unset, .unset, .unset, .unset, .unset, .unset, .unset] [(.int (own_keep p3 (3 : Int32) n6)), (.int (3 : Int32)), (.ref b14), (.ref b14)])) _
    refine st26 _ ?_
    show Steps p.tables e below (T26.setTop (mkF m 84 #[.val (.int p0), .val (.int p1), .val (.int p2), .val (.int p3), .val (.int p4), .val (.int p5), .val (.int n6), .val (.int (p1 ^^^ p4)), .val (.ref b1), .unset, .unset, .unset, .unset, .unset, .unset, .unset, .unset, .unset] [(.ref b14)])) _
    refine XS.dup X26.here hx rfl (hb hby at_84) rfl rfl ?_
    show Steps p.tables e below (T26.setTop (mkF m 85 #[.val (.int p0), .val (.int p1), .val (.int p2), .val (.int p3), .val (.int p4), .val (.int p5), .val (.int n6), .val (.int (p1 ^^^ p4)), .val (.ref b1), .unset, .unset, .unset, .unset, .unset, .unset, .unset, .unset, .unset] [(.ref b14), (.ref b14)])) _
    refine XS.iconst X26.here hx rfl (hb hby at_85) ?_
    show Steps p.tables e below (T26.setTop (mkF m 86 #[.val (.int p0), .val (.int p1), .val (.int p2), .val (.int p3), .val (.int p4), .val (.int p5), .val (.int n6), .val (.int (p1 ^^^ p4)), .val (.ref b1), .unset, .unset, .unset, .unset, .unset, .unset, .unset, .unset, .unset] [(.int (4 : Int32)), (.ref b14), (.ref b14)])) _
    refine XS.iload X26.here hx rfl (hb hby at_86) rfl ?_
    show Steps p.tables e below (T26.setTop (mkF m 88 #[.val (.int p0), .val (.int p1), .val (.int p2), .val (.int p3), .val (.int p4), .val (.int p5), .val (.int n6), .val (.int (p1 ^^^ p4)), .val (.ref b1), .unset, .unset, .unset, .unset, .unset, .unset, .unset, .unset, .unset] [(.int (p1 ^^^ p4)), (.int (4 : Int32)), (.ref b14), (.ref b14)])) _
    refine XS.iconst X26.here hx rfl (hb hby at_88) ?_
    show Steps p.tables e below (T26.setTop (mkF m 89 #[.val (.int p0), .val (.int p1), .val (.int p2), .val (.int p3), .val (.int p4), .val (.int p5), .val (.int n6), .val (.int (p1 ^^^ p4)), .val (.ref b1), .unset, .unset, .unset, .unset, .unset, .unset, .unset, .unset, .unset] [(.int (4 : Int32)), (.int (p1 ^^^ p4)), (.int (4 : Int32)), (.ref b14), (.ref b14)])) _
    refine XS.iload X26.here hx rfl (hb hby at_89) rfl ?_
    show Steps p.tables e below (T26.setTop (mkF m 91 #[.val (.int p0), .val (.int p1), .val (.int p2), .val (.int p3), .val (.int p4), .val (.int p5), .val (.int n6), .val (.int (p1 ^^^ p4)), .val (.ref b1), .unset, .unset, .unset, .unset, .unset, .unset, .unset, .unset, .unset] [(.int n6), (.int (4 : Int32)), (.int (p1 ^^^ p4)), (.int (4 : Int32)), (.ref b14), (.ref b14)])) _
    refine st28 _ ?_
    show Steps p.tables e below (T28.setTop (mkF m 94 #[.val (.int p0), .val (.int p1), .val (.int p2), .val (.int p3), .val (.int p4), .val (.int p5), .val (.int n6), .val (.int (p1 ^^^ p4)), .val (.ref b1), .unset, .unset, .unset, .unset, .unset, .unset, .unset, .unset, .unset] [(.int (own_keep (p1 ^^^ p4) (4 : Int32) n6)), (.int (4 : Int32)), (.ref b14), (.ref b14)])) _
    refine st29 _ ?_
    show Steps p.tables e below (T29.setTop (mkF m 95 #[.val (.int p0), .val (.int p1), .val (.int p2), .val (.int p3), .val (.int p4), .val (.int p5), .val (.int n6), .val (.int (p1 ^^^ p4)), .val (.ref b1), .unset, .unset, .unset, .unset, .unset, .unset, .unset, .unset, .unset] [(.ref b14)])) _
    refine XS.astore X29.here hx rfl (hb hby at_95) rfl rfl (l' := #[.val (.int p0), .val (.int p1), .val (.int p2), .val (.int p3), .val (.int p4), .val (.int p5), .val (.int n6), .val (.int (p1 ^^^ p4)), .val (.ref b1), .val (.ref b14), .unset, .unset, .unset, .unset, .unset, .unset, .unset, .unset]) rfl ?_
    exact k
  obtain ⟨lq31, X31, N31⟩ : ∃ lq, Stand p l e room_1 s m #[(.int p0), (.int p1), (.int p2), (.int p3), (.int p4), (.int p5)] below meth c T29 lq 2 10 ∧ Fr n0 lq := ⟨_, X29, N29⟩
  obtain ⟨T32, h32, k32, X32, e32, E32, A32, st32⟩ := newP X31 hx hZ (hw _ (List.mem_of_getElem? (i := 0) rfl)) e29 (g := (mkF m 98 #[.val (.int p0), .val (.int p1), .val (.int p2), .val (.int p3), .val (.int p4), .val (.int p5), .val (.int n6), .val (.int (p1 ^^^ p4)), .val (.ref b1), .val (.ref b14), .unset, .unset, .unset, .unset, .unset, .unset, .unset, .unset] [(.int (5 : Int32))])) rfl (hb hby at_98) rfl (by decide) (cap := 5) (by decide) (by decide) (by decide) (by decide)
  obtain ⟨b32, g32⟩ : ∃ z, z = h29.size := ⟨_, rfl⟩
  rw [← g32] at A32 st32
  have ne_b1_b32 : b1 ≠ b32 := Nat.ne_of_lt (Nat.lt_of_lt_of_le V_b1_29.lt (Nat.le_of_eq g32.symm))
  have ne_b14_b32 : b14 ≠ b32 := Nat.ne_of_lt (Nat.lt_of_lt_of_le V29_b14.lt (Nat.le_of_eq g32.symm))
  have g_b32 : n0 ≤ b32 := Nat.le_trans Zs30 (Nat.le_of_eq g32.symm)
  have V_b1_32 := V_b1_29.ext E32
  have V_b14_32 := V29_b14.ext E32
  have Zs33 := Nat.le_trans Zs30 E32.1
  have V_b32 : Arv Z h32 b32 k32 .int (5 : Int32) [(.int (0 : Int32)), (.int (0 : Int32)), (.int (0 : Int32)), (.int (0 : Int32)), (.int (0 : Int32))] (.int (0 : Int32)) := (Arv.new A32 (by decide)).pad (pad_rep [] (.int (0 : Int32)) 5)
  obtain ⟨cl34, Ar34, q34, S34, N34m, H34, G34⟩ := id V_b32
  have hin34 : ¬ ((0 : Int32) < 0 ∨ cl34.slots.size ≤ ((0 : Int32)).toNatClampNeg) := inb_of S34 ⟨by decide, by decide⟩
  obtain ⟨T34, h34, X34, e34, W34, st34⟩ := stI X32 hx hZ e32 Ar34 (j := (0 : Int32)) hin34 (g := (mkF m 103 #[.val (.int p0), .val (.int p1), .val (.int p2), .val (.int p3), .val (.int p4), .val (.int p5), .val (.int n6), .val (.int (p1 ^^^ p4)), .val (.ref b1), .val (.ref b14), .unset, .unset, .unset, .unset, .unset, .unset, .unset, .unset] [(.int p0), (.int (0 : Int32)), (.ref b32), (.ref b32)])) rfl rfl (hb hby at_103)
  have V34_b32 : Arv Z h34 b32 k32 .int (5 : Int32) [(.int p0), (.int (0 : Int32)), (.int (0 : Int32)), (.int (0 : Int32)), (.int (0 : Int32))] (.int (0 : Int32)) := Arv.set Ar34 q34 S34 N34m H34 G34 rfl W34 0 rfl (Nat.le_of_ble_eq_true rfl)
  have V_b1_34 := V_b1_32.other W34 ne_b1_b32
  have V_b14_34 := V_b14_32.other W34 ne_b14_b32
  have Zs35 := Nat.le_trans Zs33 (Keep.of_wr W34).1
  have N34 := Fr.snoc X34 N31 g_b32
  obtain ⟨cl36, Ar36, q36, S36, N36m, H36, G36⟩ := id V34_b32
  have hin36 : ¬ ((1 : Int32) < 0 ∨ cl36.slots.size ≤ ((1 : Int32)).toNatClampNeg) := inb_of S36 ⟨by decide, by decide⟩
  obtain ⟨T36, h36, X36, e36, W36, st36⟩ := stI X34 hx hZ e34 Ar36 (j := (1 : Int32)) hin36 (g := (mkF m 107 #[.val (.int p0), .val (.int p1), .val (.int p2), .val (.int p3), .val (.int p4), .val (.int p5), .val (.int n6), .val (.int (p1 ^^^ p4)), .val (.ref b1), .val (.ref b14), .unset, .unset, .unset, .unset, .unset, .unset, .unset, .unset] [(.int p1), (.int (1 : Int32)), (.ref b32), (.ref b32)])) rfl rfl (hb hby at_107)
  have V36_b32 : Arv Z h36 b32 k32 .int (5 : Int32) [(.int p0), (.int p1), (.int (0 : Int32)), (.int (0 : Int32)), (.int (0 : Int32))] (.int (0 : Int32)) := Arv.set Ar36 q36 S36 N36m H36 G36 rfl W36 1 rfl (Nat.le_of_ble_eq_true rfl)
  have V_b1_36 := V_b1_34.other W36 ne_b1_b32
  have V_b14_36 := V_b14_34.other W36 ne_b14_b32
  have Zs37 := Nat.le_trans Zs35 (Keep.of_wr W36).1
  have N36 := Fr.snoc X36 N34 g_b32
  obtain ⟨cl38, Ar38, q38, S38, N38m, H38, G38⟩ := id V36_b32
  have hin38 : ¬ ((2 : Int32) < 0 ∨ cl38.slots.size ≤ ((2 : Int32)).toNatClampNeg) := inb_of S38 ⟨by decide, by decide⟩
  obtain ⟨T38, h38, X38, e38, W38, st38⟩ := stI X36 hx hZ e36 Ar38 (j := (2 : Int32)) hin38 (g := (mkF m 111 #[.val (.int p0), .val (.int p1), .val (.int p2), .val (.int p3), .val (.int p4), .val (.int p5), .val (.int n6), .val (.int (p1 ^^^ p4)), .val (.ref b1), .val (.ref b14), .unset, .unset, .unset, .unset, .unset, .unset, .unset, .unset] [(.int p2), (.int (2 : Int32)), (.ref b32), (.ref b32)])) rfl rfl (hb hby at_111)
  have V38_b32 : Arv Z h38 b32 k32 .int (5 : Int32) [(.int p0), (.int p1), (.int p2), (.int (0 : Int32)), (.int (0 : Int32))] (.int (0 : Int32)) := Arv.set Ar38 q38 S38 N38m H38 G38 rfl W38 2 rfl (Nat.le_of_ble_eq_true rfl)
  have V_b1_38 := V_b1_36.other W38 ne_b1_b32
  have V_b14_38 := V_b14_36.other W38 ne_b14_b32
  have Zs39 := Nat.le_trans Zs37 (Keep.of_wr W38).1
  have N38 := Fr.snoc X38 N36 g_b32
  obtain ⟨cl40, Ar40, q40, S40, N40m, H40, G40⟩ := id V38_b32
  have hin40 : ¬ ((3 : Int32) < 0 ∨ cl40.slots.size ≤ ((3 : Int32)).toNatClampNeg) := inb_of S40 ⟨by decide, by decide⟩
  obtain ⟨T40, h40, X40, e40, W40, st40⟩ := stI X38 hx hZ e38 Ar40 (j := (3 : Int32)) hin40 (g := (mkF m 115 #[.val (.int p0), .val (.int p1), .val (.int p2), .val (.int p3), .val (.int p4), .val (.int p5), .val (.int n6), .val (.int (p1 ^^^ p4)), .val (.ref b1), .val (.ref b14), .unset, .unset, .unset, .unset, .unset, .unset, .unset, .unset] [(.int p3), (.int (3 : Int32)), (.ref b32), (.ref b32)])) rfl rfl (hb hby at_115)
  have V40_b32 : Arv Z h40 b32 k32 .int (5 : Int32) [(.int p0), (.int p1), (.int p2), (.int p3), (.int (0 : Int32))] (.int (0 : Int32)) := Arv.set Ar40 q40 S40 N40m H40 G40 rfl W40 3 rfl (Nat.le_of_ble_eq_true rfl)
  have V_b1_40 := V_b1_38.other W40 ne_b1_b32
  have V_b14_40 := V_b14_38.other W40 ne_b14_b32
  have Zs41 := Nat.le_trans Zs39 (Keep.of_wr W40).1
  have N40 := Fr.snoc X40 N38 g_b32
  obtain ⟨cl42, Ar42, q42, S42, N42m, H42, G42⟩ := id V40_b32
  have hin42 : ¬ ((4 : Int32) < 0 ∨ cl42.slots.size ≤ ((4 : Int32)).toNatClampNeg) := inb_of S42 ⟨by decide, by decide⟩
  obtain ⟨T42, h42, X42, e42, W42, st42⟩ := stI X40 hx hZ e40 Ar42 (j := (4 : Int32)) hin42 (g := (mkF m 120 #[.val (.int p0), .val (.int p1), .val (.int p2), .val (.int p3), .val (.int p4), .val (.int p5), .val (.int n6), .val (.int (p1 ^^^ p4)), .val (.ref b1), .val (.ref b14), .unset, .unset, .unset, .unset, .unset, .unset, .unset, .unset] [(.int (p1 ^^^ p4)), (.int (4 : Int32)), (.ref b32), (.ref b32)])) rfl rfl (hb hby at_120)
  have V42_b32 : Arv Z h42 b32 k32 .int (5 : Int32) [(.int p0), (.int p1), (.int p2), (.int p3), (.int (p1 ^^^ p4))] (.int (0 : Int32)) := Arv.set Ar42 q42 S42 N42m H42 G42 rfl W42 4 rfl (Nat.le_of_ble_eq_true rfl)
  have V_b1_42 := V_b1_40.other W42 ne_b1_b32
  have V_b14_42 := V_b14_40.other W42 ne_b14_b32
  have Zs43 := Nat.le_trans Zs41 (Keep.of_wr W42).1
  have N42 := Fr.snoc X42 N40 g_b32
  have pre4 : ∀ t, Steps p.tables e below (T42.setTop (mkF m 123 #[.val (.int p0), .val (.int p1), .val (.int p2), .val (.int p3), .val (.int p4), .val (.int p5), .val (.int n6), .val (.int (p1 ^^^ p4)), .val (.ref b1), .val (.ref b14), .val (.ref b32), .unset, .unset, .unset, .unset, .unset, .unset, .unset] [])) t → Steps p.tables e below (s₁.setTop (entryFrame m #[(.int p0), (.int p1), (.int p2), (.int p3), (.int p4), (.int p5)] maxLocals)) t := by
    intro t k
    refine pre3 t ?_
    show Steps p.tables e below (T29.setTop (mkF m 97 #[.val (.int p0), .val (.int p1), .val (.int p2), .val (.int p3), .val (.int p4), .val (.int p5), .val (.int n6), .val (.int (p1 ^^^ p4)), .val (.ref b1), .val (.ref b14), .unset, .unset, .unset, .unset, .unset, .unset, .unset, .unset] [])) _
    refine XS.iconst X31.here hx rfl (hb hby at_97) ?_
    show Steps p.tables e below (T29.setTop (mkF m 98 #[.val (.int p0), .val (.int p1), .val (.int p2), .val (.int p3), .val (.int p4), .val (.int p5), .val (.int n6), .val (.int (p1 ^^^ p4)), .val (.ref b1), .val (.ref b14), .unset, .unset, .unset, .unset, .unset, .unset, .unset, .unset] [(.int (5 : Int32))])) _
    refine st32 _ ?_
    show Steps p.tables e below (T32.setTop (mkF m 100 #[.val (.int p0), .val (.int p1), .val (.int p2), .val (.int p3), .val (.int p4), .val (.int p5), .val (.int n6), .val (.int (p1 ^^^ p4)), .val (.ref b1), .val (.ref b14), .unset, .unset, .unset, .unset, .unset, .unset, .unset, .unset] [(.ref b32)])) _
    refine XS.dup X32.here hx rfl (hb hby at_100) rfl rfl ?_
    show Steps p.tables e below (T32.setTop (mkF m 101 #[.val (.int p0), .val (.int p1), .val (.int p2), .val (.int p3), .val (.int p4), .val (.int p5), .val (.int n6), .val (.int (p1 ^^^ p4)), .val (.ref b1), .val (.ref b14), .unset, .unset, .unset, .unset, .unset, .unset, .unset, .unset] [(.ref b32), (.ref b32)])) _
    refine XS.iconst X32.here hx rfl (hb hby at_101) ?_
    show Steps p.tables e below (T32.setTop (mkF m 102 #[.val (.int p0), .val (.int p1), .val (.int p2), .val (.int p3), .val (.int p4), .val (.int p5), .val (.int n6), .val (.int (p1 ^^^ p4)), .val (.ref b1), .val (.ref b14), .unset, .unset, .unset, .unset, .unset, .unset, .unset, .unset] [(.int (0 : Int32)), (.ref b32), (.ref b32)])) _
    refine XS.iloadN X32.here hx rfl (hb hby at_102) rfl ?_
    show Steps p.tables e below (T32.setTop (mkF m 103 #[.val (.int p0), .val (.int p1), .val (.int p2), .val (.int p3), .val (.int p4), .val (.int p5), .val (.int n6), .val (.int (p1 ^^^ p4)), .val (.ref b1), .val (.ref b14), .unset, .unset, .unset, .unset, .unset, .unset, .unset, .unset] [(.int p0), (.int (0 : Int32)), (.ref b32), (.ref b32)])) _
    refine st34 _ ?_
    show Steps p.tables e below (T34.setTop (mkF m 104 #[.val (.int p0), .val (.int p1), .val (.int p2), .val (.int p3), .val (.int p4), .val (.int p5), .val (.int n6), .val (.int (p1 ^^^ p4)), .val (.ref b1), .val (.ref b14), .unset, .unset, .unset, .unset, .unset, .unset, .unset, .unset] [(.ref b32)])) _
    refine XS.dup X34.here hx rfl (hb hby at_104) rfl rfl ?_
    show Steps p.tables e below (T34.setTop (mkF m 105 #[.val (.int p0), .val (.int p1), .val (.int p2), .val (.int p3), .val (.int p4), .val (.int p5), .val (.int n6), .val (.int (p1 ^^^ p4)), .val (.ref b1), .val (.ref b14), .unset, .unset, .unset, .unset, .unset, .unset, .unset, .unset] [(.ref b32), (.ref b32)])) _
    refine XS.iconst X34.here hx rfl (hb hby at_105) ?_
    show Steps p.tables e below (T34.setTop (mkF m 106 #[.val (.int p0), .val (.int p1), .val (.int p2), .val (.int p3), .val (.int p4), .val (.int p5), .val (.int n6), .val (.int (p1 ^^^ p4)), .val (.ref b1), .val (.ref b14), .unset, .unset, .unset, .unset, .unset, .unset, .unset, .unset] [(.int (1 : Int32)), (.ref b32), (.ref b32)])) _
    refine XS.iloadN X34.here hx rfl (hb hby at_106) rfl ?_
    show Steps p.tables e below (T34.setTop (mkF m 107 #[.val (.int p0), .val (.int p1), .val (.int p2), .val (.int p3), .val (.int p4), .val (.int p5), .val (.int n6), .val (.int (p1 ^^^ p4)), .val (.ref b1), .val (.ref b14), .unset, .unset, .unset, .unset, .unset, .unset, .unset, .unset] [(.int p1), (.int (1 : Int32)), (.ref b32), (.ref b32)])) _
    refine st36 _ ?_
    show Steps p.tables e below (T36.setTop (mkF m 108 #[.val (.int p0), .val (.int p1), .val (.int p2), .val (.int p3), .val (.int p4), .val (.int p5), .val (.int n6), .val (.int (p1 ^^^ p4)), .val (.ref b1), .val (.ref b14), .unset, .unset, .unset, .unset, .unset, .unset, .unset, .unset] [(.ref b32)])) _
    refine XS.dup X36.here hx rfl (hb hby at_108) rfl rfl ?_
    show Steps p.tables e below (T36.setTop (mkF m 109 #[.val (.int p0), .val (.int p1), .val (.int p2), .val (.int p3), .val (.int p4), .val (.int p5), .val (.int n6), .val (.int (p1 ^^^ p4)), .val (.ref b1), .val (.ref b14), .unset, .unset, .unset, .unset, .unset, .unset, .unset, .unset] [(.ref b32), (.ref b32)])) _
    refine XS.iconst X36.here hx rfl (hb hby at_109) ?_
    show Steps p.tables e below (T36.setTop (mkF m 110 #[.val (.int p0), .val (.int p1), .val (.int p2), .val (.int p3), .val (.int p4), .val (.int p5), .val (.int n6), .val (.int (p1 ^^^ p4)), .val (.ref b1), .val (.ref b14), .unset, .unset, .unset, .unset, .unset, .unset, .unset, .unset] [(.int (2 : Int32)), (.ref b32), (.ref b32)])) _
    refine XS.iloadN X36.here hx rfl (hb hby at_110) rfl ?_
    show Steps p.tables e below (T36.setTop (mkF m 111 #[.val (.int p0), .val (.int p1), .val (.int p2), .val (.int p3), .val (.int p4), .val (.int p5), .val (.int n6), .val (.int (p1 ^^^ p4)), .val (.ref b1), .val (.ref b14), .unset, .unset, .unset, .unset, .unset, .unset, .unset, .unset] [(.int p2), (.int (2 : Int32)), (.ref b32), (.ref b32)])) _
    refine st38 _ ?_
    show Steps p.tables e below (T38.setTop (mkF m 112 #[.val (.int p0), .val (.int p1), .val (.int p2), .val (.int p3), .val (.int p4), .val (.int p5), .val (.int n6), .val (.int (p1 ^^^ p4)), .val (.ref b1), .val (.ref b14), .unset, .unset, .unset, .unset, .unset, .unset, .unset, .unset] [(.ref b32)])) _
    refine XS.dup X38.here hx rfl (hb hby at_112) rfl rfl ?_
    show Steps p.tables e below (T38.setTop (mkF m 113 #[.val (.int p0), .val (.int p1), .val (.int p2), .val (.int p3), .val (.int p4), .val (.int p5), .val (.int n6), .val (.int (p1 ^^^ p4)), .val (.ref b1), .val (.ref b14), .unset, .unset, .unset, .unset, .unset, .unset, .unset, .unset] [(.ref b32), (.ref b32)])) _
    refine XS.iconst X38.here hx rfl (hb hby at_113) ?_
    show Steps p.tables e below (T38.setTop (mkF m 114 #[.val (.int p0), .val (.int p1), .val (.int p2), .val (.int p3), .val (.int p4), .val (.int p5), .val (.int n6), .val (.int (p1 ^^^ p4)), .val (.ref b1), .val (.ref b14), .unset, .unset, .unset, .unset, .unset, .unset, .unset, .unset] [(.int (3 : Int32)), (.ref b32), (.ref b32)])) _
    refine XS.iloadN X38.here hx rfl (hb hby at_114) rfl ?_
    show Steps p.tables e below (T38.setTop (mkF m 115 #[.val (.int p0), .val (.int p1), .val (.int p2), .val (.int p3), .val (.int p4), .val (.int p5), .val (.int n6), .val (.int (p1 ^^^ p4)), .val (.ref b1), .val (.ref b14), .unset, .unset, .unset, .unset, .unset, .unset, .unset, .unset] [(.int p3), (.int (3 : Int32)), (.ref b32), (.ref b32)])) _
    refine st40 _ ?_
    show Steps p.tables e below (T40.setTop (mkF m 116 #[.val (.int p0), .val (.int p1), .val (.int p2), .val (.int p3), .val (.int p4), .val (.int p5), .val (.int n6), .val (.int (p1 ^^^ p4)), .val (.ref b1), .val (.ref b14), .unset, .unset, .unset, .unset, .unset, .unset, .unset, .unset] [(.ref b32)])) _
    refine XS.dup X40.here hx rfl (hb hby at_116) rfl rfl ?_
    show Steps p.tables e below (T40.setTop (mkF m 117 #[.val (.int p0), .val (.int p1), .val (.int p2), .val (.int p3), .val (.int p4), .val (.int p5), .val (.int n6), .val (.int (p1 ^^^ p4)), .val (.ref b1), .val (.ref b14), .unset, .unset, .unset, .unset, .unset, .unset, .unset, .unset] [(.ref b32), (.ref b32)])) _
    refine XS.iconst X40.here hx rfl (hb hby at_117) ?_
    show Steps p.tables e below (T40.setTop (mkF m 118 #[.val (.int p0), .val (.int p1), .val (.int p2), .val (.int p3), .val (.int p4), .val (.int p5), .val (.int n6), .val (.int (p1 ^^^ p4)), .val (.ref b1), .val (.ref b14), .unset, .unset, .unset, .unset, .unset, .unset, .unset, .unset] [(.int (4 : Int32)), (.ref b32), (.ref b32)])) _
    refine XS.iload X40.here hx rfl (hb hby at_118) rfl ?_
    show Steps p.tables e below (T40.setTop (mkF m 120 #[.val (.int p0), .val (.int p1), .val (.int p2), .val (.int p3), .val (.int p4), .val (.int p5), .val (.int n6), .val (.int (p1 ^^^ p4)), .val (.ref b1), .val (.ref b14), .unset, .unset, .unset, .unset, .unset, .unset, .unset, .unset] [(.int (p1 ^^^ p4)), (.int (4 : Int32)), (.ref b32), (.ref b32)])) _
    refine st42 _ ?_
    show Steps p.tables e below (T42.setTop (mkF m 121 #[.val (.int p0), .val (.int p1), .val (.int p2), .val (.int p3), .val (.int p4), .val (.int p5), .val (.int n6), .val (.int (p1 ^^^ p4)), .val (.ref b1), .val (.ref b14), .unset, .unset, .unset, .unset, .unset, .unset, .unset, .unset] [(.ref b32)])) _
    refine XS.astore X42.here hx rfl (hb hby at_121) rfl rfl (l' := #[.val (.int p0), .val (.int p1), .val (.int p2), .val (.int p3), .val (.int p4), .val (.int p5), .val (.int n6), .val (.int (p1 ^^^ p4)), .val (.ref b1), .val (.ref b14), .val (.ref b32), .unset, .unset, .unset, .unset, .unset, .unset, .unset]) rfl ?_
    exact k
  obtain ⟨lq44, X44, N44⟩ : ∃ lq, Stand p l e room_1 s m #[(.int p0), (.int p1), (.int p2), (.int p3), (.int p4), (.int p5)] below meth c T42 lq 3 15 ∧ Fr n0 lq := ⟨_, X42, N42⟩
  obtain ⟨_, _, ⟨T45, L45, k45, n45⟩, -, X45, ⟨Lc45, hQ45, l45, y45, z45⟩, st45⟩ := Jvm.LawKit.callS X44 hx (y := (⟨"com/example/frangia/frangia/analysis/LrAutomaton$Walk", "hash", "([II)I"⟩ : MethodName)) hown (mvT hZ (hw _ (List.mem_of_getElem? (i := 5) rfl))) (mvT hZ (hw _ (List.mem_of_getElem? (i := 6) rfl))) (mvT hZ (hw _ (List.mem_of_getElem? (i := 7) rfl))) (mvT hZ (hw _ (List.mem_of_getElem? (i := 8) rfl))) (by decide) (backOf (W := 0) (rm2 l Z a0 hw [] b1 n6 nn [p0, p1, p2, p3, (p1 ^^^ p4)] k1 h42 n0 Zs43 en6 hnn V_b1_42 rfl) hZ (hw _ (List.mem_of_getElem? (i := 8) rfl)) (hw _ (List.mem_of_getElem? (i := 7) rfl)) (by decide) (by decide)) (g := (mkF m 127 #[.val (.int p0), .val (.int p1), .val (.int p2), .val (.int p3), .val (.int p4), .val (.int p5), .val (.int n6), .val (.int (p1 ^^^ p4)), .val (.ref b1), .val (.ref b14), .val (.ref b32), .unset, .unset, .unset, .unset, .unset, .unset, .unset] [(.int n6), (.ref b1)])) rfl (by rw [hml]; rfl) (argsL := [(.ref b1), (.int n6)]) (rest := []) (lenOf pd_1 rfl) rfl (by show 2 * 0 + _ ≤ _; exact Nat.le_of_eq rfl) (hb hby at_127) (fun _ _ => ⟨rfl, e42, (by decide : 3 + 0 ≤ _), (by decide : 15 + 0 ≤ _)⟩)
  dsimp only [Pt.U, Pt.locs, Pt.cells, Pt.slots] at X45 l45 y45 z45 st45 hQ45
  subst l45 y45 z45
  obtain ⟨rfl, N45q, e45q⟩ := hQ45
  have N45 := Fr.app N44 N45q
  obtain ⟨_, _, ⟨T46, L46, k46, n46⟩, -, X46, ⟨Lc46, hQ46, l46, y46, z46⟩, st46⟩ := Jvm.LawKit.callS X45 hx (y := (⟨"com/example/frangia/frangia/analysis/LrAutomaton$Walk", "hash", "([II)I"⟩ : MethodName)) hown (mvT hZ (hw _ (List.mem_of_getElem? (i := 5) rfl))) (mvT hZ (hw _ (List.mem_of_getElem? (i := 6) rfl))) (mvT hZ (hw _ (List.mem_of_getElem? (i := 7) rfl))) (mvT hZ (hw _ (List.mem_of_getElem? (i := 8) rfl))) (by decide) (backOf (W := 0) (rm2 l Z a0 hw [] b14 n6 nn [own_keep p0 0 n6, own_keep p1 1 n6, own_keep p2 2 n6, own_keep p3 3 n6, own_keep (p1 ^^^ p4) 4 n6] k14 h42 n0 Zs43 en6 hnn V_b14_42 rfl) hZ (hw _ (List.mem_of_getElem? (i := 8) rfl)) (hw _ (List.mem_of_getElem? (i := 7) rfl)) (by decide) (by decide)) (g := (mkF m 136 #[.val (.int p0), .val (.int p1), .val (.int p2), .val (.int p3), .val (.int p4), .val (.int p5), .val (.int n6), .val (.int (p1 ^^^ p4)), .val (.ref b1), .val (.ref b14), .val (.ref b32), .val (.int (own_hash [p0, p1, p2, p3, (p1 ^^^ p4)] nn)), .unset, .unset, .unset, .unset, .unset, .unset] [(.int n6), (.ref b14)])) rfl (by rw [hml]; rfl) (argsL := [(.ref b14), (.int n6)]) (rest := []) (lenOf pd_1 rfl) rfl (by show 2 * 0 + _ ≤ _; exact Nat.le_of_eq rfl) (hb hby at_136) (fun _ _ => ⟨rfl, e45q, (by decide : 3 + 0 ≤ _), (by decide : 15 + 0 ≤ _)⟩)
  dsimp only [Pt.U, Pt.locs, Pt.cells, Pt.slots] at X46 l46 y46 z46 st46 hQ46
  subst l46 y46 z46
  obtain ⟨rfl, N46q, e46q⟩ := hQ46
  have N46 := Fr.app N45 N46q
  have pre5 : ∀ t, Steps p.tables e below (T46.setTop (mkF m 145 #[.val (.int p0), .val (.int p1), .val (.int p2), .val (.int p3), .val (.int p4), .val (.int p5), .val (.int n6), .val (.int (p1 ^^^ p4)), .val (.ref b1), .val (.ref b14), .val (.ref b32), .val (.int (own_hash [p0, p1, p2, p3, (p1 ^^^ p4)] nn)), .val (.int (own_hash [own_keep p0 0 n6, own_keep p1 1 n6, own_keep p2 2 n6, own_keep p3 3 n6, own_keep (p1 ^^^ p4) 4 n6] nn)), .unset, .unset, .unset, .unset, .unset] [(.int (own_hash [own_keep p0 0 n6, own_keep p1 1 n6, own_keep p2 2 n6, own_keep p3 3 n6, own_keep (p1 ^^^ p4) 4 n6] nn)), (.int (own_hash [p0, p1, p2, p3, (p1 ^^^ p4)] nn))])) t → Steps p.tables e below (s₁.setTop (entryFrame m #[(.int p0), (.int p1), (.int p2), (.int p3), (.int p4), (.int p5)] maxLocals)) t := by
    intro t k
    refine pre4 t ?_
    show Steps p.tables e below (T42.setTop (mkF m 123 #[.val (.int p0), .val (.int p1), .val (.int p2), .val (.int p3), .val (.int p4), .val (.int p5), .val (.int n6), .val (.int (p1 ^^^ p4)), .val (.ref b1), .val (.ref b14), .val (.ref b32), .unset, .unset, .unset, .unset, .unset, .unset, .unset] [])) _
    refine XS.aload X44.here hx rfl (hb hby at_123) rfl rfl ?_
    show Steps p.tables e below (T42.setTop (mkF m 125 #[.val (.int p0), .val (.int p1), .val (.int p2), .val (.int p3), .val (.int p4), .val (.int p5), .val (.int n6), .val (.int (p1 ^^^ p4)), .val (.ref b1), .val (.ref b14), .val (.ref b32), .unset, .unset, .unset, .unset, .unset, .unset, .unset] [(.ref b1)])) _
    refine XS.iload X44.here hx rfl (hb hby at_125) rfl ?_
    show Steps p.tables e below (T42.setTop (mkF m 127 #[.val (.int p0), .val (.int p1), .val (.int p2), .val (.int p3), .val (.int p4), .val (.int p5), .val (.int n6), .val (.int (p1 ^^^ p4)), .val (.ref b1), .val (.ref b14), .val (.ref b32), .unset, .unset, .unset, .unset, .unset, .unset, .unset] [(.int n6), (.ref b1)])) _
    refine st45 _ ?_
    show Steps p.tables e below (T45.setTop (mkF m 130 #[.val (.int p0), .val (.int p1), .val (.int p2), .val (.int p3), .val (.int p4), .val (.int p5), .val (.int n6), .val (.int (p1 ^^^ p4)), .val (.ref b1), .val (.ref b14), .val (.ref b32), .unset, .unset, .unset, .unset, .unset, .unset, .unset] [(.int (own_hash [p0, p1, p2, p3, (p1 ^^^ p4)] nn))])) _
    refine XS.istore X45.here hx rfl (hb hby at_130) rfl (l' := #[.val (.int p0), .val (.int p1), .val (.int p2), .val (.int p3), .val (.int p4), .val (.int p5), .val (.int n6), .val (.int (p1 ^^^ p4)), .val (.ref b1), .val (.ref b14), .val (.ref b32), .val (.int (own_hash [p0, p1, p2, p3, (p1 ^^^ p4)] nn)), .unset, .unset, .unset, .unset, .unset, .unset]) rfl ?_
    show Steps p.tables e below (T45.setTop (mkF m 132 #[.val (.int p0), .val (.int p1), .val (.int p2), .val (.int p3), .val (.int p4), .val (.int p5), .val (.int n6), .val (.int (p1 ^^^ p4)), .val (.ref b1), .val (.ref b14), .val (.ref b32), .val (.int (own_hash [p0, p1, p2, p3, (p1 ^^^ p4)] nn)), .unset, .unset, .unset, .unset, .unset, .unset] [])) _
    refine XS.aload X45.here hx rfl (hb hby at_132) rfl rfl ?_
    show Steps p.tables e below (T45.setTop (mkF m 134 #[.val (.int p0), .val (.int p1), .val (.int p2), .val (.int p3), .val (.int p4), .val (.int p5), .val (.int n6), .val (.int (p1 ^^^ p4)), .val (.ref b1), .val (.ref b14), .val (.ref b32), .val (.int (own_hash [p0, p1, p2, p3, (p1 ^^^ p4)] nn)), .unset, .unset, .unset, .unset, .unset, .unset] [(.ref b14)])) _
    refine XS.iload X45.here hx rfl (hb hby at_134) rfl ?_
    show Steps p.tables e below (T45.setTop (mkF m 136 #[.val (.int p0), .val (.int p1), .val (.int p2), .val (.int p3), .val (.int p4), .val (.int p5), .val (.int n6), .val (.int (p1 ^^^ p4)), .val (.ref b1), .val (.ref b14), .val (.ref b32), .val (.int (own_hash [p0, p1, p2, p3, (p1 ^^^ p4)] nn)), .unset, .unset, .unset, .unset, .unset, .unset] [(.int n6), (.ref b14)])) _
    refine st46 _ ?_
    show Steps p.tables e below (T46.setTop (mkF m 139 #[.val (.int p0), .val (.int p1), .val (.int p2), .val (.int p3), .val (.int p4), .val (.int p5), .val (.int n6), .val (.int (p1 ^^^ p4)), .val (.ref b1), .val (.ref b14), .val (.ref b32), .val (.int (own_hash [p0, p1, p2, p3, (p1 ^^^ p4)] nn)), .unset, .unset, .unset, .unset, .unset, .unset] [(.int (own_hash [own_keep p0 0 n6, own_keep p1 1 n6, own_keep p2 2 n6, own_keep p3 3 n6, own_keep (p1 ^^^ p4) 4 n6] nn))])) _
    refine XS.istore X46.here hx rfl (hb hby at_139) rfl (l' := #[.val (.int p0), .val (.int p1), .val (.int p2), .val (.int p3), .val (.int p4), .val (.int p5), .val (.int n6), .val (.int (p1 ^^^ p4)), .val (.ref b1), .val (.ref b14), .val (.ref b32), .val (.int (own_hash [p0, p1, p2, p3, (p1 ^^^ p4)] nn)), .val (.int (own_hash [own_keep p0 0 n6, own_keep p1 1 n6, own_keep p2 2 n6, own_keep p3 3 n6, own_keep (p1 ^^^ p4) 4 n6] nn)), .unset, .unset, .unset, .unset, .unset]) rfl ?_
    show Steps p.tables e below (T46.setTop (mkF m 141 #[.val (.int p0), .val (.int p1), .val (.int p2), .val (.int p3), .val (.int p4), .val (.int p5), .val (.int n6), .val (.int (p1 ^^^ p4)), .val (.ref b1), .val (.ref b14), .val (.ref b32), .val (.int (own_hash [p0, p1, p2, p3, (p1 ^^^ p4)] nn)), .val (.int (own_hash [own_keep p0 0 n6, own_keep p1 1 n6, own_keep p2 2 n6, own_keep p3 3 n6, own_keep (p1 ^^^ p4) 4 n6] nn)), .unset, .unset, .unset, .unset, .unset] [])) _
    refine XS.iload X46.here hx rfl (hb hby at_141) rfl ?_
    show Steps p.tables e below (T46.setTop (mkF m 143 #[.val (.int p0), .val (.int p1), .val (.int p2), .val (.int p3), .val (.int p4), .val (.int p5), .val (.int n6), .val (.int (p1 ^^^ p4)), .val (.ref b1), .val (.ref b14), .val (.ref b32), .val (.int (own_hash [p0, p1, p2, p3, (p1 ^^^ p4)] nn)), .val (.int (own_hash [own_keep p0 0 n6, own_keep p1 1 n6, own_keep p2 2 n6, own_keep p3 3 n6, own_keep (p1 ^^^ p4) 4 n6] nn)), .unset, .unset, .unset, .unset, .unset] [(.int (own_hash [p0, p1, p2, p3, (p1 ^^^ p4)] nn))])) _
    refine XS.iload X46.here hx rfl (hb hby at_143) rfl ?_
    exact k
  have hpf : own_hash [p0, p1, p2, p3, (p1 ^^^ p4)] nn = own_hash [own_keep p0 0 n6, own_keep p1 1 n6, own_keep p2 2 n6, own_keep p3 3 n6, own_keep (p1 ^^^ p4) 4 n6] nn := by rw [en6]; exact own_pref _ _ _ _ _ hnn
  have pre6 : ∀ t, Steps p.tables e below (T46.setTop (mkF m 155 #[.val (.int p0), .val (.int p1), .val (.int p2), .val (.int p3), .val (.int p4), .val (.int p5), .val (.int n6), .val (.int (p1 ^^^ p4)), .val (.ref b1), .val (.ref b14), .val (.ref b32), .val (.int (own_hash [p0, p1, p2, p3, (p1 ^^^ p4)] nn)), .val (.int (own_hash [own_keep p0 0 n6, own_keep p1 1 n6, own_keep p2 2 n6, own_keep p3 3 n6, own_keep (p1 ^^^ p4) 4 n6] nn)), .val (.int (1 : Int32)), .unset, .unset, .unset, .unset] [])) t → Steps p.tables e below (s₁.setTop (entryFrame m #[(.int p0), (.int p1), (.int p2), (.int p3), (.int p4), (.int p5)] maxLocals)) t := by
    intro t k
    refine pre5 t ?_
    show Steps p.tables e below (T46.setTop (mkF m 145 #[.val (.int p0), .val (.int p1), .val (.int p2), .val (.int p3), .val (.int p4), .val (.int p5), .val (.int n6), .val (.int (p1 ^^^ p4)), .val (.ref b1), .val (.ref b14), .val (.ref b32), .val (.int (own_hash [p0, p1, p2, p3, (p1 ^^^ p4)] nn)), .val (.int (own_hash [own_keep p0 0 n6, own_keep p1 1 n6, own_keep p2 2 n6, own_keep p3 3 n6, own_keep (p1 ^^^ p4) 4 n6] nn)), .unset, .unset, .unset, .unset, .unset] [(.int (own_hash [own_keep p0 0 n6, own_keep p1 1 n6, own_keep p2 2 n6, own_keep p3 3 n6, own_keep (p1 ^^^ p4) 4 n6] nn)), (.int (own_hash [p0, p1, p2, p3, (p1 ^^^ p4)] nn))])) _
    refine XS.icmpNo X46.here hx rfl (hb hby at_145) rfl (teq hpf).2 ?_
    show Steps p.tables e below (T46.setTop (mkF m 148 #[.val (.int p0), .val (.int p1), .val (.int p2), .val (.int p3), .val (.int p4), .val (.int p5), .val (.int n6), .val (.int (p1 ^^^ p4)), .val (.ref b1), .val (.ref b14), .val (.ref b32), .val (.int (own_hash [p0, p1, p2, p3, (p1 ^^^ p4)] nn)), .val (.int (own_hash [own_keep p0 0 n6, own_keep p1 1 n6, own_keep p2 2 n6, own_keep p3 3 n6, own_keep (p1 ^^^ p4) 4 n6] nn)), .unset, .unset, .unset, .unset, .unset] [])) _
    refine XS.iconst X46.here hx rfl (hb hby at_148) ?_
    show Steps p.tables e below (T46.setTop (mkF m 149 #[.val (.int p0), .val (.int p1), .val (.int p2), .val (.int p3), .val (.int p4), .val (.int p5), .val (.int n6), .val (.int (p1 ^^^ p4)), .val (.ref b1), .val (.ref b14), .val (.ref b32), .val (.int (own_hash [p0, p1, p2, p3, (p1 ^^^ p4)] nn)), .val (.int (own_hash [own_keep p0 0 n6, own_keep p1 1 n6, own_keep p2 2 n6, own_keep p3 3 n6, own_keep (p1 ^^^ p4) 4 n6] nn)), .unset, .unset, .unset, .unset, .unset] [(.int (1 : Int32))])) _
    refine XS.goto X46.here hx rfl (pc0 := 149) (pc' := 153) rfl (hb hby at_149) (by decide) (by decide) ?_
    show Steps p.tables e below (T46.setTop (mkF m 153 #[.val (.int p0), .val (.int p1), .val (.int p2), .val (.int p3), .val (.int p4), .val (.int p5), .val (.int n6), .val (.int (p1 ^^^ p4)), .val (.ref b1), .val (.ref b14), .val (.ref b32), .val (.int (own_hash [p0, p1, p2, p3, (p1 ^^^ p4)] nn)), .val (.int (own_hash [own_keep p0 0 n6, own_keep p1 1 n6, own_keep p2 2 n6, own_keep p3 3 n6, own_keep (p1 ^^^ p4) 4 n6] nn)), .unset, .unset, .unset, .unset, .unset] [(.int (1 : Int32))])) _
    refine XS.istore X46.here hx rfl (hb hby at_153) rfl (l' := #[.val (.int p0), .val (.int p1), .val (.int p2), .val (.int p3), .val (.int p4), .val (.int p5), .val (.int n6), .val (.int (p1 ^^^ p4)), .val (.ref b1), .val (.ref b14), .val (.ref b32), .val (.int (own_hash [p0, p1, p2, p3, (p1 ^^^ p4)] nn)), .val (.int (own_hash [own_keep p0 0 n6, own_keep p1 1 n6, own_keep p2 2 n6, own_keep p3 3 n6, own_keep (p1 ^^^ p4) 4 n6] nn)), .val (.int (1 : Int32)), .unset, .unset, .unset, .unset]) rfl ?_
    exact k
  by_cases c157 : n6 = 0
  · skip
    obtain ⟨fs, hr, hrun, hended, hW, hsame⟩ := X46.leave (v := some (.int (1 : Int32))) (fun h => by rw [Bd.returns] at h; cases h)
    refine ⟨_, _, pre6 _ ?_, hrun, hended, _, _, rfl, ?_, ⟨_, rfl⟩, hW, hsame.mono (by decide) (by decide)⟩
    · show Steps p.tables e below (T46.setTop (mkF m 155 #[.val (.int p0), .val (.int p1), .val (.int p2), .val (.int p3), .val (.int p4), .val (.int p5), .val (.int n6), .val (.int (p1 ^^^ p4)), .val (.ref b1), .val (.ref b14), .val (.ref b32), .val (.int (own_hash [p0, p1, p2, p3, (p1 ^^^ p4)] nn)), .val (.int (own_hash [own_keep p0 0 n6, own_keep p1 1 n6, own_keep p2 2 n6, own_keep p3 3 n6, own_keep (p1 ^^^ p4) 4 n6] nn)), .val (.int (1 : Int32)), .unset, .unset, .unset, .unset] [])) _
      refine XS.iload X46.here hx rfl (hb hby at_155) rfl ?_
      show Steps p.tables e below (T46.setTop (mkF m 157 #[.val (.int p0), .val (.int p1), .val (.int p2), .val (.int p3), .val (.int p4), .val (.int p5), .val (.int n6), .val (.int (p1 ^^^ p4)), .val (.ref b1), .val (.ref b14), .val (.ref b32), .val (.int (own_hash [p0, p1, p2, p3, (p1 ^^^ p4)] nn)), .val (.int (own_hash [own_keep p0 0 n6, own_keep p1 1 n6, own_keep p2 2 n6, own_keep p3 3 n6, own_keep (p1 ^^^ p4) 4 n6] nn)), .val (.int (1 : Int32)), .unset, .unset, .unset, .unset] [(.int n6)])) _
      refine XS.ifNo X46.here hx rfl (hb hby at_157) rfl ((if0 _ _).trans (teq c157).2) ?_
      show Steps p.tables e below (T46.setTop (mkF m 160 #[.val (.int p0), .val (.int p1), .val (.int p2), .val (.int p3), .val (.int p4), .val (.int p5), .val (.int n6), .val (.int (p1 ^^^ p4)), .val (.ref b1), .val (.ref b14), .val (.ref b32), .val (.int (own_hash [p0, p1, p2, p3, (p1 ^^^ p4)] nn)), .val (.int (own_hash [own_keep p0 0 n6, own_keep p1 1 n6, own_keep p2 2 n6, own_keep p3 3 n6, own_keep (p1 ^^^ p4) 4 n6] nn)), .val (.int (1 : Int32)), .unset, .unset, .unset, .unset] [])) _
      refine XS.iload X46.here hx rfl (hb hby at_160) rfl ?_
      show Steps p.tables e below (T46.setTop (mkF m 162 #[.val (.int p0), .val (.int p1), .val (.int p2), .val (.int p3), .val (.int p4), .val (.int p5), .val (.int n6), .val (.int (p1 ^^^ p4)), .val (.ref b1), .val (.ref b14), .val (.ref b32), .val (.int (own_hash [p0, p1, p2, p3, (p1 ^^^ p4)] nn)), .val (.int (own_hash [own_keep p0 0 n6, own_keep p1 1 n6, own_keep p2 2 n6, own_keep p3 3 n6, own_keep (p1 ^^^ p4) 4 n6] nn)), .val (.int (1 : Int32)), .unset, .unset, .unset, .unset] [(.int (1 : Int32))])) _
      exact retN X46 hx (t := .boolean) Bd.returns (by simp) (hb hby at_162) hr
    · show Q0 Z p0 p1 p2 p3 p4 p5 h0 n0 _ T46.heap _
      rw [e46q]
      exact ⟨rfl, N46⟩
  · skip
    have hnz : 0 < nn := own_nz (by rw [← en6]; exact c157)
    have pre7 : ∀ t, Steps p.tables e below (T46.setTop (mkF m 172 #[.val (.int p0), .val (.int p1), .val (.int p2), .val (.int p3), .val (.int p4), .val (.int p5), .val (.int n6), .val (.int (p1 ^^^ p4)), .val (.ref b1), .val (.ref b14), .val (.ref b32), .val (.int (own_hash [p0, p1, p2, p3, (p1 ^^^ p4)] nn)), .val (.int (own_hash [own_keep p0 0 n6, own_keep p1 1 n6, own_keep p2 2 n6, own_keep p3 3 n6, own_keep (p1 ^^^ p4) 4 n6] nn)), .val (.int (1 : Int32)), .val (.int (((p5.toUInt32 >>> ((3 : Int32) &&& 31).toUInt32).toInt32) % n6)), .unset, .unset, .unset] [])) t → Steps p.tables e below (s₁.setTop (entryFrame m #[(.int p0), (.int p1), (.int p2), (.int p3), (.int p4), (.int p5)] maxLocals)) t := by
      intro t k
      refine pre6 t ?_
      show Steps p.tables e below (T46.setTop (mkF m 155 #[.val (.int p0), .val (.int p1), .val (.int p2), .val (.int p3), .val (.int p4), .val (.int p5), .val (.int n6), .val (.int (p1 ^^^ p4)), .val (.ref b1), .val (.ref b14), .val (.ref b32), .val (.int (own_hash [p0, p1, p2, p3, (p1 ^^^ p4)] nn)), .val (.int (own_hash [own_keep p0 0 n6, own_keep p1 1 n6, own_keep p2 2 n6, own_keep p3 3 n6, own_keep (p1 ^^^ p4) 4 n6] nn)), .val (.int (1 : Int32)), .unset, .unset, .unset, .unset] [])) _
      refine XS.iload X46.here hx rfl (hb hby at_155) rfl ?_
      show Steps p.tables e below (T46.setTop (mkF m 157 #[.val (.int p0), .val (.int p1), .val (.int p2), .val (.int p3), .val (.int p4), .val (.int p5), .val (.int n6), .val (.int (p1 ^^^ p4)), .val (.ref b1), .val (.ref b14), .val (.ref b32), .val (.int (own_hash [p0, p1, p2, p3, (p1 ^^^ p4)] nn)), .val (.int (own_hash [own_keep p0 0 n6, own_keep p1 1 n6, own_keep p2 2 n6, own_keep p3 3 n6, own_keep (p1 ^^^ p4) 4 n6] nn)), .val (.int (1 : Int32)), .unset, .unset, .unset, .unset] [(.int n6)])) _
      refine XS.ifYes X46.here hx rfl (pc0 := 157) (pc' := 163) rfl (hb hby at_157) rfl ((if0 _ _).trans (feq c157).2) (by decide) (by decide) ?_
      show Steps p.tables e below (T46.setTop (mkF m 163 #[.val (.int p0), .val (.int p1), .val (.int p2), .val (.int p3), .val (.int p4), .val (.int p5), .val (.int n6), .val (.int (p1 ^^^ p4)), .val (.ref b1), .val (.ref b14), .val (.ref b32), .val (.int (own_hash [p0, p1, p2, p3, (p1 ^^^ p4)] nn)), .val (.int (own_hash [own_keep p0 0 n6, own_keep p1 1 n6, own_keep p2 2 n6, own_keep p3 3 n6, own_keep (p1 ^^^ p4) 4 n6] nn)), .val (.int (1 : Int32)), .unset, .unset, .unset, .unset] [])) _
      refine XS.iload X46.here hx rfl (hb hby at_163) rfl ?_
      show Steps p.tables e below (T46.setTop (mkF m 165 #[.val (.int p0), .val (.int p1), .val (.int p2), .val (.int p3), .val (.int p4), .val (.int p5), .val (.int n6), .val (.int (p1 ^^^ p4)), .val (.ref b1), .val (.ref b14), .val (.ref b32), .val (.int (own_hash [p0, p1, p2, p3, (p1 ^^^ p4)] nn)), .val (.int (own_hash [own_keep p0 0 n6, own_keep p1 1 n6, own_keep p2 2 n6, own_keep p3 3 n6, own_keep (p1 ^^^ p4) 4 n6] nn)), .val (.int (1 : Int32)), .unset, .unset, .unset, .unset] [(.int p5)])) _
      refine XS.iconst X46.here hx rfl (hb hby at_165) ?_
      show Steps p.tables e below (T46.setTop (mkF m 166 #[.val (.int p0), .val (.int p1), .val (.int p2), .val (.int p3), .val (.int p4), .val (.int p5), .val (.int n6), .val (.int (p1 ^^^ p4)), .val (.ref b1), .val (.ref b14), .val (.ref b32), .val (.int (own_hash [p0, p1, p2, p3, (p1 ^^^ p4)] nn)), .val (.int (own_hash [own_keep p0 0 n6, own_keep p1 1 n6, own_keep p2 2 n6, own_keep p3 3 n6, own_keep (p1 ^^^ p4) 4 n6] nn)), .val (.int (1 : Int32)), .unset, .unset, .unset, .unset] [(.int (3 : Int32)), (.int p5)])) _
      refine XS.iushr X46.here hx rfl (hb hby at_166) rfl ?_
      show Steps p.tables e below (T46.setTop (mkF m 167 #[.val (.int p0), .val (.int p1), .val (.int p2), .val (.int p3), .val (.int p4), .val (.int p5), .val (.int n6), .val (.int (p1 ^^^ p4)), .val (.ref b1), .val (.ref b14), .val (.ref b32), .val (.int (own_hash [p0, p1, p2, p3, (p1 ^^^ p4)] nn)), .val (.int (own_hash [own_keep p0 0 n6, own_keep p1 1 n6, own_keep p2 2 n6, own_keep p3 3 n6, own_keep (p1 ^^^ p4) 4 n6] nn)), .val (.int (1 : Int32)), .unset, .unset, .unset, .unset] [(.int ((p5.toUInt32 >>> ((3 : Int32) &&& 31).toUInt32).toInt32))])) _
      refine XS.iload X46.here hx rfl (hb hby at_167) rfl ?_
      show Steps p.tables e below (T46.setTop (mkF m 169 #[.val (.int p0), .val (.int p1), .val (.int p2), .val (.int p3), .val (.int p4), .val (.int p5), .val (.int n6), .val (.int (p1 ^^^ p4)), .val (.ref b1), .val (.ref b14), .val (.ref b32), .val (.int (own_hash [p0, p1, p2, p3, (p1 ^^^ p4)] nn)), .val (.int (own_hash [own_keep p0 0 n6, own_keep p1 1 n6, own_keep p2 2 n6, own_keep p3 3 n6, own_keep (p1 ^^^ p4) 4 n6] nn)), .val (.int (1 : Int32)), .unset, .unset, .unset, .unset] [(.int n6), (.int ((p5.toUInt32 >>> ((3 : Int32) &&& 31).toUInt32).toInt32))])) _
      refine iremM X46 hx rfl (hb hby at_169) rfl c157 ?_
      show Steps p.tables e below (T46.setTop (mkF m 170 #[.val (.int p0), .val (.int p1), .val (.int p2), .val (.int p3), .val (.int p4), .val (.int p5), .val (.int n6), .val (.int (p1 ^^^ p4)), .val (.ref b1), .val (.ref b14), .val (.ref b32), .val (.int (own_hash [p0, p1, p2, p3, (p1 ^^^ p4)] nn)), .val (.int (own_hash [own_keep p0 0 n6, own_keep p1 1 n6, own_keep p2 2 n6, own_keep p3 3 n6, own_keep (p1 ^^^ p4) 4 n6] nn)), .val (.int (1 : Int32)), .unset, .unset, .unset, .unset] [(.int (((p5.toUInt32 >>> ((3 : Int32) &&& 31).toUInt32).toInt32) % n6))])) _
      refine XS.istore X46.here hx rfl (hb hby at_170) rfl (l' := #[.val (.int p0), .val (.int p1), .val (.int p2), .val (.int p3), .val (.int p4), .val (.int p5), .val (.int n6), .val (.int (p1 ^^^ p4)), .val (.ref b1), .val (.ref b14), .val (.ref b32), .val (.int (own_hash [p0, p1, p2, p3, (p1 ^^^ p4)] nn)), .val (.int (own_hash [own_keep p0 0 n6, own_keep p1 1 n6, own_keep p2 2 n6, own_keep p3 3 n6, own_keep (p1 ^^^ p4) 4 n6] nn)), .val (.int (1 : Int32)), .val (.int (((p5.toUInt32 >>> ((3 : Int32) &&& 31).toUInt32).toInt32) % n6)), .unset, .unset, .unset]) rfl ?_
      exact k
    obtain ⟨pp, hpp, ep⟩ := own_p p5 hnz hnn
    rw [← en6] at ep
    rw [ep] at pre7
    obtain ⟨p14, ep14⟩ : ∃ z, z = Int32.ofNat pp := ⟨_, rfl⟩
    rw [← ep14] at pre7
    obtain ⟨clA, ArA, -, SA, -, HA, -⟩ := id V_b1_42
    have hin5 : ¬ p14 < 0 ∧ p14 < (5 : Int32) := by rw [ep14]; exact ⟨own_nn (by omega), own_lt (n := 5) (by omega) (by omega)⟩
    have hn14 : p14.toNatClampNeg = pp := by rw [ep14]; exact own_n32 (by omega)
    have hinA : ¬ (p14 < 0 ∨ clA.slots.size ≤ p14.toNatClampNeg) := inb_of SA hin5
    have hatA : clA.slots[p14.toNatClampNeg]? = some (.int ([p0, p1, p2, p3, (p1 ^^^ p4)].getD pp 0)) := HA.at hinA (by
      rw [hn14]
      match pp, (show pp < 4 by omega) with
      | 0, _ => rfl
      | 1, _ => rfl
      | 2, _ => rfl
      | 3, _ => rfl)
    have pre8 : ∀ t, Steps p.tables e below (T46.setTop (mkF m 179 #[.val (.int p0), .val (.int p1), .val (.int p2), .val (.int p3), .val (.int p4), .val (.int p5), .val (.int n6), .val (.int (p1 ^^^ p4)), .val (.ref b1), .val (.ref b14), .val (.ref b32), .val (.int (own_hash [p0, p1, p2, p3, (p1 ^^^ p4)] nn)), .val (.int (own_hash [own_keep p0 0 n6, own_keep p1 1 n6, own_keep p2 2 n6, own_keep p3 3 n6, own_keep (p1 ^^^ p4) 4 n6] nn)), .val (.int (1 : Int32)), .val (.int p14), .val (.int ([p0, p1, p2, p3, (p1 ^^^ p4)].getD pp 0)), .unset, .unset] [])) t → Steps p.tables e below (s₁.setTop (entryFrame m #[(.int p0), (.int p1), (.int p2), (.int p3), (.int p4), (.int p5)] maxLocals)) t := by
      intro t k
      refine pre7 t ?_
      show Steps p.tables e below (T46.setTop (mkF m 172 #[.val (.int p0), .val (.int p1), .val (.int p2), .val (.int p3), .val (.int p4), .val (.int p5), .val (.int n6), .val (.int (p1 ^^^ p4)), .val (.ref b1), .val (.ref b14), .val (.ref b32), .val (.int (own_hash [p0, p1, p2, p3, (p1 ^^^ p4)] nn)), .val (.int (own_hash [own_keep p0 0 n6, own_keep p1 1 n6, own_keep p2 2 n6, own_keep p3 3 n6, own_keep (p1 ^^^ p4) 4 n6] nn)), .val (.int (1 : Int32)), .val (.int p14), .unset, .unset, .unset] [])) _
      refine XS.aload X46.here hx rfl (hb hby at_172) rfl rfl ?_
      show Steps p.tables e below (T46.setTop (mkF m 174 #[.val (.int p0), .val (.int p1), .val (.int p2), .val (.int p3), .val (.int p4), .val (.int p5), .val (.int n6), .val (.int (p1 ^^^ p4)), .val (.ref b1), .val (.ref b14), .val (.ref b32), .val (.int (own_hash [p0, p1, p2, p3, (p1 ^^^ p4)] nn)), .val (.int (own_hash [own_keep p0 0 n6, own_keep p1 1 n6, own_keep p2 2 n6, own_keep p3 3 n6, own_keep (p1 ^^^ p4) 4 n6] nn)), .val (.int (1 : Int32)), .val (.int p14), .unset, .unset, .unset] [(.ref b1)])) _
      refine XS.iload X46.here hx rfl (hb hby at_174) rfl ?_
      show Steps p.tables e below (T46.setTop (mkF m 176 #[.val (.int p0), .val (.int p1), .val (.int p2), .val (.int p3), .val (.int p4), .val (.int p5), .val (.int n6), .val (.int (p1 ^^^ p4)), .val (.ref b1), .val (.ref b14), .val (.ref b32), .val (.int (own_hash [p0, p1, p2, p3, (p1 ^^^ p4)] nn)), .val (.int (own_hash [own_keep p0 0 n6, own_keep p1 1 n6, own_keep p2 2 n6, own_keep p3 3 n6, own_keep (p1 ^^^ p4) 4 n6] nn)), .val (.int (1 : Int32)), .val (.int p14), .unset, .unset, .unset] [(.int p14), (.ref b1)])) _
      refine X46.iaload hx (j := p14) (v := (.int ([p0, p1, p2, p3, (p1 ^^^ p4)].getD pp 0))) (by rw [e46q]; exact ArA.1) (State.isArrayOf_alike hZ.alike ArA.2.1) ArA.2.2 hinA hatA (g := (mkF m 176 #[.val (.int p0), .val (.int p1), .val (.int p2), .val (.int p3), .val (.int p4), .val (.int p5), .val (.int n6), .val (.int (p1 ^^^ p4)), .val (.ref b1), .val (.ref b14), .val (.ref b32), .val (.int (own_hash [p0, p1, p2, p3, (p1 ^^^ p4)] nn)), .val (.int (own_hash [own_keep p0 0 n6, own_keep p1 1 n6, own_keep p2 2 n6, own_keep p3 3 n6, own_keep (p1 ^^^ p4) 4 n6] nn)), .val (.int (1 : Int32)), .val (.int p14), .unset, .unset, .unset] [(.int p14), (.ref b1)])) rfl rfl (hb hby at_176) _ ?_
      show Steps p.tables e below (T46.setTop (mkF m 177 #[.val (.int p0), .val (.int p1), .val (.int p2), .val (.int p3), .val (.int p4), .val (.int p5), .val (.int n6), .val (.int (p1 ^^^ p4)), .val (.ref b1), .val (.ref b14), .val (.ref b32), .val (.int (own_hash [p0, p1, p2, p3, (p1 ^^^ p4)] nn)), .val (.int (own_hash [own_keep p0 0 n6, own_keep p1 1 n6, own_keep p2 2 n6, own_keep p3 3 n6, own_keep (p1 ^^^ p4) 4 n6] nn)), .val (.int (1 : Int32)), .val (.int p14), .unset, .unset, .unset] [(.int ([p0, p1, p2, p3, (p1 ^^^ p4)].getD pp 0))])) _
      refine XS.istore X46.here hx rfl (hb hby at_177) rfl (l' := #[.val (.int p0), .val (.int p1), .val (.int p2), .val (.int p3), .val (.int p4), .val (.int p5), .val (.int n6), .val (.int (p1 ^^^ p4)), .val (.ref b1), .val (.ref b14), .val (.ref b32), .val (.int (own_hash [p0, p1, p2, p3, (p1 ^^^ p4)] nn)), .val (.int (own_hash [own_keep p0 0 n6, own_keep p1 1 n6, own_keep p2 2 n6, own_keep p3 3 n6, own_keep (p1 ^^^ p4) 4 n6] nn)), .val (.int (1 : Int32)), .val (.int p14), .val (.int ([p0, p1, p2, p3, (p1 ^^^ p4)].getD pp 0)), .unset, .unset]) rfl ?_
      exact k
    obtain ⟨cl47, Ar47, q47, S47, N47m, H47, G47⟩ := id V42_b32
    have hin47 : ¬ (p14 < 0 ∨ cl47.slots.size ≤ (p14).toNatClampNeg) := inb_of S47 hin5
    obtain ⟨T47, h47, X47, e47, W47, st47⟩ := stI X46 hx hZ e46q Ar47 (j := p14) hin47 (g := (mkF m 185 #[.val (.int p0), .val (.int p1), .val (.int p2), .val (.int p3), .val (.int p4), .val (.int p5), .val (.int n6), .val (.int (p1 ^^^ p4)), .val (.ref b1), .val (.ref b14), .val (.ref b32), .val (.int (own_hash [p0, p1, p2, p3, (p1 ^^^ p4)] nn)), .val (.int (own_hash [own_keep p0 0 n6, own_keep p1 1 n6, own_keep p2 2 n6, own_keep p3 3 n6, own_keep (p1 ^^^ p4) 4 n6] nn)), .val (.int (1 : Int32)), .val (.int p14), .val (.int ([p0, p1, p2, p3, (p1 ^^^ p4)].getD pp 0)), .unset, .unset] [(.int p4), (.int p14), (.ref b32)])) rfl rfl (hb hby at_185)
    have V47_b32 : Arv Z h47 b32 k32 .int (5 : Int32) ([(.int p0), (.int p1), (.int p2), (.int p3), (.int (p1 ^^^ p4))].set pp (.int p4)) (.int (0 : Int32)) := Arv.set Ar47 q47 S47 N47m H47 G47 rfl W47 pp hn14 (by show pp < 5; omega)
    have V_b1_47 := V_b1_42.other W47 ne_b1_b32
    have V_b14_47 := V_b14_42.other W47 ne_b14_b32
    have Zs48 := Nat.le_trans Zs43 (Keep.of_wr W47).1
    have N47 := Fr.snoc X47 N46 g_b32
    have pre9 : ∀ t, Steps p.tables e below (T47.setTop (mkF m 186 #[.val (.int p0), .val (.int p1), .val (.int p2), .val (.int p3), .val (.int p4), .val (.int p5), .val (.int n6), .val (.int (p1 ^^^ p4)), .val (.ref b1), .val (.ref b14), .val (.ref b32), .val (.int (own_hash [p0, p1, p2, p3, (p1 ^^^ p4)] nn)), .val (.int (own_hash [own_keep p0 0 n6, own_keep p1 1 n6, own_keep p2 2 n6, own_keep p3 3 n6, own_keep (p1 ^^^ p4) 4 n6] nn)), .val (.int (1 : Int32)), .val (.int p14), .val (.int ([p0, p1, p2, p3, (p1 ^^^ p4)].getD pp 0)), .unset, .unset] [])) t → Steps p.tables e below (s₁.setTop (entryFrame m #[(.int p0), (.int p1), (.int p2), (.int p3), (.int p4), (.int p5)] maxLocals)) t := by
      intro t k
      refine pre8 t ?_
      show Steps p.tables e below (T46.setTop (mkF m 179 #[.val (.int p0), .val (.int p1), .val (.int p2), .val (.int p3), .val (.int p4), .val (.int p5), .val (.int n6), .val (.int (p1 ^^^ p4)), .val (.ref b1), .val (.ref b14), .val (.ref b32), .val (.int (own_hash [p0, p1, p2, p3, (p1 ^^^ p4)] nn)), .val (.int (own_hash [own_keep p0 0 n6, own_keep p1 1 n6, own_keep p2 2 n6, own_keep p3 3 n6, own_keep (p1 ^^^ p4) 4 n6] nn)), .val (.int (1 : Int32)), .val (.int p14), .val (.int ([p0, p1, p2, p3, (p1 ^^^ p4)].getD pp 0)), .unset, .unset] [])) _
      refine XS.aload X46.here hx rfl (hb hby at_179) rfl rfl ?_
      show Steps p.tables e below (T46.setTop (mkF m 181 #[.val (.int p0), .val (.int p1), .val (.int p2), .val (.int p3), .val (.int p4), .val (.int p5), .val (.int n6), .val (.int (p1 ^^^ p4)), .val (.ref b1), .val (.ref b14), .val (.ref b32), .val (.int (own_hash [p0, p1, p2, p3, (p1 ^^^ p4)] nn)), .val (.int (own_hash [own_keep p0 0 n6, own_keep p1 1 n6, own_keep p2 2 n6, own_keep p3 3 n6, own_keep (p1 ^^^ p4) 4 n6] nn)), .val (.int (1 : Int32)), .val (.int p14), .val (.int ([p0, p1, p2, p3, (p1 ^^^ p4)].getD pp 0)), .unset, .unset] [(.ref b32)])) _
      refine XS.iload X46.here hx rfl (hb hby at_181) rfl ?_
      show Steps p.tables e below (T46.setTop (mkF m 183 #[.val (.int p0), .val (.int p1), .val (.int p2), .val (.int p3), .val (.int p4), .val (.int p5), .val (.int n6), .val (.int (p1 ^^^ p4)), .val (.ref b1), .val (.ref b14), .val (.ref b32), .val (.int (own_hash [p0, p1, p2, p3, (p1 ^^^ p4)] nn)), .val (.int (own_hash [own_keep p0 0 n6, own_keep p1 1 n6, own_keep p2 2 n6, own_keep p3 3 n6, own_keep (p1 ^^^ p4) 4 n6] nn)), .val (.int (1 : Int32)), .val (.int p14), .val (.int ([p0, p1, p2, p3, (p1 ^^^ p4)].getD pp 0)), .unset, .unset] [(.int p14), (.ref b32)])) _
      refine XS.iload X46.here hx rfl (hb hby at_183) rfl ?_
      show Steps p.tables e below (T46.setTop (mkF m 185 #[.val (.int p0), .val (.int p1), .val (.int p2), .val (.int p3), .val (.int p4), .val (.int p5), .val (.int n6), .val (.int (p1 ^^^ p4)), .val (.ref b1), .val (.ref b14), .val (.ref b32), .val (.int (own_hash [p0, p1, p2, p3, (p1 ^^^ p4)] nn)), .val (.int (own_hash [own_keep p0 0 n6, own_keep p1 1 n6, own_keep p2 2 n6, own_keep p3 3 n6, own_keep (p1 ^^^ p4) 4 n6] nn)), .val (.int (1 : Int32)), .val (.int p14), .val (.int ([p0, p1, p2, p3, (p1 ^^^ p4)].getD pp 0)), .unset, .unset] [(.int p4), (.int p14), (.ref b32)])) _
      refine st47 _ ?_
      exact k
    obtain ⟨_, _, ⟨T49, L49, k49, n49⟩, -, X49, ⟨Lc49, hQ49, l49, y49, z49⟩, st49⟩ := Jvm.LawKit.callS X47 hx (y := (⟨"com/example/frangia/frangia/analysis/LrAutomaton$Walk", "hash", "([II)I"⟩ : MethodName)) hown (mvT hZ (hw _ (List.mem_of_getElem? (i := 5) rfl))) (mvT hZ (hw _ (List.mem_of_getElem? (i := 6) rfl))) (mvT hZ (hw _ (List.mem_of_getElem? (i := 7) rfl))) (mvT hZ (hw _ (List.mem_of_getElem? (i := 8) rfl))) (by decide) (backOf (W := 0) (rm2 l Z a0 hw [] b32 n6 nn ([p0, p1, p2, p3, (p1 ^^^ p4)].set pp p4) k32 h47 n0 Zs48 en6 hnn (by rw [List.map_set]; exact V47_b32) (by simp)) hZ (hw _ (List.mem_of_getElem? (i := 8) rfl)) (hw _ (List.mem_of_getElem? (i := 7) rfl)) (by decide) (by decide)) (g := (mkF m 190 #[.val (.int p0), .val (.int p1), .val (.int p2), .val (.int p3), .val (.int p4), .val (.int p5), .val (.int n6), .val (.int (p1 ^^^ p4)), .val (.ref b1), .val (.ref b14), .val (.ref b32), .val (.int (own_hash [p0, p1, p2, p3, (p1 ^^^ p4)] nn)), .val (.int (own_hash [own_keep p0 0 n6, own_keep p1 1 n6, own_keep p2 2 n6, own_keep p3 3 n6, own_keep (p1 ^^^ p4) 4 n6] nn)), .val (.int (1 : Int32)), .val (.int p14), .val (.int ([p0, p1, p2, p3, (p1 ^^^ p4)].getD pp 0)), .unset, .unset] [(.int n6), (.ref b32)])) rfl (by rw [hml]; rfl) (argsL := [(.ref b32), (.int n6)]) (rest := []) (lenOf pd_1 rfl) rfl (by show 2 * 0 + _ ≤ _; exact Nat.le_of_eq rfl) (hb hby at_190) (fun _ _ => ⟨rfl, e47, (by decide : 3 + 0 ≤ _), (by decide : 15 + 0 ≤ _)⟩)
    dsimp only [Pt.U, Pt.locs, Pt.cells, Pt.slots] at X49 l49 y49 z49 st49 hQ49
    subst l49 y49 z49
    obtain ⟨rfl, N49q, e49q⟩ := hQ49
    have N49 := Fr.app N47 N49q
    have pre10 : ∀ t, Steps p.tables e below (T49.setTop (mkF m 195 #[.val (.int p0), .val (.int p1), .val (.int p2), .val (.int p3), .val (.int p4), .val (.int p5), .val (.int n6), .val (.int (p1 ^^^ p4)), .val (.ref b1), .val (.ref b14), .val (.ref b32), .val (.int (own_hash [p0, p1, p2, p3, (p1 ^^^ p4)] nn)), .val (.int (own_hash [own_keep p0 0 n6, own_keep p1 1 n6, own_keep p2 2 n6, own_keep p3 3 n6, own_keep (p1 ^^^ p4) 4 n6] nn)), .val (.int (1 : Int32)), .val (.int p14), .val (.int ([p0, p1, p2, p3, (p1 ^^^ p4)].getD pp 0)), .val (.int (own_hash ([p0, p1, p2, p3, (p1 ^^^ p4)].set pp p4) nn)), .unset] [])) t → Steps p.tables e below (s₁.setTop (entryFrame m #[(.int p0), (.int p1), (.int p2), (.int p3), (.int p4), (.int p5)] maxLocals)) t := by
      intro t k
      refine pre9 t ?_
      show Steps p.tables e below (T47.setTop (mkF m 186 #[.val (.int p0), .val (.int p1), .val (.int p2), .val (.int p3), .val (.int p4), .val (.int p5), .val (.int n6), .val (.int (p1 ^^^ p4)), .val (.ref b1), .val (.ref b14), .val (.ref b32), .val (.int (own_hash [p0, p1, p2, p3, (p1 ^^^ p4)] nn)), .val (.int (own_hash [own_keep p0 0 n6, own_keep p1 1 n6, own_keep p2 2 n6, own_keep p3 3 n6, own_keep (p1 ^^^ p4) 4 n6] nn)), .val (.int (1 : Int32)), .val (.int p14), .val (.int ([p0, p1, p2, p3, (p1 ^^^ p4)].getD pp 0)), .unset, .unset] [])) _
      refine XS.aload X47.here hx rfl (hb hby at_186) rfl rfl ?_
      show Steps p.tables e below (T47.setTop (mkF m 188 #[.val (.int p0), .val (.int p1), .val (.int p2), .val (.int p3), .val (.int p4), .val (.int p5), .val (.int n6), .val (.int (p1 ^^^ p4)), .val (.ref b1), .val (.ref b14), .val (.ref b32), .val (.int (own_hash [p0, p1, p2, p3, (p1 ^^^ p4)] nn)), .val (.int (own_hash [own_keep p0 0 n6, own_keep p1 1 n6, own_keep p2 2 n6, own_keep p3 3 n6, own_keep (p1 ^^^ p4) 4 n6] nn)), .val (.int (1 : Int32)), .val (.int p14), .val (.int ([p0, p1, p2, p3, (p1 ^^^ p4)].getD pp 0)), .unset, .unset] [(.ref b32)])) _
      refine XS.iload X47.here hx rfl (hb hby at_188) rfl ?_
      show Steps p.tables e below (T47.setTop (mkF m 190 #[.val (.int p0), .val (.int p1), .val (.int p2), .val (.int p3), .val (.int p4), .val (.int p5), .val (.int n6), .val (.int (p1 ^^^ p4)), .val (.ref b1), .val (.ref b14), .val (.ref b32), .val (.int (own_hash [p0, p1, p2, p3, (p1 ^^^ p4)] nn)), .val (.int (own_hash [own_keep p0 0 n6, own_keep p1 1 n6, own_keep p2 2 n6, own_keep p3 3 n6, own_keep (p1 ^^^ p4) 4 n6] nn)), .val (.int (1 : Int32)), .val (.int p14), .val (.int ([p0, p1, p2, p3, (p1 ^^^ p4)].getD pp 0)), .unset, .unset] [(.int n6), (.ref b32)])) _
      refine st49 _ ?_
      show Steps p.tables e below (T49.setTop (mkF m 193 #[.val (.int p0), .val (.int p1), .val (.int p2), .val (.int p3), .val (.int p4), .val (.int p5), .val (.int n6), .val (.int (p1 ^^^ p4)), .val (.ref b1), .val (.ref b14), .val (.ref b32), .val (.int (own_hash [p0, p1, p2, p3, (p1 ^^^ p4)] nn)), .val (.int (own_hash [own_keep p0 0 n6, own_keep p1 1 n6, own_keep p2 2 n6, own_keep p3 3 n6, own_keep (p1 ^^^ p4) 4 n6] nn)), .val (.int (1 : Int32)), .val (.int p14), .val (.int ([p0, p1, p2, p3, (p1 ^^^ p4)].getD pp 0)), .unset, .unset] [(.int (own_hash ([p0, p1, p2, p3, (p1 ^^^ p4)].set pp p4) nn))])) _
      refine XS.istore X49.here hx rfl (hb hby at_193) rfl (l' := #[.val (.int p0), .val (.int p1), .val (.int p2), .val (.int p3), .val (.int p4), .val (.int p5), .val (.int n6), .val (.int (p1 ^^^ p4)), .val (.ref b1), .val (.ref b14), .val (.ref b32), .val (.int (own_hash [p0, p1, p2, p3, (p1 ^^^ p4)] nn)), .val (.int (own_hash [own_keep p0 0 n6, own_keep p1 1 n6, own_keep p2 2 n6, own_keep p3 3 n6, own_keep (p1 ^^^ p4) 4 n6] nn)), .val (.int (1 : Int32)), .val (.int p14), .val (.int ([p0, p1, p2, p3, (p1 ^^^ p4)].getD pp 0)), .val (.int (own_hash ([p0, p1, p2, p3, (p1 ^^^ p4)].set pp p4) nn)), .unset]) rfl ?_
      exact k
    by_cases cx : p4 = [p0, p1, p2, p3, (p1 ^^^ p4)].getD pp 0
    · skip
      obtain ⟨fs, hr, hrun, hended, hW, hsame⟩ := X49.leave (v := some (.int (1 : Int32))) (fun h => by rw [Bd.returns] at h; cases h)
      refine ⟨_, _, pre10 _ ?_, hrun, hended, _, _, rfl, ?_, ⟨_, rfl⟩, hW, hsame.mono (by decide) (by decide)⟩
      · show Steps p.tables e below (T49.setTop (mkF m 195 #[.val (.int p0), .val (.int p1), .val (.int p2), .val (.int p3), .val (.int p4), .val (.int p5), .val (.int n6), .val (.int (p1 ^^^ p4)), .val (.ref b1), .val (.ref b14), .val (.ref b32), .val (.int (own_hash [p0, p1, p2, p3, (p1 ^^^ p4)] nn)), .val (.int (own_hash [own_keep p0 0 n6, own_keep p1 1 n6, own_keep p2 2 n6, own_keep p3 3 n6, own_keep (p1 ^^^ p4) 4 n6] nn)), .val (.int (1 : Int32)), .val (.int p14), .val (.int ([p0, p1, p2, p3, (p1 ^^^ p4)].getD pp 0)), .val (.int (own_hash ([p0, p1, p2, p3, (p1 ^^^ p4)].set pp p4) nn)), .unset] [])) _
        refine XS.iload X49.here hx rfl (hb hby at_195) rfl ?_
        show Steps p.tables e below (T49.setTop (mkF m 197 #[.val (.int p0), .val (.int p1), .val (.int p2), .val (.int p3), .val (.int p4), .val (.int p5), .val (.int n6), .val (.int (p1 ^^^ p4)), .val (.ref b1), .val (.ref b14), .val (.ref b32), .val (.int (own_hash [p0, p1, p2, p3, (p1 ^^^ p4)] nn)), .val (.int (own_hash [own_keep p0 0 n6, own_keep p1 1 n6, own_keep p2 2 n6, own_keep p3 3 n6, own_keep (p1 ^^^ p4) 4 n6] nn)), .val (.int (1 : Int32)), .val (.int p14), .val (.int ([p0, p1, p2, p3, (p1 ^^^ p4)].getD pp 0)), .val (.int (own_hash ([p0, p1, p2, p3, (p1 ^^^ p4)].set pp p4) nn)), .unset] [(.int (own_hash ([p0, p1, p2, p3, (p1 ^^^ p4)].set pp p4) nn))])) _
        refine XS.iload X49.here hx rfl (hb hby at_197) rfl ?_
        show Steps p.tables e below (T49.setTop (mkF m 199 #[.val (.int p0), .val (.int p1), .val (.int p2), .val (.int p3), .val (.int p4), .val (.int p5), .val (.int n6), .val (.int (p1 ^^^ p4)), .val (.ref b1), .val (.ref b14), .val (.ref b32), .val (.int (own_hash [p0, p1, p2, p3, (p1 ^^^ p4)] nn)), .val (.int (own_hash [own_keep p0 0 n6, own_keep p1 1 n6, own_keep p2 2 n6, own_keep p3 3 n6, own_keep (p1 ^^^ p4) 4 n6] nn)), .val (.int (1 : Int32)), .val (.int p14), .val (.int ([p0, p1, p2, p3, (p1 ^^^ p4)].getD pp 0)), .val (.int (own_hash ([p0, p1, p2, p3, (p1 ^^^ p4)].set pp p4) nn)), .unset] [(.int (own_hash [p0, p1, p2, p3, (p1 ^^^ p4)] nn)), (.int (own_hash ([p0, p1, p2, p3, (p1 ^^^ p4)].set pp p4) nn))])) _
        refine XS.icmpNo X49.here hx rfl (hb hby at_199) rfl (teq ((own_inj p0 p1 p2 p3 (p1 ^^^ p4) p4 hnn hpp).mpr cx)).2 ?_
        show Steps p.tables e below (T49.setTop (mkF m 202 #[.val (.int p0), .val (.int p1), .val (.int p2), .val (.int p3), .val (.int p4), .val (.int p5), .val (.int n6), .val (.int (p1 ^^^ p4)), .val (.ref b1), .val (.ref b14), .val (.ref b32), .val (.int (own_hash [p0, p1, p2, p3, (p1 ^^^ p4)] nn)), .val (.int (own_hash [own_keep p0 0 n6, own_keep p1 1 n6, own_keep p2 2 n6, own_keep p3 3 n6, own_keep (p1 ^^^ p4) 4 n6] nn)), .val (.int (1 : Int32)), .val (.int p14), .val (.int ([p0, p1, p2, p3, (p1 ^^^ p4)].getD pp 0)), .val (.int (own_hash ([p0, p1, p2, p3, (p1 ^^^ p4)].set pp p4) nn)), .unset] [])) _
        refine XS.iconst X49.here hx rfl (hb hby at_202) ?_
        show Steps p.tables e below (T49.setTop (mkF m 203 #[.val (.int p0), .val (.int p1), .val (.int p2), .val (.int p3), .val (.int p4), .val (.int p5), .val (.int n6), .val (.int (p1 ^^^ p4)), .val (.ref b1), .val (.ref b14), .val (.ref b32), .val (.int (own_hash [p0, p1, p2, p3, (p1 ^^^ p4)] nn)), .val (.int (own_hash [own_keep p0 0 n6, own_keep p1 1 n6, own_keep p2 2 n6, own_keep p3 3 n6, own_keep (p1 ^^^ p4) 4 n6] nn)), .val (.int (1 : Int32)), .val (.int p14), .val (.int ([p0, p1, p2, p3, (p1 ^^^ p4)].getD pp 0)), .val (.int (own_hash ([p0, p1, p2, p3, (p1 ^^^ p4)].set pp p4) nn)), .unset] [(.int (1 : Int32))])) _
        refine XS.goto X49.here hx rfl (pc0 := 203) (pc' := 207) rfl (hb hby at_203) (by decide) (by decide) ?_
        show Steps p.tables e below (T49.setTop (mkF m 207 #[.val (.int p0), .val (.int p1), .val (.int p2), .val (.int p3), .val (.int p4), .val (.int p5), .val (.int n6), .val (.int (p1 ^^^ p4)), .val (.ref b1), .val (.ref b14), .val (.ref b32), .val (.int (own_hash [p0, p1, p2, p3, (p1 ^^^ p4)] nn)), .val (.int (own_hash [own_keep p0 0 n6, own_keep p1 1 n6, own_keep p2 2 n6, own_keep p3 3 n6, own_keep (p1 ^^^ p4) 4 n6] nn)), .val (.int (1 : Int32)), .val (.int p14), .val (.int ([p0, p1, p2, p3, (p1 ^^^ p4)].getD pp 0)), .val (.int (own_hash ([p0, p1, p2, p3, (p1 ^^^ p4)].set pp p4) nn)), .unset] [(.int (1 : Int32))])) _
        refine XS.iload X49.here hx rfl (hb hby at_207) rfl ?_
        show Steps p.tables e below (T49.setTop (mkF m 209 #[.val (.int p0), .val (.int p1), .val (.int p2), .val (.int p3), .val (.int p4), .val (.int p5), .val (.int n6), .val (.int (p1 ^^^ p4)), .val (.ref b1), .val (.ref b14), .val (.ref b32), .val (.int (own_hash [p0, p1, p2, p3, (p1 ^^^ p4)] nn)), .val (.int (own_hash [own_keep p0 0 n6, own_keep p1 1 n6, own_keep p2 2 n6, own_keep p3 3 n6, own_keep (p1 ^^^ p4) 4 n6] nn)), .val (.int (1 : Int32)), .val (.int p14), .val (.int ([p0, p1, p2, p3, (p1 ^^^ p4)].getD pp 0)), .val (.int (own_hash ([p0, p1, p2, p3, (p1 ^^^ p4)].set pp p4) nn)), .unset] [(.int p4), (.int (1 : Int32))])) _
        refine XS.iload X49.here hx rfl (hb hby at_209) rfl ?_
        show Steps p.tables e below (T49.setTop (mkF m 211 #[.val (.int p0), .val (.int p1), .val (.int p2), .val (.int p3), .val (.int p4), .val (.int p5), .val (.int n6), .val (.int (p1 ^^^ p4)), .val (.ref b1), .val (.ref b14), .val (.ref b32), .val (.int (own_hash [p0, p1, p2, p3, (p1 ^^^ p4)] nn)), .val (.int (own_hash [own_keep p0 0 n6, own_keep p1 1 n6, own_keep p2 2 n6, own_keep p3 3 n6, own_keep (p1 ^^^ p4) 4 n6] nn)), .val (.int (1 : Int32)), .val (.int p14), .val (.int ([p0, p1, p2, p3, (p1 ^^^ p4)].getD pp 0)), .val (.int (own_hash ([p0, p1, p2, p3, (p1 ^^^ p4)].set pp p4) nn)), .unset] [(.int ([p0, p1, p2, p3, (p1 ^^^ p4)].getD pp 0)), (.int p4), (.int (1 : Int32))])) _
        refine XS.icmpNo X49.here hx rfl (hb hby at_211) rfl (teq cx).2 ?_
        show Steps p.tables e below (T49.setTop (mkF m 214 #[.val (.int p0), .val (.int p1), .val (.int p2), .val (.int p3), .val (.int p4), .val (.int p5), .val (.int n6), .val (.int (p1 ^^^ p4)), .val (.ref b1), .val (.ref b14), .val (.ref b32), .val (.int (own_hash [p0, p1, p2, p3, (p1 ^^^ p4)] nn)), .val (.int (own_hash [own_keep p0 0 n6, own_keep p1 1 n6, own_keep p2 2 n6, own_keep p3 3 n6, own_keep (p1 ^^^ p4) 4 n6] nn)), .val (.int (1 : Int32)), .val (.int p14), .val (.int ([p0, p1, p2, p3, (p1 ^^^ p4)].getD pp 0)), .val (.int (own_hash ([p0, p1, p2, p3, (p1 ^^^ p4)].set pp p4) nn)), .unset] [(.int (1 : Int32))])) _
        refine XS.iconst X49.here hx rfl (hb hby at_214) ?_
        show Steps p.tables e below (T49.setTop (mkF m 215 #[.val (.int p0), .val (.int p1), .val (.int p2), .val (.int p3), .val (.int p4), .val (.int p5), .val (.int n6), .val (.int (p1 ^^^ p4)), .val (.ref b1), .val (.ref b14), .val (.ref b32), .val (.int (own_hash [p0, p1, p2, p3, (p1 ^^^ p4)] nn)), .val (.int (own_hash [own_keep p0 0 n6, own_keep p1 1 n6, own_keep p2 2 n6, own_keep p3 3 n6, own_keep (p1 ^^^ p4) 4 n6] nn)), .val (.int (1 : Int32)), .val (.int p14), .val (.int ([p0, p1, p2, p3, (p1 ^^^ p4)].getD pp 0)), .val (.int (own_hash ([p0, p1, p2, p3, (p1 ^^^ p4)].set pp p4) nn)), .unset] [(.int (1 : Int32)), (.int (1 : Int32))])) _
        refine XS.goto X49.here hx rfl (pc0 := 215) (pc' := 219) rfl (hb hby at_215) (by decide) (by decide) ?_
        show Steps p.tables e below (T49.setTop (mkF m 219 #[.val (.int p0), .val (.int p1), .val (.int p2), .val (.int p3), .val (.int p4), .val (.int p5), .val (.int n6), .val (.int (p1 ^^^ p4)), .val (.ref b1), .val (.ref b14), .val (.ref b32), .val (.int (own_hash [p0, p1, p2, p3, (p1 ^^^ p4)] nn)), .val (.int (own_hash [own_keep p0 0 n6, own_keep p1 1 n6, own_keep p2 2 n6, own_keep p3 3 n6, own_keep (p1 ^^^ p4) 4 n6] nn)), .val (.int (1 : Int32)), .val (.int p14), .val (.int ([p0, p1, p2, p3, (p1 ^^^ p4)].getD pp 0)), .val (.int (own_hash ([p0, p1, p2, p3, (p1 ^^^ p4)].set pp p4) nn)), .unset] [(.int (1 : Int32)), (.int (1 : Int32))])) _
        refine XS.icmpNo X49.here hx rfl (hb hby at_219) rfl (teq (rfl : (1 : Int32) = (1 : Int32))).2 ?_
        show Steps p.tables e below (T49.setTop (mkF m 222 #[.val (.int p0), .val (.int p1), .val (.int p2), .val (.int p3), .val (.int p4), .val (.int p5), .val (.int n6), .val (.int (p1 ^^^ p4)), .val (.ref b1), .val (.ref b14), .val (.ref b32), .val (.int (own_hash [p0, p1, p2, p3, (p1 ^^^ p4)] nn)), .val (.int (own_hash [own_keep p0 0 n6, own_keep p1 1 n6, own_keep p2 2 n6, own_keep p3 3 n6, own_keep (p1 ^^^ p4) 4 n6] nn)), .val (.int (1 : Int32)), .val (.int p14), .val (.int ([p0, p1, p2, p3, (p1 ^^^ p4)].getD pp 0)), .val (.int (own_hash ([p0, p1, p2, p3, (p1 ^^^ p4)].set pp p4) nn)), .unset] [])) _
        refine XS.iconst X49.here hx rfl (hb hby at_222) ?_
        show Steps p.tables e below (T49.setTop (mkF m 223 #[.val (.int p0), .val (.int p1), .val (.int p2), .val (.int p3), .val (.int p4), .val (.int p5), .val (.int n6), .val (.int (p1 ^^^ p4)), .val (.ref b1), .val (.ref b14), .val (.ref b32), .val (.int (own_hash [p0, p1, p2, p3, (p1 ^^^ p4)] nn)), .val (.int (own_hash [own_keep p0 0 n6, own_keep p1 1 n6, own_keep p2 2 n6, own_keep p3 3 n6, own_keep (p1 ^^^ p4) 4 n6] nn)), .val (.int (1 : Int32)), .val (.int p14), .val (.int ([p0, p1, p2, p3, (p1 ^^^ p4)].getD pp 0)), .val (.int (own_hash ([p0, p1, p2, p3, (p1 ^^^ p4)].set pp p4) nn)), .unset] [(.int (1 : Int32))])) _
        refine XS.goto X49.here hx rfl (pc0 := 223) (pc' := 227) rfl (hb hby at_223) (by decide) (by decide) ?_
        show Steps p.tables e below (T49.setTop (mkF m 227 #[.val (.int p0), .val (.int p1), .val (.int p2), .val (.int p3), .val (.int p4), .val (.int p5), .val (.int n6), .val (.int (p1 ^^^ p4)), .val (.ref b1), .val (.ref b14), .val (.ref b32), .val (.int (own_hash [p0, p1, p2, p3, (p1 ^^^ p4)] nn)), .val (.int (own_hash [own_keep p0 0 n6, own_keep p1 1 n6, own_keep p2 2 n6, own_keep p3 3 n6, own_keep (p1 ^^^ p4) 4 n6] nn)), .val (.int (1 : Int32)), .val (.int p14), .val (.int ([p0, p1, p2, p3, (p1 ^^^ p4)].getD pp 0)), .val (.int (own_hash ([p0, p1, p2, p3, (p1 ^^^ p4)].set pp p4) nn)), .unset] [(.int (1 : Int32))])) _
        refine XS.istore X49.here hx rfl (hb hby at_227) rfl (l' := #[.val (.int p0), .val (.int p1), .val (.int p2), .val (.int p3), .val (.int p4), .val (.int p5), .val (.int n6), .val (.int (p1 ^^^ p4)), .val (.ref b1), .val (.ref b14), .val (.ref b32), .val (.int (own_hash [p0, p1, p2, p3, (p1 ^^^ p4)] nn)), .val (.int (own_hash [own_keep p0 0 n6, own_keep p1 1 n6, own_keep p2 2 n6, own_keep p3 3 n6, own_keep (p1 ^^^ p4) 4 n6] nn)), .val (.int (1 : Int32)), .val (.int p14), .val (.int ([p0, p1, p2, p3, (p1 ^^^ p4)].getD pp 0)), .val (.int (own_hash ([p0, p1, p2, p3, (p1 ^^^ p4)].set pp p4) nn)), .val (.int (1 : Int32))]) rfl ?_
        show Steps p.tables e below (T49.setTop (mkF m 229 #[.val (.int p0), .val (.int p1), .val (.int p2), .val (.int p3), .val (.int p4), .val (.int p5), .val (.int n6), .val (.int (p1 ^^^ p4)), .val (.ref b1), .val (.ref b14), .val (.ref b32), .val (.int (own_hash [p0, p1, p2, p3, (p1 ^^^ p4)] nn)), .val (.int (own_hash [own_keep p0 0 n6, own_keep p1 1 n6, own_keep p2 2 n6, own_keep p3 3 n6, own_keep (p1 ^^^ p4) 4 n6] nn)), .val (.int (1 : Int32)), .val (.int p14), .val (.int ([p0, p1, p2, p3, (p1 ^^^ p4)].getD pp 0)), .val (.int (own_hash ([p0, p1, p2, p3, (p1 ^^^ p4)].set pp p4) nn)), .val (.int (1 : Int32))] [])) _
        refine XS.iload X49.here hx rfl (hb hby at_229) rfl ?_
        show Steps p.tables e below (T49.setTop (mkF m 231 #[.val (.int p0), .val (.int p1), .val (.int p2), .val (.int p3), .val (.int p4), .val (.int p5), .val (.int n6), .val (.int (p1 ^^^ p4)), .val (.ref b1), .val (.ref b14), .val (.ref b32), .val (.int (own_hash [p0, p1, p2, p3, (p1 ^^^ p4)] nn)), .val (.int (own_hash [own_keep p0 0 n6, own_keep p1 1 n6, own_keep p2 2 n6, own_keep p3 3 n6, own_keep (p1 ^^^ p4) 4 n6] nn)), .val (.int (1 : Int32)), .val (.int p14), .val (.int ([p0, p1, p2, p3, (p1 ^^^ p4)].getD pp 0)), .val (.int (own_hash ([p0, p1, p2, p3, (p1 ^^^ p4)].set pp p4) nn)), .val (.int (1 : Int32))] [(.int (1 : Int32))])) _
        refine XS.ifNo X49.here hx rfl (hb hby at_231) rfl ((if0 _ _).trans (feq (by decide : ¬ ((1 : Int32) = (0 : Int32)))).1) ?_
        show Steps p.tables e below (T49.setTop (mkF m 234 #[.val (.int p0), .val (.int p1), .val (.int p2), .val (.int p3), .val (.int p4), .val (.int p5), .val (.int n6), .val (.int (p1 ^^^ p4)), .val (.ref b1), .val (.ref b14), .val (.ref b32), .val (.int (own_hash [p0, p1, p2, p3, (p1 ^^^ p4)] nn)), .val (.int (own_hash [own_keep p0 0 n6, own_keep p1 1 n6, own_keep p2 2 n6, own_keep p3 3 n6, own_keep (p1 ^^^ p4) 4 n6] nn)), .val (.int (1 : Int32)), .val (.int p14), .val (.int ([p0, p1, p2, p3, (p1 ^^^ p4)].getD pp 0)), .val (.int (own_hash ([p0, p1, p2, p3, (p1 ^^^ p4)].set pp p4) nn)), .val (.int (1 : Int32))] [])) _
        refine XS.iload X49.here hx rfl (hb hby at_234) rfl ?_
        show Steps p.tables e below (T49.setTop (mkF m 236 #[.val (.int p0), .val (.int p1), .val (.int p2), .val (.int p3), .val (.int p4), .val (.int p5), .val (.int n6), .val (.int (p1 ^^^ p4)), .val (.ref b1), .val (.ref b14), .val (.ref b32), .val (.int (own_hash [p0, p1, p2, p3, (p1 ^^^ p4)] nn)), .val (.int (own_hash [own_keep p0 0 n6, own_keep p1 1 n6, own_keep p2 2 n6, own_keep p3 3 n6, own_keep (p1 ^^^ p4) 4 n6] nn)), .val (.int (1 : Int32)), .val (.int p14), .val (.int ([p0, p1, p2, p3, (p1 ^^^ p4)].getD pp 0)), .val (.int (own_hash ([p0, p1, p2, p3, (p1 ^^^ p4)].set pp p4) nn)), .val (.int (1 : Int32))] [(.int (1 : Int32))])) _
        refine XS.ifNo X49.here hx rfl (hb hby at_236) rfl ((if0 _ _).trans (feq (by decide : ¬ ((1 : Int32) = (0 : Int32)))).1) ?_
        show Steps p.tables e below (T49.setTop (mkF m 239 #[.val (.int p0), .val (.int p1), .val (.int p2), .val (.int p3), .val (.int p4), .val (.int p5), .val (.int n6), .val (.int (p1 ^^^ p4)), .val (.ref b1), .val (.ref b14), .val (.ref b32), .val (.int (own_hash [p0, p1, p2, p3, (p1 ^^^ p4)] nn)), .val (.int (own_hash [own_keep p0 0 n6, own_keep p1 1 n6, own_keep p2 2 n6, own_keep p3 3 n6, own_keep (p1 ^^^ p4) 4 n6] nn)), .val (.int (1 : Int32)), .val (.int p14), .val (.int ([p0, p1, p2, p3, (p1 ^^^ p4)].getD pp 0)), .val (.int (own_hash ([p0, p1, p2, p3, (p1 ^^^ p4)].set pp p4) nn)), .val (.int (1 : Int32))] [])) _
        refine XS.iconst X49.here hx rfl (hb hby at_239) ?_
        show Steps p.tables e below (T49.setTop (mkF m 240 #[.val (.int p0), .val (.int p1), .val (.int p2), .val (.int p3), .val (.int p4), .val (.int p5), .val (.int n6), .val (.int (p1 ^^^ p4)), .val (.ref b1), .val (.ref b14), .val (.ref b32), .val (.int (own_hash [p0, p1, p2, p3, (p1 ^^^ p4)] nn)), .val (.int (own_hash [own_keep p0 0 n6, own_keep p1 1 n6, own_keep p2 2 n6, own_keep p3 3 n6, own_keep (p1 ^^^ p4) 4 n6] nn)), .val (.int (1 : Int32)), .val (.int p14), .val (.int ([p0, p1, p2, p3, (p1 ^^^ p4)].getD pp 0)), .val (.int (own_hash ([p0, p1, p2, p3, (p1 ^^^ p4)].set pp p4) nn)), .val (.int (1 : Int32))] [(.int (1 : Int32))])) _
        refine XS.goto X49.here hx rfl (pc0 := 240) (pc' := 244) rfl (hb hby at_240) (by decide) (by decide) ?_
        show Steps p.tables e below (T49.setTop (mkF m 244 #[.val (.int p0), .val (.int p1), .val (.int p2), .val (.int p3), .val (.int p4), .val (.int p5), .val (.int n6), .val (.int (p1 ^^^ p4)), .val (.ref b1), .val (.ref b14), .val (.ref b32), .val (.int (own_hash [p0, p1, p2, p3, (p1 ^^^ p4)] nn)), .val (.int (own_hash [own_keep p0 0 n6, own_keep p1 1 n6, own_keep p2 2 n6, own_keep p3 3 n6, own_keep (p1 ^^^ p4) 4 n6] nn)), .val (.int (1 : Int32)), .val (.int p14), .val (.int ([p0, p1, p2, p3, (p1 ^^^ p4)].getD pp 0)), .val (.int (own_hash ([p0, p1, p2, p3, (p1 ^^^ p4)].set pp p4) nn)), .val (.int (1 : Int32))] [(.int (1 : Int32))])) _
        exact retN X49 hx (t := .boolean) Bd.returns (by simp) (hb hby at_244) hr
      · show Q0 Z p0 p1 p2 p3 p4 p5 h0 n0 _ T49.heap _
        rw [e49q]
        exact ⟨rfl, N49⟩
    · skip
      obtain ⟨fs, hr, hrun, hended, hW, hsame⟩ := X49.leave (v := some (.int (1 : Int32))) (fun h => by rw [Bd.returns] at h; cases h)
      refine ⟨_, _, pre10 _ ?_, hrun, hended, _, _, rfl, ?_, ⟨_, rfl⟩, hW, hsame.mono (by decide) (by decide)⟩
      · show Steps p.tables e below (T49.setTop (mkF m 195 #[.val (.int p0), .val (.int p1), .val (.int p2), .val (.int p3), .val (.int p4), .val (.int p5), .val (.int n6), .val (.int (p1 ^^^ p4)), .val (.ref b1), .val (.ref b14), .val (.ref b32), .val (.int (own_hash [p0, p1, p2, p3, (p1 ^^^ p4)] nn)), .val (.int (own_hash [own_keep p0 0 n6, own_keep p1 1 n6, own_keep p2 2 n6, own_keep p3 3 n6, own_keep (p1 ^^^ p4) 4 n6] nn)), .val (.int (1 : Int32)), .val (.int p14), .val (.int ([p0, p1, p2, p3, (p1 ^^^ p4)].getD pp 0)), .val (.int (own_hash ([p0, p1, p2, p3, (p1 ^^^ p4)].set pp p4) nn)), .unset] [])) _
        refine XS.iload X49.here hx rfl (hb hby at_195) rfl ?_
        show Steps p.tables e below (T49.setTop (mkF m 197 #[.val (.int p0), .val (.int p1), .val (.int p2), .val (.int p3), .val (.int p4), .val (.int p5), .val (.int n6), .val (.int (p1 ^^^ p4)), .val (.ref b1), .val (.ref b14), .val (.ref b32), .val (.int (own_hash [p0, p1, p2, p3, (p1 ^^^ p4)] nn)), .val (.int (own_hash [own_keep p0 0 n6, own_keep p1 1 n6, own_keep p2 2 n6, own_keep p3 3 n6, own_keep (p1 ^^^ p4) 4 n6] nn)), .val (.int (1 : Int32)), .val (.int p14), .val (.int ([p0, p1, p2, p3, (p1 ^^^ p4)].getD pp 0)), .val (.int (own_hash ([p0, p1, p2, p3, (p1 ^^^ p4)].set pp p4) nn)), .unset] [(.int (own_hash ([p0, p1, p2, p3, (p1 ^^^ p4)].set pp p4) nn))])) _
        refine XS.iload X49.here hx rfl (hb hby at_197) rfl ?_
        show Steps p.tables e below (T49.setTop (mkF m 199 #[.val (.int p0), .val (.int p1), .val (.int p2), .val (.int p3), .val (.int p4), .val (.int p5), .val (.int n6), .val (.int (p1 ^^^ p4)), .val (.ref b1), .val (.ref b14), .val (.ref b32), .val (.int (own_hash [p0, p1, p2, p3, (p1 ^^^ p4)] nn)), .val (.int (own_hash [own_keep p0 0 n6, own_keep p1 1 n6, own_keep p2 2 n6, own_keep p3 3 n6, own_keep (p1 ^^^ p4) 4 n6] nn)), .val (.int (1 : Int32)), .val (.int p14), .val (.int ([p0, p1, p2, p3, (p1 ^^^ p4)].getD pp 0)), .val (.int (own_hash ([p0, p1, p2, p3, (p1 ^^^ p4)].set pp p4) nn)), .unset] [(.int (own_hash [p0, p1, p2, p3, (p1 ^^^ p4)] nn)), (.int (own_hash ([p0, p1, p2, p3, (p1 ^^^ p4)].set pp p4) nn))])) _
        refine XS.icmpYes X49.here hx rfl (pc0 := 199) (pc' := 206) rfl (hb hby at_199) rfl (feq (fun q => cx ((own_inj p0 p1 p2 p3 (p1 ^^^ p4) p4 hnn hpp).mp q))).2 (by decide) (by decide) ?_
        show Steps p.tables e below (T49.setTop (mkF m 206 #[.val (.int p0), .val (.int p1), .val (.int p2), .val (.int p3), .val (.int p4), .val (.int p5), .val (.int n6), .val (.int (p1 ^^^ p4)), .val (.ref b1), .val (.ref b14), .val (.ref b32), .val (.int (own_hash [p0, p1, p2, p3, (p1 ^^^ p4)] nn)), .val (.int (own_hash [own_keep p0 0 n6, own_keep p1 1 n6, own_keep p2 2 n6, own_keep p3 3 n6, own_keep (p1 ^^^ p4) 4 n6] nn)), .val (.int (1 : Int32)), .val (.int p14), .val (.int ([p0, p1, p2, p3, (p1 ^^^ p4)].getD pp 0)), .val (.int (own_hash ([p0, p1, p2, p3, (p1 ^^^ p4)].set pp p4) nn)), .unset] [])) _
        refine XS.iconst X49.here hx rfl (hb hby at_206) ?_
        show Steps p.tables e below (T49.setTop (mkF m 207 #[.val (.int p0), .val (.int p1), .val (.int p2), .val (.int p3), .val (.int p4), .val (.int p5), .val (.int n6), .val (.int (p1 ^^^ p4)), .val (.ref b1), .val (.ref b14), .val (.ref b32), .val (.int (own_hash [p0, p1, p2, p3, (p1 ^^^ p4)] nn)), .val (.int (own_hash [own_keep p0 0 n6, own_keep p1 1 n6, own_keep p2 2 n6, own_keep p3 3 n6, own_keep (p1 ^^^ p4) 4 n6] nn)), .val (.int (1 : Int32)), .val (.int p14), .val (.int ([p0, p1, p2, p3, (p1 ^^^ p4)].getD pp 0)), .val (.int (own_hash ([p0, p1, p2, p3, (p1 ^^^ p4)].set pp p4) nn)), .unset] [(.int (0 : Int32))])) _
        refine XS.iload X49.here hx rfl (hb hby at_207) rfl ?_
        show Steps p.tables e below (T49.setTop (mkF m 209 #[.val (.int p0), .val (.int p1), .val (.int p2), .val (.int p3), .val (.int p4), .val (.int p5), .val (.int n6), .val (.int (p1 ^^^ p4)), .val (.ref b1), .val (.ref b14), .val (.ref b32), .val (.int (own_hash [p0, p1, p2, p3, (p1 ^^^ p4)] nn)), .val (.int (own_hash [own_keep p0 0 n6, own_keep p1 1 n6, own_keep p2 2 n6, own_keep p3 3 n6, own_keep (p1 ^^^ p4) 4 n6] nn)), .val (.int (1 : Int32)), .val (.int p14), .val (.int ([p0, p1, p2, p3, (p1 ^^^ p4)].getD pp 0)), .val (.int (own_hash ([p0, p1, p2, p3, (p1 ^^^ p4)].set pp p4) nn)), .unset] [(.int p4), (.int (0 : Int32))])) _
        refine XS.iload X49.here hx rfl (hb hby at_209) rfl ?_
        show Steps p.tables e below (T49.setTop (mkF m 211 #[.val (.int p0), .val (.int p1), .val (.int p2), .val (.int p3), .val (.int p4), .val (.int p5), .val (.int n6), .val (.int (p1 ^^^ p4)), .val (.ref b1), .val (.ref b14), .val (.ref b32), .val (.int (own_hash [p0, p1, p2, p3, (p1 ^^^ p4)] nn)), .val (.int (own_hash [own_keep p0 0 n6, own_keep p1 1 n6, own_keep p2 2 n6, own_keep p3 3 n6, own_keep (p1 ^^^ p4) 4 n6] nn)), .val (.int (1 : Int32)), .val (.int p14), .val (.int ([p0, p1, p2, p3, (p1 ^^^ p4)].getD pp 0)), .val (.int (own_hash ([p0, p1, p2, p3, (p1 ^^^ p4)].set pp p4) nn)), .unset] [(.int ([p0, p1, p2, p3, (p1 ^^^ p4)].getD pp 0)), (.int p4), (.int (0 : Int32))])) _
        refine XS.icmpYes X49.here hx rfl (pc0 := 211) (pc' := 218) rfl (hb hby at_211) rfl (feq cx).2 (by decide) (by decide) ?_
        show Steps p.tables e below (T49.setTop (mkF m 218 #[.val (.int p0), .val (.int p1), .val (.int p2), .val (.int p3), .val (.int p4), .val (.int p5), .val (.int n6), .val (.int (p1 ^^^ p4)), .val (.ref b1), .val (.ref b14), .val (.ref b32), .val (.int (own_hash [p0, p1, p2, p3, (p1 ^^^ p4)] nn)), .val (.int (own_hash [own_keep p0 0 n6, own_keep p1 1 n6, own_keep p2 2 n6, own_keep p3 3 n6, own_keep (p1 ^^^ p4) 4 n6] nn)), .val (.int (1 : Int32)), .val (.int p14), .val (.int ([p0, p1, p2, p3, (p1 ^^^ p4)].getD pp 0)), .val (.int (own_hash ([p0, p1, p2, p3, (p1 ^^^ p4)].set pp p4) nn)), .unset] [(.int (0 : Int32))])) _
        refine XS.iconst X49.here hx rfl (hb hby at_218) ?_
        show Steps p.tables e below (T49.setTop (mkF m 219 #[.val (.int p0), .val (.int p1), .val (.int p2), .val (.int p3), .val (.int p4), .val (.int p5), .val (.int n6), .val (.int (p1 ^^^ p4)), .val (.ref b1), .val (.ref b14), .val (.ref b32), .val (.int (own_hash [p0, p1, p2, p3, (p1 ^^^ p4)] nn)), .val (.int (own_hash [own_keep p0 0 n6, own_keep p1 1 n6, own_keep p2 2 n6, own_keep p3 3 n6, own_keep (p1 ^^^ p4) 4 n6] nn)), .val (.int (1 : Int32)), .val (.int p14), .val (.int ([p0, p1, p2, p3, (p1 ^^^ p4)].getD pp 0)), .val (.int (own_hash ([p0, p1, p2, p3, (p1 ^^^ p4)].set pp p4) nn)), .unset] [(.int (0 : Int32)), (.int (0 : Int32))])) _
        refine XS.icmpNo X49.here hx rfl (hb hby at_219) rfl (teq (rfl : (0 : Int32) = (0 : Int32))).2 ?_
        show Steps p.tables e below (T49.setTop (mkF m 222 #[.val (.int p0), .val (.int p1), .val (.int p2), .val (.int p3), .val (.int p4), .val (.int p5), .val (.int n6), .val (.int (p1 ^^^ p4)), .val (.ref b1), .val (.ref b14), .val (.ref b32), .val (.int (own_hash [p0, p1, p2, p3, (p1 ^^^ p4)] nn)), .val (.int (own_hash [own_keep p0 0 n6, own_keep p1 1 n6, own_keep p2 2 n6, own_keep p3 3 n6, own_keep (p1 ^^^ p4) 4 n6] nn)), .val (.int (1 : Int32)), .val (.int p14), .val (.int ([p0, p1, p2, p3, (p1 ^^^ p4)].getD pp 0)), .val (.int (own_hash ([p0, p1, p2, p3, (p1 ^^^ p4)].set pp p4) nn)), .unset] [])) _
        refine XS.iconst X49.here hx rfl (hb hby at_222) ?_
        show Steps p.tables e below (T49.setTop (mkF m 223 #[.val (.int p0), .val (.int p1), .val (.int p2), .val (.int p3), .val (.int p4), .val (.int p5), .val (.int n6), .val (.int (p1 ^^^ p4)), .val (.ref b1), .val (.ref b14), .val (.ref b32), .val (.int (own_hash [p0, p1, p2, p3, (p1 ^^^ p4)] nn)), .val (.int (own_hash [own_keep p0 0 n6, own_keep p1 1 n6, own_keep p2 2 n6, own_keep p3 3 n6, own_keep (p1 ^^^ p4) 4 n6] nn)), .val (.int (1 : Int32)), .val (.int p14), .val (.int ([p0, p1, p2, p3, (p1 ^^^ p4)].getD pp 0)), .val (.int (own_hash ([p0, p1, p2, p3, (p1 ^^^ p4)].set pp p4) nn)), .unset] [(.int (1 : Int32))])) _
        refine XS.goto X49.here hx rfl (pc0 := 223) (pc' := 227) rfl (hb hby at_223) (by decide) (by decide) ?_
        show Steps p.tables e below (T49.setTop (mkF m 227 #[.val (.int p0), .val (.int p1), .val (.int p2), .val (.int p3), .val (.int p4), .val (.int p5), .val (.int n6), .val (.int (p1 ^^^ p4)), .val (.ref b1), .val (.ref b14), .val (.ref b32), .val (.int (own_hash [p0, p1, p2, p3, (p1 ^^^ p4)] nn)), .val (.int (own_hash [own_keep p0 0 n6, own_keep p1 1 n6, own_keep p2 2 n6, own_keep p3 3 n6, own_keep (p1 ^^^ p4) 4 n6] nn)), .val (.int (1 : Int32)), .val (.int p14), .val (.int ([p0, p1, p2, p3, (p1 ^^^ p4)].getD pp 0)), .val (.int (own_hash ([p0, p1, p2, p3, (p1 ^^^ p4)].set pp p4) nn)), .unset] [(.int (1 : Int32))])) _
        refine XS.istore X49.here hx rfl (hb hby at_227) rfl (l' := #[.val (.int p0), .val (.int p1), .val (.int p2), .val (.int p3), .val (.int p4), .val (.int p5), .val (.int n6), .val (.int (p1 ^^^ p4)), .val (.ref b1), .val (.ref b14), .val (.ref b32), .val (.int (own_hash [p0, p1, p2, p3, (p1 ^^^ p4)] nn)), .val (.int (own_hash [own_keep p0 0 n6, own_keep p1 1 n6, own_keep p2 2 n6, own_keep p3 3 n6, own_keep (p1 ^^^ p4) 4 n6] nn)), .val (.int (1 : Int32)), .val (.int p14), .val (.int ([p0, p1, p2, p3, (p1 ^^^ p4)].getD pp 0)), .val (.int (own_hash ([p0, p1, p2, p3, (p1 ^^^ p4)].set pp p4) nn)), .val (.int (1 : Int32))]) rfl ?_
        show Steps p.tables e below (T49.setTop (mkF m 229 #[.val (.int p0), .val (.int p1), .val (.int p2), .val (.int p3), .val (.int p4), .val (.int p5), .val (.int n6), .val (.int (p1 ^^^ p4)), .val (.ref b1), .val (.ref b14), .val (.ref b32), .val (.int (own_hash [p0, p1, p2, p3, (p1 ^^^ p4)] nn)), .val (.int (own_hash [own_keep p0 0 n6, own_keep p1 1 n6, own_keep p2 2 n6, own_keep p3 3 n6, own_keep (p1 ^^^ p4) 4 n6] nn)), .val (.int (1 : Int32)), .val (.int p14), .val (.int ([p0, p1, p2, p3, (p1 ^^^ p4)].getD pp 0)), .val (.int (own_hash ([p0, p1, p2, p3, (p1 ^^^ p4)].set pp p4) nn)), .val (.int (1 : Int32))] [])) _
        refine XS.iload X49.here hx rfl (hb hby at_229) rfl ?_
        show Steps p.tables e below (T49.setTop (mkF m 231 #[.val (.int p0), .val (.int p1), .val (.int p2), .val (.int p3), .val (.int p4), .val (.int p5), .val (.int n6), .val (.int (p1 ^^^ p4)), .val (.ref b1), .val (.ref b14), .val (.ref b32), .val (.int (own_hash [p0, p1, p2, p3, (p1 ^^^ p4)] nn)), .val (.int (own_hash [own_keep p0 0 n6, own_keep p1 1 n6, own_keep p2 2 n6, own_keep p3 3 n6, own_keep (p1 ^^^ p4) 4 n6] nn)), .val (.int (1 : Int32)), .val (.int p14), .val (.int ([p0, p1, p2, p3, (p1 ^^^ p4)].getD pp 0)), .val (.int (own_hash ([p0, p1, p2, p3, (p1 ^^^ p4)].set pp p4) nn)), .val (.int (1 : Int32))] [(.int (1 : Int32))])) _
        refine XS.ifNo X49.here hx rfl (hb hby at_231) rfl ((if0 _ _).trans (feq (by decide : ¬ ((1 : Int32) = (0 : Int32)))).1) ?_
        show Steps p.tables e below (T49.setTop (mkF m 234 #[.val (.int p0), .val (.int p1), .val (.int p2), .val (.int p3), .val (.int p4), .val (.int p5), .val (.int n6), .val (.int (p1 ^^^ p4)), .val (.ref b1), .val (.ref b14), .val (.ref b32), .val (.int (own_hash [p0, p1, p2, p3, (p1 ^^^ p4)] nn)), .val (.int (own_hash [own_keep p0 0 n6, own_keep p1 1 n6, own_keep p2 2 n6, own_keep p3 3 n6, own_keep (p1 ^^^ p4) 4 n6] nn)), .val (.int (1 : Int32)), .val (.int p14), .val (.int ([p0, p1, p2, p3, (p1 ^^^ p4)].getD pp 0)), .val (.int (own_hash ([p0, p1, p2, p3, (p1 ^^^ p4)].set pp p4) nn)), .val (.int (1 : Int32))] [])) _
        refine XS.iload X49.here hx rfl (hb hby at_234) rfl ?_
        show Steps p.tables e below (T49.setTop (mkF m 236 #[.val (.int p0), .val (.int p1), .val (.int p2), .val (.int p3), .val (.int p4), .val (.int p5), .val (.int n6), .val (.int (p1 ^^^ p4)), .val (.ref b1), .val (.ref b14), .val (.ref b32), .val (.int (own_hash [p0, p1, p2, p3, (p1 ^^^ p4)] nn)), .val (.int (own_hash [own_keep p0 0 n6, own_keep p1 1 n6, own_keep p2 2 n6, own_keep p3 3 n6, own_keep (p1 ^^^ p4) 4 n6] nn)), .val (.int (1 : Int32)), .val (.int p14), .val (.int ([p0, p1, p2, p3, (p1 ^^^ p4)].getD pp 0)), .val (.int (own_hash ([p0, p1, p2, p3, (p1 ^^^ p4)].set pp p4) nn)), .val (.int (1 : Int32))] [(.int (1 : Int32))])) _
        refine XS.ifNo X49.here hx rfl (hb hby at_236) rfl ((if0 _ _).trans (feq (by decide : ¬ ((1 : Int32) = (0 : Int32)))).1) ?_
        show Steps p.tables e below (T49.setTop (mkF m 239 #[.val (.int p0), .val (.int p1), .val (.int p2), .val (.int p3), .val (.int p4), .val (.int p5), .val (.int n6), .val (.int (p1 ^^^ p4)), .val (.ref b1), .val (.ref b14), .val (.ref b32), .val (.int (own_hash [p0, p1, p2, p3, (p1 ^^^ p4)] nn)), .val (.int (own_hash [own_keep p0 0 n6, own_keep p1 1 n6, own_keep p2 2 n6, own_keep p3 3 n6, own_keep (p1 ^^^ p4) 4 n6] nn)), .val (.int (1 : Int32)), .val (.int p14), .val (.int ([p0, p1, p2, p3, (p1 ^^^ p4)].getD pp 0)), .val (.int (own_hash ([p0, p1, p2, p3, (p1 ^^^ p4)].set pp p4) nn)), .val (.int (1 : Int32))] [])) _
        refine XS.iconst X49.here hx rfl (hb hby at_239) ?_
        show Steps p.tables e below (T49.setTop (mkF m 240 #[.val (.int p0), .val (.int p1), .val (.int p2), .val (.int p3), .val (.int p4), .val (.int p5), .val (.int n6), .val (.int (p1 ^^^ p4)), .val (.ref b1), .val (.ref b14), .val (.ref b32), .val (.int (own_hash [p0, p1, p2, p3, (p1 ^^^ p4)] nn)), .val (.int (own_hash [own_keep p0 0 n6, own_keep p1 1 n6, own_keep p2 2 n6, own_keep p3 3 n6, own_keep (p1 ^^^ p4) 4 n6] nn)), .val (.int (1 : Int32)), .val (.int p14), .val (.int ([p0, p1, p2, p3, (p1 ^^^ p4)].getD pp 0)), .val (.int (own_hash ([p0, p1, p2, p3, (p1 ^^^ p4)].set pp p4) nn)), .val (.int (1 : Int32))] [(.int (1 : Int32))])) _
        refine XS.goto X49.here hx rfl (pc0 := 240) (pc' := 244) rfl (hb hby at_240) (by decide) (by decide) ?_
        show Steps p.tables e below (T49.setTop (mkF m 244 #[.val (.int p0), .val (.int p1), .val (.int p2), .val (.int p3), .val (.int p4), .val (.int p5), .val (.int n6), .val (.int (p1 ^^^ p4)), .val (.ref b1), .val (.ref b14), .val (.ref b32), .val (.int (own_hash [p0, p1, p2, p3, (p1 ^^^ p4)] nn)), .val (.int (own_hash [own_keep p0 0 n6, own_keep p1 1 n6, own_keep p2 2 n6, own_keep p3 3 n6, own_keep (p1 ^^^ p4) 4 n6] nn)), .val (.int (1 : Int32)), .val (.int p14), .val (.int ([p0, p1, p2, p3, (p1 ^^^ p4)].getD pp 0)), .val (.int (own_hash ([p0, p1, p2, p3, (p1 ^^^ p4)].set pp p4) nn)), .val (.int (1 : Int32))] [(.int (1 : Int32))])) _
        exact retN X49 hx (t := .boolean) Bd.returns (by simp) (hb hby at_244) hr
      · show Q0 Z p0 p1 p2 p3 p4 p5 h0 n0 _ T49.heap _
        rw [e49q]
        exact ⟨rfl, N49⟩
set_option maxRecDepth 65536 in
set_option maxHeartbeats 40000000 in
theorem comes_1 {Post : Tables → Env → Array Value → State → Outcome → State → Prop} (hpost : ∀ tb e args s v u, (limb_1_1.after args s (.returned v) u = true ∧ limb_1_2.after args s (.returned v) u = true ∧ True) → FrameEnd s (.returned v) u (Jvm.fieldLocs frame_1_writes args s ++ Jvm.arrayLocs frame_1_arrays args s ++ Jvm.staticLocs frame_1_statics s) 16 128 → Post tb e args s (.returned v) u) :
    ArmFor flags0 classFile x code maxLocals ret World_1 tables_1 room_1 Calls_1 rest_1 Pre_1 Post := by
  intro l hfl _ _ p e ha hc hk s m args below hf hA hF happ hP
  obtain ⟨hcalls, hrest, hpre⟩ := hP
  obtain ⟨-, -, -, hnamed, -, -, -, hat⟩ := (Spec.applies_iff hf).mp happ
  obtain ⟨hg, hn⟩ := and_e (Cond.before_iff.mp (show (Jvm.Cond.and given_1 narrow_1).before args s = true from hpre))
  obtain ⟨gv1, gv2⟩ := and_e hg
  obtain ⟨gv3, gv4⟩ := and_e gv2
  obtain ⟨gv5, gv6⟩ := and_e gv4
  obtain ⟨gv7, gv8⟩ := and_e gv6
  obtain ⟨gv9, gv10⟩ := and_e gv8
  obtain ⟨gv11, gv12⟩ := and_e gv10
  obtain ⟨w0, w1, w2, w3, w4, w5, rfl⟩ : ∃ w0 w1 w2 w3 w4 w5 : Value, args = #[w0, w1, w2, w3, w4, w5] := by
    have hs : args.size = 6 := by simpa [Cond.value, given_1] using gv1
    obtain ⟨L⟩ := args
    match L, hs with
    | [w0, w1, w2, w3, w4, w5], _ => exact ⟨w0, w1, w2, w3, w4, w5, rfl⟩
  have hw := fun d (hd : d ∈ tables_1) => atoms_spec (ws := Jvm.Cond.code x code maxLocals ret :: tables_1) hat d (List.mem_cons_of_mem _ hd)
  have hfit : Fit s := fun {y c} hc i hi => by
    obtain ⟨ha, rfl⟩ := Array.getElem?_eq_some_iff.mp hc
    have q := List.all_eq_true.mp ((Array.all_eq_true_iff_forall_mem.mp hF) _ (Array.getElem_mem ha)) i (List.mem_range.mpr hi)
    simpa [Array.getElem?_eq_getElem hi] using q
  obtain ⟨i0, ei0⟩ := is_v gv3
  obtain rfl : w0 = (.int i0) := Option.some.inj ei0
  obtain ⟨i1, ei1⟩ := is_v gv5
  obtain rfl : w1 = (.int i1) := Option.some.inj ei1
  obtain ⟨i2, ei2⟩ := is_v gv7
  obtain rfl : w2 = (.int i2) := Option.some.inj ei2
  obtain ⟨i3, ei3⟩ := is_v gv9
  obtain rfl : w3 = (.int i3) := Option.some.inj ei3
  obtain ⟨i4, ei4⟩ := is_v gv11
  obtain rfl : w4 = (.int i4) := Option.some.inj ei4
  obtain ⟨i5, ei5⟩ := is_v gv12
  obtain rfl : w5 = (.int i5) := Option.some.inj ei5
  obtain ⟨n, o, h1, h2, h3, _, L, rfl, ⟨rfl, N⟩, hq⟩ := rm0 l s _ hw tables_1 i0 i1 i2 i3 i4 i5 s.heap s.heap.size (Nat.le_refl _)  p e ha hc hk s m _ below hf ((Spec.applies_iff_loose hf).mp happ).1 ⟨rfl, State.Warmed39.refl s, rfl⟩ trivial
  refine ⟨n, _, h1, h2, h3, hpost _ _ _ _ _ _ ⟨Cond.after_iff.mpr rfl, Cond.after_iff.mpr (eq_i res_at (Term.int_eval (1)) rfl), trivial⟩ ⟨hq.1, hq.2.1, (hq.2.2.sift fun y hy => Or.inr (N y hy)).mono (by decide) (by decide)⟩⟩
theorem main_1_1 : Claimed_1_1 := comes_1 fun _ _ _ _ _ _ h hF => ⟨h.1, hF⟩
theorem main_1_2 : Claimed_1_2 := comes_1 fun _ _ _ _ _ _ h hF => ⟨h.2.1, hF⟩
end Jvm.Pilot.@@N@@
namespace Jvm.Pilot.@@N@@
open Jvm Jvm.ClassFile Sem Op Lib Jvm.Free Jvm.Stand Jvm.Pilot.@@N@@.Jvm.D
/-! MADE BY PROGRAM (witnessworld.py) out of the Statement's table words and the real class files: 9 classes; the members and pool entries that the words name. The judged class is class 1, her method 2. -/
namespace start1
open Jvm.ClassFile
def u (s : String) : CpInfo := .utf8 (stringToUtf16 s)
/-- a pool by its gaps: so many unusable entries, then the entry; so many at the end -/
def gap : Nat → List CpInfo → List CpInfo
  | 0, r => r
  | n + 1, r => .unusable :: gap n r
def poolList (es : List (Nat × CpInfo)) (last : Nat) : List CpInfo := es.foldr (fun e r => gap e.1 (e.2 :: r)) (gap last [])
def pool (es : List (Nat × CpInfo)) (last : Nat) : Array CpInfo := ⟨poolList es last⟩
def fileOf (pool : Array CpInfo) (this : Nat) (attrs : Array Attribute := #[]) (ms : Array MethodInfo := #[]) (fl : Nat := 33) (sup : Nat := 0) (ifs : Array Nat := #[]) (fds : Array FieldInfo := #[]) : ClassFile where
  minorVersion := 0
  majorVersion := 65
  constantPool := pool
  accessFlags := fl
  thisClass := this
  superClass := sup
  interfaces := ifs
  fields := fds
  methods := ms
  attributes := attrs
def plain (name : String) (sup : Option ClassId) : Class where
  name := name
  kind := .ordinary
  loader := none
  accessFlags := 33
  super := sup
  interfaces := #[]
  cf := none
  fields := #[]
  methods := #[]
  instanceTypes := #[]
  staticTypes := #[]
  resolved := #[]
  callSites := []
  init := .initialized
  statics := none
  mirror := none

def pool0 : Array CpInfo := pool [(5, u "<init>"), (0, u "()V"), (1, .class_ 10), (1, u "java/lang/Object")] 113

def k0m0 : Method := { name := "<init>", desc := "()V", sig := { parameters := [], returnType := none }, accessFlags := 1, code := none }
/-- java/lang/Object -/
def k0 : Class := { plain "java/lang/Object" none with
  accessFlags := 33
  interfaces := #[]
  cf := some (fileOf pool0 8 #[] #[{ accessFlags := 1, nameIndex := 5, descriptorIndex := 6, attributes := #[] }] 33 0 #[] #[])
  fields := #[]
  methods := #[k0m0]
  instanceTypes := #[]
  staticTypes := #[]
  resolved := Array.replicate 124 none
  statics := none }

def pool1 : Array CpInfo := pool [(2, .class_ 4), (1, u "java/lang/Object"), (0, u "<init>"), (0, u "()V"), (0, .methodref 8 9), (0, .class_ 10), (0, .nameAndType 11 12), (0, u "com/example/frangia/frangia/analysis/WalkHashPinLaw"), (0, u "keep"), (0, u "(III)I"), (0, .methodref 14 15), (0, .class_ 16), (0, .nameAndType 17 18), (0, u "com/example/frangia/frangia/analysis/LrAutomaton$Walk"), (0, u "hash"), (0, u "([II)I"), (3, u "law"), (0, u "(IIIIII)Z")] 8

def k1m0 : Method := { name := "<init>", desc := "()V", sig := { parameters := [], returnType := none }, accessFlags := 2, code := none }
def k1c1 : Code := { maxStack := 2, maxLocals := 3, code := method_2_code, exceptionTable := #[], attributes := #[] }
def k1m1 : Method := { name := "keep", desc := "(III)I", sig := { parameters := [.int, .int, .int], returnType := some .int }, accessFlags := 10, code := some k1c1 }
def k1c2 : Code := { maxStack := 6, maxLocals := 18, code := code, exceptionTable := #[], attributes := #[] }
def k1m2 : Method := { name := "law", desc := "(IIIIII)Z", sig := { parameters := [.int, .int, .int, .int, .int, .int], returnType := some .boolean }, accessFlags := 9, code := some k1c2 }
/-- com/example/frangia/frangia/analysis/WalkHashPinLaw -/
def k1 : Class := { plain "com/example/frangia/frangia/analysis/WalkHashPinLaw" (some 0) with
  accessFlags := 49
  interfaces := #[]
  cf := some (fileOf pool1 8 #[] #[{ accessFlags := 2, nameIndex := 5, descriptorIndex := 6, attributes := #[] }, { accessFlags := 10, nameIndex := 11, descriptorIndex := 12, attributes := #[] }, { accessFlags := 9, nameIndex := 22, descriptorIndex := 23, attributes := #[] }] 49 2 #[] #[])
  fields := #[]
  methods := #[k1m0, k1m1, k1m2]
  instanceTypes := #[]
  staticTypes := #[]
  resolved := Array.replicate 32 none
  statics := none }

def pool2 : Array CpInfo := pool [(2, .class_ 4), (1, u "java/lang/Object"), (6, .class_ 13), (1, u "com/example/frangia/frangia/analysis/LrAutomaton$Walk"), (0, u "keys"), (0, u "Ljava/util/List;"), (2, u "hashes"), (0, u "[I"), (2, u "slots"), (2, u "symbols"), (2, u "targets"), (2, u "reductions"), (2, u "accepting"), (0, u "I"), (9, u "hash"), (0, u "([II)I"), (28, .integer 2654435769), (0, .integer 2246822507), (31, .class_ 109), (0, u "com/example/frangia/frangia/analysis/LrAutomaton")] 20

def k2c0 : Code := { maxStack := 3, maxLocals := 4, code := prog_17_method_6_code, exceptionTable := #[], attributes := #[] }
def k2m0 : Method := { name := "hash", desc := "([II)I", sig := { parameters := [(.array .int), .int], returnType := some .int }, accessFlags := 8, code := some k2c0 }
/-- com/example/frangia/frangia/analysis/LrAutomaton$Walk -/
def k2 : Class := { plain "com/example/frangia/frangia/analysis/LrAutomaton$Walk" (some 0) with
  accessFlags := 48
  interfaces := #[]
  cf := some (fileOf pool2 11 #[.nestHost 108] #[{ accessFlags := 8, nameIndex := 45, descriptorIndex := 46, attributes := #[] }] 48 2 #[] #[{ accessFlags := 18, nameIndex := 14, descriptorIndex := 15, attributes := #[] }, { accessFlags := 2, nameIndex := 18, descriptorIndex := 19, attributes := #[] }, { accessFlags := 2, nameIndex := 22, descriptorIndex := 19, attributes := #[] }, { accessFlags := 18, nameIndex := 25, descriptorIndex := 15, attributes := #[] }, { accessFlags := 18, nameIndex := 28, descriptorIndex := 15, attributes := #[] }, { accessFlags := 18, nameIndex := 31, descriptorIndex := 15, attributes := #[] }, { accessFlags := 2, nameIndex := 34, descriptorIndex := 35, attributes := #[] }])
  fields := #[{ name := "keys", type := (.object "java/util/List"), accessFlags := 18, slot := 0, constantValue := 0 }, { name := "hashes", type := (.array .int), accessFlags := 2, slot := 1, constantValue := 0 }, { name := "slots", type := (.array .int), accessFlags := 2, slot := 2, constantValue := 0 }, { name := "symbols", type := (.object "java/util/List"), accessFlags := 18, slot := 3, constantValue := 0 }, { name := "targets", type := (.object "java/util/List"), accessFlags := 18, slot := 4, constantValue := 0 }, { name := "reductions", type := (.object "java/util/List"), accessFlags := 18, slot := 5, constantValue := 0 }, { name := "accepting", type := .int, accessFlags := 2, slot := 6, constantValue := 0 }]
  methods := #[k2m0]
  instanceTypes := #[(.object "java/util/List"), (.array .int), (.array .int), (.object "java/util/List"), (.object "java/util/List"), (.object "java/util/List"), .int]
  staticTypes := #[]
  resolved := Array.replicate 130 none
  statics := none }

def pool3 : Array CpInfo := pool [(1, u "java/lang/Cloneable"), (0, .class_ 1), (0, u "java/lang/Object"), (0, .class_ 3)] 3

/-- java/lang/Cloneable -/
def k3 : Class := { plain "java/lang/Cloneable" (some 0) with
  accessFlags := 1537
  interfaces := #[]
  cf := some (fileOf pool3 2 #[] #[] 1537 4 #[] #[])
  fields := #[]
  methods := #[]
  instanceTypes := #[]
  staticTypes := #[]
  resolved := Array.replicate 8 none
  statics := none }

def pool4 : Array CpInfo := pool [(1, u "java/io/Serializable"), (0, .class_ 1), (0, u "java/lang/Object"), (0, .class_ 3)] 3

/-- java/io/Serializable -/
def k4 : Class := { plain "java/io/Serializable" (some 0) with
  accessFlags := 1537
  interfaces := #[]
  cf := some (fileOf pool4 2 #[] #[] 1537 4 #[] #[])
  fields := #[]
  methods := #[]
  instanceTypes := #[]
  staticTypes := #[]
  resolved := Array.replicate 8 none
  statics := none }

/-- the primitive byte -/
def k5 : Class := { plain "byte" none with kind := .primitive 'B', accessFlags := 0x411 }
/-- [B -/
def k6 : Class := { plain "[B" (some 0) with kind := .array 5 .byte, interfaces := #[3, 4], accessFlags := 1041 }

/-- the primitive int -/
def k7 : Class := { plain "int" none with kind := .primitive 'I', accessFlags := 0x411 }
/-- [I -/
def k8 : Class := { plain "[I" (some 0) with kind := .array 7 .int, interfaces := #[3, 4], accessFlags := 1041 }

def heap : Heap := #[]
def classes : Array Class := #[k0, k1, k2, k3, k4, k5, k6, k7, k8]
def interned : List (Array UInt16 × Addr) := []
def slotsUsed : Nat := 0
def theMethod : MethodId := ⟨1, 2⟩
def args0 : Array Value := #[.int 1, .int 2, .int 3, .int 4, .int 5, .int 6]
def aboutOver (below : List Frame) : State where
  vm := { classes := classes, interned := interned.toArray }
  heap := heap
  slotsUsed := slotsUsed
  threads := #[{ frames := .invoking theMethod args0 :: below }]
def below0 : List Frame := [.native { method := ⟨0, 0⟩, args := #[] }]
def about1 : State := aboutOver below0
def p0 : Program := .bare "" "" ""
def e0 : Env := launch0.env 0 0 0
theorem w_frames : about1.frames = Frame.invoking theMethod args0 :: below0 := rfl
set_option maxRecDepth 65536 in
theorem w_args : argsFit about1.vm theMethod args0 = true := by decide +kernel
set_option maxRecDepth 65536 in
theorem w_heap : heapFits about1 = true := by decide +kernel
set_option maxRecDepth 65536 in
theorem w_runnable : about1.curStatus? = some .runnable := by decide +kernel
set_option maxRecDepth 65536 in
theorem w_alone : about1.alone = true := by decide +kernel
set_option maxRecDepth 65536 in
theorem w_named : about1.methodNamed? x = some theMethod := by decide +kernel
set_option maxRecDepth 65536 in
theorem w_hears : about1.hears theMethod below0 = true := by decide +kernel
set_option maxRecDepth 65536 in
theorem w_ripe : about1.ripe theMethod args0 below0 = true := by decide +kernel
theorem w_running : about1.status = .running := rfl
set_option maxRecDepth 65536 in
theorem w_room : about1.hasRoom e0.platform room_1 = true :=
  launch0.hasRoom_least _ room_1 (by decide +kernel) (by decide +kernel) (by decide +kernel) (by decide +kernel) (by decide +kernel) (by decide +kernel)
theorem allAtoms_all (ts : List Jvm.Cond) (a : Array Jvm.Value) (st : Jvm.State) : (allAtoms ts).before a st = ts.all (fun c => c.before a st) := by
  induction ts with
  | nil => rfl
  | cons c t ih =>
    show (Jvm.Cond.and c (allAtoms t)).before a st = _
    rw [Jvm.Cond.before_and, ih, List.all_cons]
def words1 : List Jvm.Cond := Jvm.Cond.code x code maxLocals ret :: tables_1
/-- a 'code' word, met by the world's own term for the bytes: nothing is compared byte by byte -/
theorem code_word {y : MethodName} {bytes : ByteArray} {mx : Nat} {rt : Option FieldType} {a : Array Value} {s : State} {m : MethodId} {meth : Method} {c : Code} (h1 : s.methodNamed? y = some m) (h2 : s.vm.method? m = some meth) (h3 : meth.code = some c) (h4 : c.code = bytes)
    (h5 : (c.maxLocals == mx && c.exceptionTable.isEmpty && decide (c.maxStack ≤ mostOperands) && decide (meth.sig.returnType = rt) && !meth.locks && decide (parseMethodDescriptor y.desc = some meth.sig)) = true) : (Jvm.Cond.code y bytes mx rt).before a s = true := by
  simp only [Bool.and_eq_true, beq_iff_eq, Bool.not_eq_true', decide_eq_true_eq] at h5
  obtain ⟨⟨⟨⟨⟨g1, g2⟩, g3⟩, g4⟩, g5⟩, g6⟩ := h5
  simp [Cond.before, Cond.holds, Cond.value, h1, h2, h3, h4, g1, g2, g3, g4, g5, g6]
def isCode : Jvm.Cond → Bool
  | .code _ _ _ _ => true
  | _ => false
theorem all_split {L : List Jvm.Cond} {P : Jvm.Cond → Bool} (h1 : L.all (fun c => isCode c || P c) = true) (h2 : ∀ c ∈ L.filter isCode, P c = true) : L.all P = true := by
  refine List.all_eq_true.mpr fun c hc => ?_
  have h := List.all_eq_true.mp h1 c hc
  rcases Bool.eq_false_or_eq_true (isCode c) with hi | hi
  · exact h2 c (List.mem_filter.mpr ⟨hc, hi⟩)
  · simpa [hi] using h
set_option maxRecDepth 65536 in
theorem w_c0 : (Jvm.Cond.code x code maxLocals ret).before args0 about1 = true := code_word (m := ⟨1, 2⟩) (meth := k1m2) (c := k1c2) (by decide +kernel) rfl rfl rfl (by decide +kernel)
set_option maxRecDepth 65536 in
theorem w_c1 : (Jvm.Cond.code ({ cls := "com/example/frangia/frangia/analysis/WalkHashPinLaw", name := "keep", desc := "(III)I" } : Jvm.MethodName) method_2_code (3 : Nat) (Option.some Jvm.ClassFile.FieldType.int)).before args0 about1 = true := code_word (m := ⟨1, 1⟩) (meth := k1m1) (c := k1c1) (by decide +kernel) rfl rfl rfl (by decide +kernel)
set_option maxRecDepth 65536 in
theorem w_c2 : (Jvm.Cond.code ({ cls := "com/example/frangia/frangia/analysis/LrAutomaton$Walk", name := "hash", desc := "([II)I" } : Jvm.MethodName) prog_17_method_6_code (4 : Nat) (Option.some Jvm.ClassFile.FieldType.int)).before args0 about1 = true := code_word (m := ⟨2, 0⟩) (meth := k2m0) (c := k2c0) (by decide +kernel) rfl rfl rfl (by decide +kernel)
def codes1 : List Jvm.Cond := [Jvm.Cond.code x code maxLocals ret, Jvm.Cond.code ({ cls := "com/example/frangia/frangia/analysis/WalkHashPinLaw", name := "keep", desc := "(III)I" } : Jvm.MethodName) method_2_code (3 : Nat) (Option.some Jvm.ClassFile.FieldType.int), Jvm.Cond.code ({ cls := "com/example/frangia/frangia/analysis/LrAutomaton$Walk", name := "hash", desc := "([II)I" } : Jvm.MethodName) prog_17_method_6_code (4 : Nat) (Option.some Jvm.ClassFile.FieldType.int)]
set_option maxRecDepth 65536 in
theorem codes_eq : words1.filter isCode = codes1 := rfl
theorem w_codes : ∀ c ∈ words1.filter isCode, c.before args0 about1 = true := by
  rw [codes_eq]
  intro c hc
  simp only [codes1, List.mem_cons, List.not_mem_nil, or_false] at hc
  rcases hc with rfl | rfl | rfl
  · exact w_c0
  · exact w_c1
  · exact w_c2
set_option maxRecDepth 65536 in
theorem w_t1 : words1.all (fun c => isCode c || c.before args0 about1) = true := by decide +kernel
theorem w_tables : (allAtoms (Jvm.Cond.code x code maxLocals ret :: tables_1)).before args0 about1 = true := by
  rw [allAtoms_all]
  show words1.all (fun c => c.before args0 about1) = true
  refine all_split ?_ w_codes
  rw [w_t1]
set_option maxRecDepth 65536 in
theorem w_case : (Jvm.Cond.and given_1 narrow_1).before args0 about1 = true := by decide +kernel
theorem w_applies : (headSpec (Jvm.Cond.code x code maxLocals ret :: tables_1) room_1).applies x e0.platform about1 = true :=
  (Spec.applies_iff w_frames).mpr ⟨w_running, w_runnable, w_alone, w_named, w_hears, w_ripe, w_room, w_tables⟩
theorem atStart : AtStart classFile x code maxLocals ret World_1 tables_1 room_1 Calls_1 rest_1 Pre_1 launch0 p0 e0 about1 theMethod args0 below0 :=
  ⟨lists_1, trivial, launch0.admits_env _ _ _, launch0.least_env, fairChoices_fair.cas, fairChoices_fair.clock, w_frames, w_args, w_heap, w_applies, trivial, trivial, w_case⟩
end start1
theorem witness_1 : WitnessClaimed_1 := ⟨start1.p0, start1.e0, start1.about1, start1.theMethod, start1.args0, start1.below0, start1.atStart⟩
end Jvm.Pilot.@@N@@
