import JvmDerived
import JvmDerived.Pilot.@@N@@Statement
import JvmDerived.Pilot.@@N@@Code
set_option linter.unusedVariables false
set_option linter.unusedSimpArgs false
@@BLOCK:NumsL.lean.txt@@
namespace Jvm.RoadKit
open Sem ClassFile Op Lib Jvm.Stand Jvm.Free Jvm.LawKit
section New
variable {p : Program} {l : Launch} {e : Env} {R : Room} {s : State} {m : MethodId} {args : Array Value} {below : List Frame} {meth : Method} {c : Code} {T : State} {locs : List Loc} {cells slots : Nat}
theorem retI (X : Stand p l e R s m args below meth c T locs cells slots) (hx : p.tables.exec = Jvm.exec) {pc : Nat} {Ls : Array Slot} {z : Int32} {rest : List Value} (hret : meth.sig.returnType = some .int) (hd : decode c.code pc = .ok (.ireturn, 1)) {fs : List Frame}
    (hl : ∀ (f : JFrame) (acts : List Action), f.method = m → f.locked = none → f.entered = [] → (doReturn e (T.setTop f) acts (some (.int z))).1 = T.setFrames fs) : Steps p.tables e below (T.setTop (mkF m pc Ls (.int z :: rest))) (T.setFrames fs) :=
  retOut X hx hret rfl (Or.inl ⟨rfl, Or.inl rfl, z, rfl⟩) hd hl
end New
end Jvm.RoadKit
/- laws to paste: Road.backV, Road.eqW, Road.codOf (cut by pick.py; bodies as the Statement names them) -/
namespace Jvm.Pilot.@@N@@
namespace StrChars
open Jvm Sem ClassFile Op Lib Jvm.Stand Jvm.Free.XT Jvm.Free.ALB Jvm.Free.JM Jvm.Free
open Jvm.Lib.Cold (StaticIs)
/-- a char array whose places are chars -/
def Ch (a : Addr) (A : Cell) (U : State) : Prop := Arr .char a A U ∧ Typed .char A
theorem Ch.mv {a : Addr} {A : Cell} {U U' : State} (h : Ch a A U) (hal : U.vm.Alike U'.vm) (hh : U'.heap = U.heap) : Ch a A U' := ⟨h.1.mv hal hh, h.2⟩
theorem Ch.keep {a : Addr} {A : Cell} {U U' : State} (h : Ch a A U) (hal : U.vm.Alike U'.vm) (hk : U'.heap[a]? = some A) : Ch a A U' := ⟨h.1.keep hal hk, h.2⟩
/-- what place i of a char[]'s cell holds -/
def cv (A : Cell) (i : Nat) : Int32 := match A.slots[i]? with | some (.int x) => x | _ => 0
theorem Ch.get {a : Addr} {A : Cell} {U : State} (h : Ch a A U) {i : Nat} (hi : i < A.slots.size) : A.slots[i]? = some (.int (cv A i)) := by
  have e := Array.getElem?_eq_getElem hi
  have f := h.2 i _ e
  unfold cv; rw [e]
  generalize A.slots[i] = v at f
  cases v <;> simp [fits] at f ⊢
/-- the byte that i2b leaves of a char -/
def lo8 (x : Int32) : Int32 := x.toInt8.toInt32
theorem fits_lo8 (y : Int32) : fits .byte (.int (lo8 y)) = true := by
  have h1 := y.toInt8.le_toInt
  have h2 := y.toInt8.toInt_lt
  simp only [lo8, fits, Bool.and_eq_true, decide_eq_true_eq, Int32.le_iff_toInt_le, Int8.toInt_toInt32, show (-128 : Int32).toInt = -128 from by decide, show (127 : Int32).toInt = 127 from by decide]
  omega
/-- A' is A but that each place j of lo .. hi - 1 holds f j -/
def Laid (A A' : Cell) (lo hi : Nat) (f : Nat → Value) : Prop := A'.cls = A.cls ∧ A'.vm = A.vm ∧ A'.slots.size = A.slots.size ∧ ∀ i, A'.slots[i]? = if lo ≤ i ∧ i < hi then some (f i) else A.slots[i]?
theorem Laid.zero (A : Cell) (lo : Nat) (f : Nat → Value) : Laid A A lo (lo + 0) f := ⟨rfl, rfl, rfl, fun i => by rw [if_neg (by omega)]⟩
theorem Laid.step {A Ak : Cell} {lo k : Nat} {f : Nat → Value} {v : Value} (h : Laid A Ak lo k f) (hlo : lo ≤ k) (hk : k < Ak.slots.size) (hv : v = f k) : Laid A (Ak.setSlot k v) lo (k + 1) f := by
  refine ⟨h.1, h.2.1, by simpa [Cell.setSlot] using h.2.2.1, fun i => ?_⟩
  by_cases e : k = i
  · subst e; rw [Cell.slots_setSlot_self v hk, if_pos (by omega), hv]
  · rw [Cell.slots_setSlot_ne v e, h.2.2.2 i]
    by_cases q : lo ≤ i ∧ i < k
    · rw [if_pos q, if_pos (by omega)]
    · rw [if_neg q, if_neg (by omega)]
def U16 : String := "java/lang/StringUTF16"
namespace Cmp5
def yN : MethodName := ⟨"java/lang/StringUTF16", "compress", "([CI[BII)I"⟩
abbrev yB : ByteArray := jdk_52_method_21_code
theorem d0 : decode yB 0 = .ok (.iconst 0, 1) := by decide +kernel
theorem d1 : decode yB 1 = .ok (.istore 5, 2) := by decide +kernel
theorem d3 : decode yB 3 = .ok (.iload 5, 2) := by decide +kernel
theorem d5 : decode yB 5 = .ok (.iload 4, 2) := by decide +kernel
theorem d7 : decode yB 7 = .ok (.if_icmp (.ge) 37, 3) := by decide +kernel
theorem d10 : decode yB 10 = .ok (.aload_n 0, 1) := by decide +kernel
theorem d11 : decode yB 11 = .ok (.iload_n 1, 1) := by decide +kernel
theorem d12 : decode yB 12 = .ok (.caload, 1) := by decide +kernel
theorem d13 : decode yB 13 = .ok (.istore 6, 2) := by decide +kernel
theorem d15 : decode yB 15 = .ok (.iload 6, 2) := by decide +kernel
theorem d17 : decode yB 17 = .ok (.sipush 255, 3) := by decide +kernel
theorem d20 : decode yB 20 = .ok (.if_icmp (.le) 6, 3) := by decide +kernel
theorem d26 : decode yB 26 = .ok (.aload_n 2, 1) := by decide +kernel
theorem d27 : decode yB 27 = .ok (.iload_n 3, 1) := by decide +kernel
theorem d28 : decode yB 28 = .ok (.iload 6, 2) := by decide +kernel
theorem d30 : decode yB 30 = .ok (.i2b, 1) := by decide +kernel
theorem d31 : decode yB 31 = .ok (.bastore, 1) := by decide +kernel
theorem d32 : decode yB 32 = .ok (.iinc 1 1, 3) := by decide +kernel
theorem d35 : decode yB 35 = .ok (.iinc 3 1, 3) := by decide +kernel
theorem d38 : decode yB 38 = .ok (.iinc 5 1, 3) := by decide +kernel
theorem d41 : decode yB 41 = .ok (.goto (-38), 3) := by decide +kernel
theorem d44 : decode yB 44 = .ok (.iload 4, 2) := by decide +kernel
theorem d46 : decode yB 46 = .ok (.ireturn, 1) := by decide +kernel
def site : List Cond := []
def tab : Cond := tabOf yN yB 7 (some .int) site
def P (b : Addr) (A : Cell) (d : Addr) (B : Cell) (o q len : Nat) (args : Array Value) (s : State) : Prop := args = #[.ref b, .int (Int32.ofNat o), .ref d, .int (Int32.ofNat q), .int (Int32.ofNat len)] ∧ Ch b A s ∧ Arr .byte d B s ∧ b ≠ d ∧ o + len ≤ A.slots.size ∧ q + len ≤ B.slots.size ∧ ∀ i, i < len → ¬ 255 < cv A (o + i)
def E (b : Addr) (A : Cell) (d : Addr) (B : Cell) (o q len : Nat) (r : Option Value) (s u : State) : Prop := r = some (.int (Int32.ofNat len)) ∧ ∃ B', Put d B' s u ∧ Laid B B' q (q + len) (fun j => Value.int (lo8 (cv A (o + (j - q)))))
/-- no char of the range above 255: len; the places written hold each char's low byte -/
theorem law (l : Launch) (b : Addr) (A : Cell) (d : Addr) (B : Cell) (o q len : Nat) : Law l yN 5 5 0 0 yB 7 (some .int) site (P b A d B o q len) (E b A d B o q len) (copyLocs d q len) 0 0 := by
  refine Law.of_walk (plainFor_of_name (by decide +kernel)) (by decide +kernel) (by decide +kernel) (by decide) (fun _ _ h => by rw [h.1]; rfl) (fun _ U U' hal hh h => ⟨h.1, h.2.1.mv hal hh, h.2.2.1.mv hal hh, h.2.2.2⟩) (fun r U U' V V' h1 hal h2 h => ⟨h.1, h.2.elim fun B' q => ⟨B', q.1.mv h1 h2, q.2⟩⟩) ?_
  intro p e s m args below meth c s₁ X0 hexec hbytes hml hret hlk hnm hown hh0 W hP
  obtain ⟨rfl, hA, hB, hne, l1, l2, hp⟩ := hP
  have c1 : Steps p.tables e below (s₁.setTop (entryFrame m #[.ref b, .int (Int32.ofNat o), .ref d, .int (Int32.ofNat q), .int (Int32.ofNat len)] 7)) (s₁.setTop (mkF m 0 #[.val (.ref b), .val (.int (Int32.ofNat o)), .val (.ref d), .val (.int (Int32.ofNat q)), .val (.int (Int32.ofNat len)), .unset, .unset] [])) := entry rfl
  have hA0 := hA.1.mv X0.warmed.alike hh0
  have hB0 := hB.mv X0.warmed.alike hh0
  have a31 := hA.1.2.2.2
  have c2 : Steps p.tables e below (s₁.setTop (entryFrame m #[.ref b, .int (Int32.ofNat o), .ref d, .int (Int32.ofNat q), .int (Int32.ofNat len)] 7)) (s₁.setTop (mkF m 3 #[.val (.ref b), .val (.int (Int32.ofNat o)), .val (.ref d), .val (.int (Int32.ofNat q)), .val (.int (Int32.ofNat len)), .val (.int 0), .unset] [])) := c1.trans (by
    refine iconstV X0.here hexec rfl 0 (hb hbytes d0) (by decide) ?_
    refine XS.istore X0.here hexec rfl (hb hbytes d1) rfl rfl ?_
    exact Steps.refl _)
  have loop : ∀ (r i : Nat), i + r = len → ∀ (z : Slot), (z = .unset ∨ ∃ w, z = .val w ∧ w.category = 1) → ∀ (Tl : State) (Bk : Cell), Stand p l e { frames := 0, locals := 0, cells := 0, slots := 0 } s m #[.ref b, .int (Int32.ofNat o), .ref d, .int (Int32.ofNat q), .int (Int32.ofNat len)] below meth c Tl ([] ++ copyLocs d q i) 0 0 → Put d Bk s₁ Tl → Laid B Bk q (q + i) (fun j => Value.int (lo8 (cv A (o + (j - q))))) →
      Steps p.tables e below (s₁.setTop (entryFrame m #[.ref b, .int (Int32.ofNat o), .ref d, .int (Int32.ofNat q), .int (Int32.ofNat len)] 7)) (Tl.setTop (mkF m 3 #[.val (.ref b), .val (.int (Int32.ofNat (o + i))), .val (.ref d), .val (.int (Int32.ofNat (q + i))), .val (.int (Int32.ofNat len)), .val (.int (Int32.ofNat i)), z] [])) → ∃ (T' : State) (B' : Cell) (z' : Slot), Stand p l e { frames := 0, locals := 0, cells := 0, slots := 0 } s m #[.ref b, .int (Int32.ofNat o), .ref d, .int (Int32.ofNat q), .int (Int32.ofNat len)] below meth c T' ([] ++ copyLocs d q len) 0 0 ∧ Put d B' s₁ T' ∧ Laid B B' q (q + len) (fun j => Value.int (lo8 (cv A (o + (j - q))))) ∧
      Steps p.tables e below (s₁.setTop (entryFrame m #[.ref b, .int (Int32.ofNat o), .ref d, .int (Int32.ofNat q), .int (Int32.ofNat len)] 7)) (T'.setTop (mkF m 3 #[.val (.ref b), .val (.int (Int32.ofNat (o + len))), .val (.ref d), .val (.int (Int32.ofNat (q + len))), .val (.int (Int32.ofNat len)), .val (.int (Int32.ofNat len)), z'] [])) := by
    intro r
    induction r with
    | zero =>
      intro i hi z hz Tl Bk Xl pl fl cl
      have hil : i = len := by omega
      rw [hil] at Xl fl cl
      exact ⟨Tl, Bk, z, Xl, pl, fl, cl⟩
    | succ r ih =>
      intro i hi z hz Tl Bk Xl pl fl cl
      have all := X0.warmed.alike.symm.trans Xl.warmed.alike
      have hAl := hA0.keep all (pl.other hne hA0.1)
      have hBk := hB0.like all pl.1 fl.1 fl.2.1 fl.2.2.1
      have hlt : q + i < Bk.slots.size := by rw [fl.2.2.1]; omega
      have c3 : Steps p.tables e below (s₁.setTop (entryFrame m #[.ref b, .int (Int32.ofNat o), .ref d, .int (Int32.ofNat q), .int (Int32.ofNat len)] 7)) (Tl.setTop (mkF m 12 #[.val (.ref b), .val (.int (Int32.ofNat (o + i))), .val (.ref d), .val (.int (Int32.ofNat (q + i))), .val (.int (Int32.ofNat len)), .val (.int (Int32.ofNat i)), z] [.int (Int32.ofNat (o + i)), .ref b])) := cl.trans (by
        refine XS.iload Xl.here hexec rfl (hb hbytes d3) rfl ?_
        refine XS.iload Xl.here hexec rfl (hb hbytes d5) rfl ?_
        refine XS.icmpNo Xl.here hexec rfl (hb hbytes d7) rfl (ii_ge_f (lt32 (by omega) (by omega))) ?_
        refine XS.aloadN Xl.here hexec rfl (hb hbytes d10) rfl rfl ?_
        refine XS.iloadN Xl.here hexec rfl (hb hbytes d11) rfl ?_
        exact Steps.refl _)
      have c4 : Steps p.tables e below (s₁.setTop (entryFrame m #[.ref b, .int (Int32.ofNat o), .ref d, .int (Int32.ofNat q), .int (Int32.ofNat len)] 7)) (Tl.setTop (mkF m 13 #[.val (.ref b), .val (.int (Int32.ofNat (o + i))), .val (.ref d), .val (.int (Int32.ofNat (q + i))), .val (.int (Int32.ofNat len)), .val (.int (Int32.ofNat i)), z] [.int (cv A (o + i))])) := c3.trans (by
        refine Xl.aget hexec hAl rfl (hA.get (i := o + i) (by omega)) rfl rfl (hb hbytes d12) ?_
        exact Steps.refl _)
      have c5 : Steps p.tables e below (s₁.setTop (entryFrame m #[.ref b, .int (Int32.ofNat o), .ref d, .int (Int32.ofNat q), .int (Int32.ofNat len)] 7)) (Tl.setTop (mkF m 15 #[.val (.ref b), .val (.int (Int32.ofNat (o + i))), .val (.ref d), .val (.int (Int32.ofNat (q + i))), .val (.int (Int32.ofNat len)), .val (.int (Int32.ofNat i)), .val (.int (cv A (o + i)))] [])) := c4.trans (by
        refine XS.istoreS Xl.here hexec rfl (hb hbytes d13) rfl rfl hz ?_
        exact Steps.refl _)
      have c6 : Steps p.tables e below (s₁.setTop (entryFrame m #[.ref b, .int (Int32.ofNat o), .ref d, .int (Int32.ofNat q), .int (Int32.ofNat len)] 7)) (Tl.setTop (mkF m 31 #[.val (.ref b), .val (.int (Int32.ofNat (o + i))), .val (.ref d), .val (.int (Int32.ofNat (q + i))), .val (.int (Int32.ofNat len)), .val (.int (Int32.ofNat i)), .val (.int (cv A (o + i)))] [.int (lo8 (cv A (o + i))), .int (Int32.ofNat (q + i)), .ref d])) := c5.trans (by
        refine XS.iload Xl.here hexec rfl (hb hbytes d15) rfl ?_
        refine sipushV Xl.here hexec rfl 255 (hb hbytes d17) (by decide) ?_
        refine XS.icmpYes Xl.here hexec rfl (pc0 := 20) rfl (hb hbytes d20) rfl (ii_le_t (hp i (by omega))) (by decide) rfl ?_
        refine XS.aloadN Xl.here hexec rfl (hb hbytes d26) rfl rfl ?_
        refine XS.iloadN Xl.here hexec rfl (hb hbytes d27) rfl ?_
        refine XS.iload Xl.here hexec rfl (hb hbytes d28) rfl ?_
        refine i2b Xl.here hexec rfl (hb hbytes d30) rfl ?_
        exact Steps.refl _)
      obtain ⟨T7, X7, p7, st7⟩ := Xl.aput hexec hBk rfl hlt rfl (fits_lo8 (cv A (o + i))) (g := (mkF m 31 #[.val (.ref b), .val (.int (Int32.ofNat (o + i))), .val (.ref d), .val (.int (Int32.ofNat (q + i))), .val (.int (Int32.ofNat len)), .val (.int (Int32.ofNat i)), .val (.int (cv A (o + i)))] [.int (lo8 (cv A (o + i))), .int (Int32.ofNat (q + i)), .ref d])) rfl (rest := []) rfl (hb hbytes d31)
      have c8 : Steps p.tables e below (s₁.setTop (entryFrame m #[.ref b, .int (Int32.ofNat o), .ref d, .int (Int32.ofNat q), .int (Int32.ofNat len)] 7)) (T7.setTop (mkF m 32 #[.val (.ref b), .val (.int (Int32.ofNat (o + i))), .val (.ref d), .val (.int (Int32.ofNat (q + i))), .val (.int (Int32.ofNat len)), .val (.int (Int32.ofNat i)), .val (.int (cv A (o + i)))] [])) := c6.trans (st7 _ (Steps.refl _))
      have c9 : Steps p.tables e below (s₁.setTop (entryFrame m #[.ref b, .int (Int32.ofNat o), .ref d, .int (Int32.ofNat q), .int (Int32.ofNat len)] 7)) (T7.setTop (mkF m 3 #[.val (.ref b), .val (.int (Int32.ofNat (o + i) + 1)), .val (.ref d), .val (.int (Int32.ofNat (q + i) + 1)), .val (.int (Int32.ofNat len)), .val (.int (Int32.ofNat i + 1)), .val (.int (cv A (o + i)))] [])) := c8.trans (by
        refine iincV X7.here hexec rfl 1 (hb hbytes d32) (by decide) rfl rfl ?_
        refine iincV X7.here hexec rfl 1 (hb hbytes d35) (by decide) rfl rfl ?_
        refine iincV X7.here hexec rfl 1 (hb hbytes d38) (by decide) rfl rfl ?_
        refine XS.goto X7.here hexec rfl (pc0 := 41) rfl (hb hbytes d41) (by decide) rfl ?_
        exact Steps.refl _)
      have c10 : Steps p.tables e below (s₁.setTop (entryFrame m #[.ref b, .int (Int32.ofNat o), .ref d, .int (Int32.ofNat q), .int (Int32.ofNat len)] 7)) (T7.setTop (mkF m 3 #[.val (.ref b), .val (.int (Int32.ofNat (o + (i + 1)))), .val (.ref d), .val (.int (Int32.ofNat (q + (i + 1)))), .val (.int (Int32.ofNat len)), .val (.int (Int32.ofNat (i + 1))), .val (.int (cv A (o + i)))] [])) := by
        have := c9
        rw [succ32, succ32, succ32] at this
        exact this
      exact ih (i + 1) (by omega) _ (Or.inr ⟨_, rfl, rfl⟩) T7 _ (by rw [copyLocs_step, ← List.append_assoc]; exact X7) (pl.trans p7) (fl.step (by omega) hlt (by simp)) c10
  obtain ⟨T9, B9, z9, X9, p9, f9, g9⟩ := loop len 0 (by omega) .unset (Or.inl rfl) s₁ B (by simpa [copyLocs] using X0) ⟨hB0.1, fun _ _ => rfl, rfl⟩ (Laid.zero _ _ _) c2
  have c11 : Steps p.tables e below (s₁.setTop (entryFrame m #[.ref b, .int (Int32.ofNat o), .ref d, .int (Int32.ofNat q), .int (Int32.ofNat len)] 7)) (T9.setTop (mkF m 46 #[.val (.ref b), .val (.int (Int32.ofNat (o + len))), .val (.ref d), .val (.int (Int32.ofNat (q + len))), .val (.int (Int32.ofNat len)), .val (.int (Int32.ofNat len)), z9] [.int (Int32.ofNat len)])) := g9.trans (by
    refine XS.iload X9.here hexec rfl (hb hbytes d3) rfl ?_
    refine XS.iload X9.here hexec rfl (hb hbytes d5) rfl ?_
    refine XS.icmpYes X9.here hexec rfl (pc0 := 7) rfl (hb hbytes d7) rfl (ii_ge_t (nlt32 (by omega) (Nat.le_refl _))) (by decide) rfl ?_
    refine XS.iload X9.here hexec rfl (hb hbytes d44) rfl ?_
    exact Steps.refl _)
  exact ⟨T9, some (.int (Int32.ofNat len)), _, _, _, X9, by simp, rfl, rfl, (fun h => by cases h), ⟨rfl, B9, p9.from hh0, f9⟩, fun fs hl => c11.trans (X9.ireturnOut hexec hret rfl (Or.inl rfl) (hb hbytes d46) hl)⟩
end Cmp5
namespace Cmp3
def yN : MethodName := ⟨"java/lang/StringUTF16", "compress", "([CII)[B"⟩
abbrev yB : ByteArray := jdk_52_method_16_code
theorem d0 : decode yB 0 = .ok (.iload_n 2, 1) := by decide +kernel
theorem d1 : decode yB 1 = .ok (.newarray .byte, 2) := by decide +kernel
theorem d3 : decode yB 3 = .ok (.astore_n 3, 1) := by decide +kernel
theorem d4 : decode yB 4 = .ok (.aload_n 0, 1) := by decide +kernel
theorem d5 : decode yB 5 = .ok (.iload_n 1, 1) := by decide +kernel
theorem d6 : decode yB 6 = .ok (.aload_n 3, 1) := by decide +kernel
theorem d7 : decode yB 7 = .ok (.iconst 0, 1) := by decide +kernel
theorem d8 : decode yB 8 = .ok (.iload_n 2, 1) := by decide +kernel
theorem d9 : decode yB 9 = .ok (.invokestatic 115, 3) := by decide +kernel
theorem d12 : decode yB 12 = .ok (.istore 4, 2) := by decide +kernel
theorem d14 : decode yB 14 = .ok (.iload 4, 2) := by decide +kernel
theorem d16 : decode yB 16 = .ok (.iload_n 2, 1) := by decide +kernel
theorem d17 : decode yB 17 = .ok (.if_icmp (.eq) 40, 3) := by decide +kernel
theorem d57 : decode yB 57 = .ok (.aload_n 3, 1) := by decide +kernel
theorem d58 : decode yB 58 = .ok (.areturn, 1) := by decide +kernel
def site : List Cond := [.arrayClass .byte, Cmp5.tab] ++ staticW U16 115 Cmp5.yN
def tab : Cond := tabOf yN yB 6 (some (.array .byte)) site
def P (b : Addr) (A : Cell) (o len : Nat) (args : Array Value) (s : State) : Prop := args = #[.ref b, .int (Int32.ofNat o), .int (Int32.ofNat len)] ∧ Ch b A s ∧ o + len ≤ A.slots.size ∧ len ≤ 536870912 ∧ ∀ i, i < len → ¬ 255 < cv A (o + i)
def E (b : Addr) (A : Cell) (o len : Nat) (r : Option Value) (s u : State) : Prop := NewArr .byte "[B" len (fun j => .int (lo8 (cv A (o + j)))) r s u ∧ u.heap.size = s.heap.size + 1
/-- no char of the range above 255: a new byte[] of their low bytes -/
theorem law (l : Launch) (b : Addr) (A : Cell) (o len : Nat) : Law l yN 3 3 1 18 yB 6 (some (.array .byte)) site (P b A o len) (E b A o len) [] 1 len := by
  refine Law.of_walk (plainFor_of_name (by decide +kernel)) (by decide +kernel) (by decide +kernel) (by decide) (fun _ _ h => by rw [h.1]; rfl) (fun _ U U' hal hh h => ⟨h.1, h.2.1.mv hal hh, h.2.2⟩) (fun r U U' V V' h1 hal h2 h => ⟨NewArr.mv r U U' V V' h1 hal h2 h.1, by rw [h1, h2]; exact h.2⟩) ?_
  intro p e s m args below meth c s₁ X0 hexec hbytes hml hret hlk hnm hown hh0 W hP
  obtain ⟨rfl, hA, l1, l2, hp⟩ := hP
  have a31 := hA.1.2.2.2
  have c1 : Steps p.tables e below (s₁.setTop (entryFrame m #[.ref b, .int (Int32.ofNat o), .int (Int32.ofNat len)] 6)) (s₁.setTop (mkF m 0 #[.val (.ref b), .val (.int (Int32.ofNat o)), .val (.int (Int32.ofNat len)), .unset, .unset, .unset] [])) := entry rfl
  have c2 : Steps p.tables e below (s₁.setTop (entryFrame m #[.ref b, .int (Int32.ofNat o), .int (Int32.ofNat len)] 6)) (s₁.setTop (mkF m 1 #[.val (.ref b), .val (.int (Int32.ofNat o)), .val (.int (Int32.ofNat len)), .unset, .unset, .unset] [.int (Int32.ofNat len)])) := c1.trans (by
    refine XS.iloadN X0.here hexec rfl (hb hbytes d0) rfl ?_
    exact Steps.refl _)
  obtain ⟨T3, B3, X3, ba3, bs3, bv3, bh3, bf3, st3⟩ := X0.anew hexec (atype := .byte) (wk W (.arrayClass .byte)) rfl (by show len * 1 ≤ _; omega) (by omega) (g := (mkF m 1 #[.val (.ref b), .val (.int (Int32.ofNat o)), .val (.int (Int32.ofNat len)), .unset, .unset, .unset] [.int (Int32.ofNat len)])) rfl (hb hbytes d1) (rest := []) rfl (Nat.le_refl _) (by show 0 + len ≤ len; omega)
  rw [hh0] at ba3 st3
  have kp3 : XT.Kept s T3 := (XT.Kept.of_eq hh0).push bh3
  have hA3 := hA.keep X3.warmed.alike (kp3 _ _ hA.1.1)
  have hne : b ≠ s.heap.size := hA.1.ne
  have c4 : Steps p.tables e below (s₁.setTop (entryFrame m #[.ref b, .int (Int32.ofNat o), .int (Int32.ofNat len)] 6)) (T3.setTop (mkF m 3 #[.val (.ref b), .val (.int (Int32.ofNat o)), .val (.int (Int32.ofNat len)), .unset, .unset, .unset] [.ref s.heap.size])) := c2.trans (st3 _ (Steps.refl _))
  have c5 : Steps p.tables e below (s₁.setTop (entryFrame m #[.ref b, .int (Int32.ofNat o), .int (Int32.ofNat len)] 6)) (T3.setTop (mkF m 9 #[.val (.ref b), .val (.int (Int32.ofNat o)), .val (.int (Int32.ofNat len)), .val (.ref s.heap.size), .unset, .unset] [.int (Int32.ofNat len), .int 0, .ref s.heap.size, .int (Int32.ofNat o), .ref b])) := c4.trans (by
    refine XS.astoreN X3.here hexec rfl (hb hbytes d3) rfl rfl rfl ?_
    refine XS.aloadN X3.here hexec rfl (hb hbytes d4) rfl rfl ?_
    refine XS.iloadN X3.here hexec rfl (hb hbytes d5) rfl ?_
    refine XS.aloadN X3.here hexec rfl (hb hbytes d6) rfl rfl ?_
    refine iconstV X3.here hexec rfl 0 (hb hbytes d7) (by decide) ?_
    refine XS.iloadN X3.here hexec rfl (hb hbytes d8) rfl ?_
    exact Steps.refl _)
  obtain ⟨v6, T6, X6, E6, g6⟩ := X3.callS hexec (Cmp5.law l b A s.heap.size B3 o 0 len) hown (wks W (staticW U16 115 Cmp5.yN)) (wk W Cmp5.tab) (W := 0) (Nat.le_of_ble_eq_true rfl) (Nat.le_of_ble_eq_true rfl) (Nat.le_refl _) (by show 0 + len + 0 ≤ len; omega) (g := (mkF m 9 #[.val (.ref b), .val (.int (Int32.ofNat o)), .val (.int (Int32.ofNat len)), .val (.ref s.heap.size), .unset, .unset] [.int (Int32.ofNat len), .int (Int32.ofNat 0), .ref s.heap.size, .int (Int32.ofNat o), .ref b])) rfl (by rw [hml]; rfl) c5 (argsL := [.ref b, .int (Int32.ofNat o), .ref s.heap.size, .int (Int32.ofNat 0), .int (Int32.ofNat len)]) (rest := []) rfl rfl (by show 2 * 0 + 0 ≤ _; decide) (hb hbytes d9) (⟨rfl, hA3, ba3, hne, l1, by rw [bs3]; simp, hp⟩)
  obtain ⟨rfl, B6, p6, f6⟩ := E6
  have c7 : Steps p.tables e below (s₁.setTop (entryFrame m #[.ref b, .int (Int32.ofNat o), .int (Int32.ofNat len)] 6)) (T6.setTop (mkF m 12 #[.val (.ref b), .val (.int (Int32.ofNat o)), .val (.int (Int32.ofNat len)), .val (.ref s.heap.size), .unset, .unset] [.int (Int32.ofNat len)])) := g6
  have c8 : Steps p.tables e below (s₁.setTop (entryFrame m #[.ref b, .int (Int32.ofNat o), .int (Int32.ofNat len)] 6)) (T6.setTop (mkF m 58 #[.val (.ref b), .val (.int (Int32.ofNat o)), .val (.int (Int32.ofNat len)), .val (.ref s.heap.size), .val (.int (Int32.ofNat len)), .unset] [.ref s.heap.size])) := c7.trans (by
    refine XS.istore X6.here hexec rfl (hb hbytes d12) rfl rfl ?_
    refine XS.iload X6.here hexec rfl (hb hbytes d14) rfl ?_
    refine XS.iloadN X6.here hexec rfl (hb hbytes d16) rfl ?_
    refine XS.icmpYes X6.here hexec rfl (pc0 := 17) rfl (hb hbytes d17) rfl (ii_eq_t rfl) (by decide) rfl ?_
    refine XS.aloadN X6.here hexec rfl (hb hbytes d57) rfl rfl ?_
    exact Steps.refl _)
  have X8 := X6.wide (L' := []) (cells' := 1) (slots' := len) (fun x hx hlt => by
    simp only [List.nil_append, copyLocs, List.mem_map, List.mem_range] at hx
    obtain ⟨i, -, rfl⟩ := hx
    exact absurd hlt (Nat.lt_irrefl _)) (Nat.le_refl _) (by omega)
  exact ⟨T6, some (.ref s.heap.size), _, _, _, X8, rfl, rfl, rfl, (fun h => by cases h), ⟨⟨rfl, B6, ba3.like (X3.warmed.alike.symm.trans X6.warmed.alike) p6.1 f6.1 f6.2.1 f6.2.2.1, f6.2.1.trans bv3, by rw [X6.warmed.alike.findClass, f6.1]; exact bf3, by rw [f6.2.2.1, bs3]; simp, fun j hj => by rw [f6.2.2.2 j, if_pos (by omega)]; rfl, kp3.put p6 (Nat.le_refl _)⟩, by rw [p6.2.2, bh3, hh0]; simp⟩, fun fs hl => c8.trans (X8.areturnOut hexec rfl hret rfl (hb hbytes d58) hl)⟩
end Cmp3
namespace CodL
def yN : MethodName := ⟨"java/lang/StringUTF16", "coderFromArrayLen", "([BI)B"⟩
abbrev yB : ByteArray := jdk_52_method_15_code
theorem d0 : decode yB 0 = .ok (.iload_n 1, 1) := by decide +kernel
theorem d1 : decode yB 1 = .ok (.aload_n 0, 1) := by decide +kernel
theorem d2 : decode yB 2 = .ok (.arraylength, 1) := by decide +kernel
theorem d3 : decode yB 3 = .ok (.isub, 1) := by decide +kernel
theorem d4 : decode yB 4 = .ok (.bipush 31, 2) := by decide +kernel
theorem d6 : decode yB 6 = .ok (.iushr, 1) := by decide +kernel
theorem d7 : decode yB 7 = .ok (.i2b, 1) := by decide +kernel
theorem d8 : decode yB 8 = .ok (.ireturn, 1) := by decide +kernel
def site : List Cond := []
def tab : Cond := tabOf yN yB 2 (some .byte) site
def P (d : Addr) (B : Cell) (args : Array Value) (s : State) : Prop := args = #[.ref d, .int (Int32.ofNat B.slots.size)] ∧ Arr .byte d B s
def E (r : Option Value) (s u : State) : Prop := XT.PureE (some (.int 0)) r s u
/-- an array as long as the number of chars: LATIN1 -/
theorem law (l : Launch) (d : Addr) (B : Cell) : Law l yN 2 2 0 0 yB 2 (some .byte) site (P d B) E [] 0 0 := by
  refine Law.of_walk (plainFor_of_name (by decide +kernel)) (by decide +kernel) (by decide +kernel) (by decide) (fun _ _ h => by rw [h.1]; rfl) (fun _ U U' hal hh h => ⟨h.1, h.2.mv hal hh⟩) (fun r U U' V V' h1 hal h2 h => XT.PureE.mv r U U' V V' h1 hal h2 h) ?_
  intro p e s m args below meth c s₁ X0 hexec hbytes hml hret hlk hnm hown hh0 W hP
  obtain ⟨rfl, hB⟩ := hP
  have hB0 := hB.mv X0.warmed.alike hh0
  have c1 : Steps p.tables e below (s₁.setTop (entryFrame m #[.ref d, .int (Int32.ofNat B.slots.size)] 2)) (s₁.setTop (mkF m 0 #[.val (.ref d), .val (.int (Int32.ofNat B.slots.size))] [])) := entry rfl
  have c2 : Steps p.tables e below (s₁.setTop (entryFrame m #[.ref d, .int (Int32.ofNat B.slots.size)] 2)) (s₁.setTop (mkF m 2 #[.val (.ref d), .val (.int (Int32.ofNat B.slots.size))] [.ref d, .int (Int32.ofNat B.slots.size)])) := c1.trans (by
    refine XS.iloadN X0.here hexec rfl (hb hbytes d0) rfl ?_
    refine XS.aloadN X0.here hexec rfl (hb hbytes d1) rfl rfl ?_
    exact Steps.refl _)
  have c3 : Steps p.tables e below (s₁.setTop (entryFrame m #[.ref d, .int (Int32.ofNat B.slots.size)] 2)) (s₁.setTop (mkF m 8 #[.val (.ref d), .val (.int (Int32.ofNat B.slots.size))] [.int (lo8 (ushr (Int32.ofNat B.slots.size - Int32.ofNat B.slots.size) 31))])) := c2.trans (by
    refine X0.alen hexec hB0 rfl rfl (hb hbytes d2) ?_
    refine XS.isub X0.here hexec rfl (hb hbytes d3) rfl ?_
    refine bipushV X0.here hexec rfl 31 (hb hbytes d4) (by decide) ?_
    refine iushr X0.here hexec rfl (hb hbytes d6) rfl ?_
    refine i2b X0.here hexec rfl (hb hbytes d7) rfl ?_
    exact Steps.refl _)
  have e0 : lo8 (ushr (Int32.ofNat B.slots.size - Int32.ofNat B.slots.size) 31) = 0 := by rw [Int32.sub_self]; decide
  rw [e0] at c3
  exact ⟨s₁, some (.int 0), _, _, _, X0, rfl, rfl, rfl, (fun h => by cases h), ⟨rfl, hh0⟩, fun fs hl => c3.trans (X0.ireturnOut hexec hret rfl (Or.inr (Or.inr (Or.inl rfl))) (hb hbytes d8) hl)⟩
end CodL
/-- the String at a is Latin-1 over a new byte[] (the heap's one new cell): the low bytes of the len chars of A from o on; every cell but a is kept -/
def Got (a : Addr) (D : Cell) (fV fC : Field) (A : Cell) (o len : Nat) (r : Option Value) (s u : State) : Prop := r = none ∧ ∃ D' V : Cell, Blank "java/lang/String" a D' u ∧ Same D D' [fV.slot, fC.slot] ∧ D'.slots[fV.slot]? = some (.ref s.heap.size) ∧ D'.slots[fC.slot]? = some (.int 0) ∧ Arr .byte s.heap.size V u ∧ V.vm = .none ∧ u.vm.findClass "[B" = some V.cls ∧ V.slots.size = len ∧ (∀ j, j < len → V.slots[j]? = some (.int (lo8 (cv A (o + j))))) ∧ (∀ (y : Addr) (c : Cell), y ≠ a → s.heap[y]? = some c → u.heap[y]? = some c) ∧ u.heap.size = s.heap.size + 1
theorem Got.mv {a : Addr} {D A : Cell} {fV fC : Field} {o len : Nat} : ∀ r (U U' V V' : State), U'.heap = U.heap → V.vm.Alike V'.vm → V'.heap = V.heap → Got a D fV fC A o len r U V → Got a D fV fC A o len r U' V' :=
  fun r U U' V V' h1 hal h2 ⟨e0, D', X, a1, a2, a3, a4, a5, a6, a7, a8, a9, a10, a11⟩ => ⟨e0, D', X, a1.mv hal h2, a2, by rw [h1]; exact a3, a4, by rw [h1]; exact a5.mv hal h2, a6, by rw [hal.findClass]; exact a7, a8, a9, by rw [h1, h2]; exact a10, by rw [h1, h2]; exact a11⟩
namespace New4
def yN : MethodName := ⟨"java/lang/String", "<init>", "([CIILjava/lang/Void;)V"⟩
abbrev yB : ByteArray := jdk_42_method_149_code
theorem d0 : decode yB 0 = .ok (.aload_n 0, 1) := by decide +kernel
theorem d1 : decode yB 1 = .ok (.invokespecial 1, 3) := by decide +kernel
theorem d4 : decode yB 4 = .ok (.iload_n 3, 1) := by decide +kernel
theorem d5 : decode yB 5 = .ok (.ifCond (.ne) 22, 3) := by decide +kernel
theorem d27 : decode yB 27 = .ok (.getstatic 38, 3) := by decide +kernel
theorem d30 : decode yB 30 = .ok (.ifCond (.eq) 28, 3) := by decide +kernel
theorem d33 : decode yB 33 = .ok (.aload_n 1, 1) := by decide +kernel
theorem d34 : decode yB 34 = .ok (.iload_n 2, 1) := by decide +kernel
theorem d35 : decode yB 35 = .ok (.iload_n 3, 1) := by decide +kernel
theorem d36 : decode yB 36 = .ok (.invokestatic 177, 3) := by decide +kernel
theorem d39 : decode yB 39 = .ok (.astore 5, 2) := by decide +kernel
theorem d41 : decode yB 41 = .ok (.aload_n 0, 1) := by decide +kernel
theorem d42 : decode yB 42 = .ok (.aload 5, 2) := by decide +kernel
theorem d44 : decode yB 44 = .ok (.iload_n 3, 1) := by decide +kernel
theorem d45 : decode yB 45 = .ok (.invokestatic 47, 3) := by decide +kernel
theorem d48 : decode yB 48 = .ok (.putfield 15, 3) := by decide +kernel
theorem d51 : decode yB 51 = .ok (.aload_n 0, 1) := by decide +kernel
theorem d52 : decode yB 52 = .ok (.aload 5, 2) := by decide +kernel
theorem d54 : decode yB 54 = .ok (.putfield 9, 3) := by decide +kernel
theorem d57 : decode yB 57 = .ok (.return_, 1) := by decide +kernel
def site : List Cond := [.fieldLink "java/lang/String" 38 "java/lang/String" "COMPACT_STRINGS" "Z", Cmp3.tab, CodL.tab, .laysFinal "java/lang/String" "java/lang/String" "value" "[B", .fieldLink "java/lang/String" 9 "java/lang/String" "value" "[B", .laysFinal "java/lang/String" "java/lang/String" "coder" "B", .fieldLink "java/lang/String" 15 "java/lang/String" "coder" "B"] ++ objW "java/lang/String" 1 ++ staticW "java/lang/String" 177 Cmp3.yN ++ staticW "java/lang/String" 47 CodL.yN
def tab : Cond := tabOf yN yB 6 none site
def P (a : Addr) (D : Cell) (fV fC : Field) (b : Addr) (A : Cell) (z : Int32) (o len : Nat) (args : Array Value) (s : State) : Prop := args = #[.ref a, .ref b, .int (Int32.ofNat o), .int (Int32.ofNat len), .null] ∧ Blank "java/lang/String" a D s ∧ Found "java/lang/String" "value" "[B" fV s ∧ Found "java/lang/String" "coder" "B" fC s ∧ Ch b A s ∧ StaticIs s "java/lang/String" "COMPACT_STRINGS" "Z" (.int z) ∧ ¬ z = 0 ∧ 0 < len ∧ o + len ≤ A.slots.size ∧ len ≤ 536870912 ∧ ∀ i, i < len → ¬ 255 < cv A (o + i)
def E (a : Addr) (D : Cell) (fV fC : Field) (A : Cell) (o len : Nat) (r : Option Value) (s u : State) : Prop := Got a D fV fC A o len r s u
/-- len > 0, no char of the range above 255: a Latin-1 String of their low bytes -/
theorem law (l : Launch) (a : Addr) (D : Cell) (fV fC : Field) (b : Addr) (A : Cell) (z : Int32) (o len : Nat) : Law l yN 5 4 2 35 yB 6 none site (P a D fV fC b A z o len) (E a D fV fC A o len) [⟨a, fC.slot⟩, ⟨a, fV.slot⟩] 1 len := by
  refine Law.of_walk (plainFor_of_name (by decide +kernel)) (by decide +kernel) (by decide +kernel) (by decide) (fun _ _ h => by rw [h.1]; rfl) (fun _ U U' hal hh h => ⟨h.1, h.2.1.mv hal hh, h.2.2.1.al hal, h.2.2.2.1.al hal, h.2.2.2.2.1.mv hal hh, h.2.2.2.2.2.1.there hal hh, h.2.2.2.2.2.2⟩) (fun r U U' V V' h1 hal h2 h => Got.mv r U U' V V' h1 hal h2 h) ?_
  intro p e s m args below meth c s₁ X0 hexec hbytes hml hret hlk hnm hown hh0 W hP
  obtain ⟨rfl, hB, f1, f2, hA, s1, hz, l0, l1, l2, hp⟩ := hP
  have a31 := hA.1.2.2.2
  have c1 : Steps p.tables e below (s₁.setTop (entryFrame m #[.ref a, .ref b, .int (Int32.ofNat o), .int (Int32.ofNat len), .null] 6)) (s₁.setTop (mkF m 0 #[.val (.ref a), .val (.ref b), .val (.int (Int32.ofNat o)), .val (.int (Int32.ofNat len)), .val .null, .unset] [])) := entry rfl
  have c2 : Steps p.tables e below (s₁.setTop (entryFrame m #[.ref a, .ref b, .int (Int32.ofNat o), .int (Int32.ofNat len), .null] 6)) (s₁.setTop (mkF m 1 #[.val (.ref a), .val (.ref b), .val (.int (Int32.ofNat o)), .val (.int (Int32.ofNat len)), .val .null, .unset] [.ref a])) := c1.trans (by
    refine XS.aloadN X0.here hexec rfl (hb hbytes d0) rfl rfl ?_
    exact Steps.refl _)
  obtain ⟨T3, X3, q3, st3⟩ := X0.oinit hexec hown (wks W (objW "java/lang/String" 1)) (g := (mkF m 1 #[.val (.ref a), .val (.ref b), .val (.int (Int32.ofNat o)), .val (.int (Int32.ofNat len)), .val .null, .unset] [.ref a])) rfl (by rw [hml]; rfl) (rest := []) rfl (hb hbytes d1) (W := 0) (by show 2 * 0 + 0 ≤ _; decide) (Nat.le_of_ble_eq_true rfl) (Nat.le_of_ble_eq_true rfl)
  have hh3 := q3.trans hh0
  have c4 : Steps p.tables e below (s₁.setTop (entryFrame m #[.ref a, .ref b, .int (Int32.ofNat o), .int (Int32.ofNat len), .null] 6)) (T3.setTop (mkF m 27 #[.val (.ref a), .val (.ref b), .val (.int (Int32.ofNat o)), .val (.int (Int32.ofNat len)), .val .null, .unset] [])) := (c2.trans (st3 _ (Steps.refl _))).trans (by
    refine XS.iloadN X3.here hexec rfl (hb hbytes d4) rfl ?_
    refine XS.ifYes X3.here hexec rfl (pc0 := 5) rfl (hb hbytes d5) rfl (i0_ne_t (nz32 (by omega) l0)) (by decide) rfl ?_
    exact Steps.refl _)
  obtain ⟨T5, X5, q5, st5⟩ := X3.sget hexec hown (wk W (.fieldLink "java/lang/String" 38 "java/lang/String" "COMPACT_STRINGS" "Z")) s1 (fun _ _ h => by rw [hh3]; exact h) (g := (mkF m 27 #[.val (.ref a), .val (.ref b), .val (.int (Int32.ofNat o)), .val (.int (Int32.ofNat len)), .val .null, .unset] [])) rfl (hb hbytes d27)
  have hh5 := q5.trans hh3
  have c6 : Steps p.tables e below (s₁.setTop (entryFrame m #[.ref a, .ref b, .int (Int32.ofNat o), .int (Int32.ofNat len), .null] 6)) (T5.setTop (mkF m 30 #[.val (.ref a), .val (.ref b), .val (.int (Int32.ofNat o)), .val (.int (Int32.ofNat len)), .val .null, .unset] [.int z])) := c4.trans (st5 _ (Steps.refl _))
  have c7 : Steps p.tables e below (s₁.setTop (entryFrame m #[.ref a, .ref b, .int (Int32.ofNat o), .int (Int32.ofNat len), .null] 6)) (T5.setTop (mkF m 36 #[.val (.ref a), .val (.ref b), .val (.int (Int32.ofNat o)), .val (.int (Int32.ofNat len)), .val .null, .unset] [.int (Int32.ofNat len), .int (Int32.ofNat o), .ref b])) := c6.trans (by
    refine XS.ifNo X5.here hexec rfl (hb hbytes d30) rfl (i0_eq_f hz) ?_
    refine XS.aloadN X5.here hexec rfl (hb hbytes d33) rfl rfl ?_
    refine XS.iloadN X5.here hexec rfl (hb hbytes d34) rfl ?_
    refine XS.iloadN X5.here hexec rfl (hb hbytes d35) rfl ?_
    exact Steps.refl _)
  obtain ⟨v8, T8, X8, E8, g8⟩ := X5.callS hexec (Cmp3.law l b A o len) hown (wks W (staticW "java/lang/String" 177 Cmp3.yN)) (wk W Cmp3.tab) (W := 0) (Nat.le_of_ble_eq_true rfl) (Nat.le_of_ble_eq_true rfl) (Nat.le_refl _) (by show 0 + len ≤ len; omega) (g := (mkF m 36 #[.val (.ref a), .val (.ref b), .val (.int (Int32.ofNat o)), .val (.int (Int32.ofNat len)), .val .null, .unset] [.int (Int32.ofNat len), .int (Int32.ofNat o), .ref b])) rfl (by rw [hml]; rfl) c7 (argsL := [.ref b, .int (Int32.ofNat o), .int (Int32.ofNat len)]) (rest := []) rfl rfl (by show 2 * 0 + 0 ≤ _; decide) (hb hbytes d36) (⟨rfl, hA.mv X5.warmed.alike hh5, l1, l2, hp⟩)
  obtain ⟨e8, z8⟩ := E8
  obtain ⟨rfl, N, n1, n2, n3, n4, n5, n6⟩ := NewArr.mv _ T5 s _ _ hh5.symm (Vm.Alike.refl _) rfl e8
  rw [hh5] at z8
  have hB1 := hB.keep X8.warmed.alike (n6 _ _ hB.1)
  have hne : s.heap.size ≠ a := (Nat.ne_of_lt (Array.getElem?_eq_some_iff.mp hB.1).1).symm
  have c9 : Steps p.tables e below (s₁.setTop (entryFrame m #[.ref a, .ref b, .int (Int32.ofNat o), .int (Int32.ofNat len), .null] 6)) (T8.setTop (mkF m 39 #[.val (.ref a), .val (.ref b), .val (.int (Int32.ofNat o)), .val (.int (Int32.ofNat len)), .val .null, .unset] [.ref s.heap.size])) := g8
  have c10 : Steps p.tables e below (s₁.setTop (entryFrame m #[.ref a, .ref b, .int (Int32.ofNat o), .int (Int32.ofNat len), .null] 6)) (T8.setTop (mkF m 45 #[.val (.ref a), .val (.ref b), .val (.int (Int32.ofNat o)), .val (.int (Int32.ofNat len)), .val .null, .val (.ref s.heap.size)] [.int (Int32.ofNat N.slots.size), .ref s.heap.size, .ref a])) := by
    have hc : Steps p.tables e below (s₁.setTop (entryFrame m #[.ref a, .ref b, .int (Int32.ofNat o), .int (Int32.ofNat len), .null] 6)) (T8.setTop (mkF m 45 #[.val (.ref a), .val (.ref b), .val (.int (Int32.ofNat o)), .val (.int (Int32.ofNat len)), .val .null, .val (.ref s.heap.size)] [.int (Int32.ofNat len), .ref s.heap.size, .ref a])) := c9.trans (by
      refine XS.astore X8.here hexec rfl (hb hbytes d39) rfl rfl rfl ?_
      refine XS.aloadN X8.here hexec rfl (hb hbytes d41) rfl rfl ?_
      refine XS.aload X8.here hexec rfl (hb hbytes d42) rfl rfl ?_
      refine XS.iloadN X8.here hexec rfl (hb hbytes d44) rfl ?_
      exact Steps.refl _)
    rw [n4]; exact hc
  obtain ⟨v11, T11, X11, E11, g11⟩ := X8.callS hexec (CodL.law l s.heap.size N) hown (wks W (staticW "java/lang/String" 47 CodL.yN)) (wk W CodL.tab) (W := 1) (Nat.le_of_ble_eq_true rfl) (Nat.le_of_ble_eq_true rfl) (Nat.le_refl _) (by show 0 + len + 0 ≤ len; omega) (g := (mkF m 45 #[.val (.ref a), .val (.ref b), .val (.int (Int32.ofNat o)), .val (.int (Int32.ofNat len)), .val .null, .val (.ref s.heap.size)] [.int (Int32.ofNat N.slots.size), .ref s.heap.size, .ref a])) rfl (by rw [hml]; rfl) c10 (argsL := [.ref s.heap.size, .int (Int32.ofNat N.slots.size)]) (rest := [.ref a]) rfl rfl (by show 2 * 0 + (1 + 0) ≤ _; decide) (hb hbytes d45) (⟨rfl, n1⟩)
  obtain ⟨rfl, q11⟩ := E11
  have hB11 := hB1.mv (X8.warmed.alike.symm.trans X11.warmed.alike) q11
  have c12 : Steps p.tables e below (s₁.setTop (entryFrame m #[.ref a, .ref b, .int (Int32.ofNat o), .int (Int32.ofNat len), .null] 6)) (T11.setTop (mkF m 48 #[.val (.ref a), .val (.ref b), .val (.int (Int32.ofNat o)), .val (.int (Int32.ofNat len)), .val .null, .val (.ref s.heap.size)] [.int 0, .ref a])) := g11
  obtain ⟨T13, X13, p13, bl13, sl13, st13⟩ := X11.finit hexec hown (wk W (.fieldLink "java/lang/String" 15 "java/lang/String" "coder" "B")) (Or.inr ⟨_, (wk W (.laysFinal "java/lang/String" "java/lang/String" "coder" "B"))⟩) (Or.inl ⟨rfl, hnm⟩) f2 (Or.inl rfl) hB11 (t := .byte) (by decide +kernel) rfl (g := (mkF m 48 #[.val (.ref a), .val (.ref b), .val (.int (Int32.ofNat o)), .val (.int (Int32.ofNat len)), .val .null, .val (.ref s.heap.size)] [.int 0, .ref a])) rfl (rest := []) rfl (hb hbytes d48)
  have c14 : Steps p.tables e below (s₁.setTop (entryFrame m #[.ref a, .ref b, .int (Int32.ofNat o), .int (Int32.ofNat len), .null] 6)) (T13.setTop (mkF m 54 #[.val (.ref a), .val (.ref b), .val (.int (Int32.ofNat o)), .val (.int (Int32.ofNat len)), .val .null, .val (.ref s.heap.size)] [.ref s.heap.size, .ref a])) := (c12.trans (st13 _ (Steps.refl _))).trans (by
    refine XS.aloadN X13.here hexec rfl (hb hbytes d51) rfl rfl ?_
    refine XS.aload X13.here hexec rfl (hb hbytes d52) rfl rfl ?_
    exact Steps.refl _)
  obtain ⟨T15, X15, p15, bl15, sl15, st15⟩ := X13.finit hexec hown (wk W (.fieldLink "java/lang/String" 9 "java/lang/String" "value" "[B")) (Or.inr ⟨_, (wk W (.laysFinal "java/lang/String" "java/lang/String" "value" "[B"))⟩) (Or.inl ⟨rfl, hnm⟩) f1 (Or.inl rfl) bl13 (t := (.array .byte)) (by decide +kernel) rfl (g := (mkF m 54 #[.val (.ref a), .val (.ref b), .val (.int (Int32.ofNat o)), .val (.int (Int32.ofNat len)), .val .null, .val (.ref s.heap.size)] [.ref s.heap.size, .ref a])) rfl (rest := []) rfl (hb hbytes d54)
  have c16 : Steps p.tables e below (s₁.setTop (entryFrame m #[.ref a, .ref b, .int (Int32.ofNat o), .int (Int32.ofNat len), .null] 6)) (T15.setTop (mkF m 57 #[.val (.ref a), .val (.ref b), .val (.int (Int32.ofNat o)), .val (.int (Int32.ofNat len)), .val .null, .val (.ref s.heap.size)] [])) := c14.trans (st15 _ (Steps.refl _))
  have ap := apart (Or.inr ⟨_, (wk W (.laysFinal "java/lang/String" "java/lang/String" "value" "[B"))⟩) (Or.inr ⟨_, (wk W (.laysFinal "java/lang/String" "java/lang/String" "coder" "B"))⟩) f1 f2 (t₁ := .array .byte) (t₂ := .byte) (by decide +kernel) (by decide +kernel) (by decide)
  have al := X8.warmed.alike.symm.trans X15.warmed.alike
  have n7 : T11.heap[s.heap.size]? = some N := by rw [q11]; exact n1.1
  exact ⟨T15, none, _, _, _, X15, by simp, rfl, by omega, (fun _ => rfl), ⟨rfl, _, N, bl15, ((Same.refl D _).set _ (by simp)).set _ (by simp), sl15, (Cell.slots_setSlot_ne _ ap).trans sl13, n1.keep al (p15.other hne (p13.other hne n7)), n2, by rw [al.findClass]; exact n3, n4, n5, fun y c h1 h2 => p15.other h1 (p13.other h1 (by rw [q11]; exact n6 y c h2)), by rw [p15.2.2, p13.2.2, q11]; exact z8⟩, fun fs hl => c16.trans (X15.returnOut hexec hret (hb hbytes d57) hl)⟩
end New4
namespace New1
def yN : MethodName := ⟨"java/lang/String", "<init>", "([C)V"⟩
abbrev yB : ByteArray := jdk_42_method_3_code
theorem d0 : decode yB 0 = .ok (.aload_n 0, 1) := by decide +kernel
theorem d1 : decode yB 1 = .ok (.aload_n 1, 1) := by decide +kernel
theorem d2 : decode yB 2 = .ok (.iconst 0, 1) := by decide +kernel
theorem d3 : decode yB 3 = .ok (.aload_n 1, 1) := by decide +kernel
theorem d4 : decode yB 4 = .ok (.arraylength, 1) := by decide +kernel
theorem d5 : decode yB 5 = .ok (.aconst_null, 1) := by decide +kernel
theorem d6 : decode yB 6 = .ok (.invokespecial 27, 3) := by decide +kernel
theorem d9 : decode yB 9 = .ok (.return_, 1) := by decide +kernel
def site : List Cond := [New4.tab] ++ initW "java/lang/String" 27 New4.yN
def tab : Cond := tabOf yN yB 2 none site
def P (a : Addr) (D : Cell) (fV fC : Field) (b : Addr) (A : Cell) (z : Int32) (args : Array Value) (s : State) : Prop := args = #[.ref a, .ref b] ∧ Blank "java/lang/String" a D s ∧ Found "java/lang/String" "value" "[B" fV s ∧ Found "java/lang/String" "coder" "B" fC s ∧ Ch b A s ∧ StaticIs s "java/lang/String" "COMPACT_STRINGS" "Z" (.int z) ∧ ¬ z = 0 ∧ 0 < A.slots.size ∧ A.slots.size ≤ 536870912 ∧ ∀ i, i < A.slots.size → ¬ 255 < cv A i
def E (a : Addr) (D : Cell) (fV fC : Field) (A : Cell) (r : Option Value) (s u : State) : Prop := Got a D fV fC A 0 A.slots.size r s u
/-- new String(chars), not empty, no char above 255: a Latin-1 String of their low bytes -/
theorem law (l : Launch) (a : Addr) (D : Cell) (fV fC : Field) (b : Addr) (A : Cell) (z : Int32) : Law l yN 2 1 3 52 yB 2 none site (P a D fV fC b A z) (E a D fV fC A) [⟨a, fC.slot⟩, ⟨a, fV.slot⟩] 1 A.slots.size := by
  refine Law.of_walk (plainFor_of_name (by decide +kernel)) (by decide +kernel) (by decide +kernel) (by decide) (fun _ _ h => by rw [h.1]; rfl) (fun _ U U' hal hh h => ⟨h.1, h.2.1.mv hal hh, h.2.2.1.al hal, h.2.2.2.1.al hal, h.2.2.2.2.1.mv hal hh, h.2.2.2.2.2.1.there hal hh, h.2.2.2.2.2.2⟩) (fun r U U' V V' h1 hal h2 h => Got.mv r U U' V V' h1 hal h2 h) ?_
  intro p e s m args below meth c s₁ X0 hexec hbytes hml hret hlk hnm hown hh0 W hP
  obtain ⟨rfl, hB, f1, f2, hA, s1, hz, l0, l2, hp⟩ := hP
  have c1 : Steps p.tables e below (s₁.setTop (entryFrame m #[.ref a, .ref b] 2)) (s₁.setTop (mkF m 0 #[.val (.ref a), .val (.ref b)] [])) := entry rfl
  have c2 : Steps p.tables e below (s₁.setTop (entryFrame m #[.ref a, .ref b] 2)) (s₁.setTop (mkF m 6 #[.val (.ref a), .val (.ref b)] [.null, .int (Int32.ofNat A.slots.size), .int 0, .ref b, .ref a])) := c1.trans (by
    refine XS.aloadN X0.here hexec rfl (hb hbytes d0) rfl rfl ?_
    refine XS.aloadN X0.here hexec rfl (hb hbytes d1) rfl rfl ?_
    refine iconstV X0.here hexec rfl 0 (hb hbytes d2) (by decide) ?_
    refine XS.aloadN X0.here hexec rfl (hb hbytes d3) rfl rfl ?_
    refine X0.alen hexec (hA.1.mv X0.warmed.alike hh0) rfl rfl (hb hbytes d4) ?_
    refine XS.aconstNull X0.here hexec rfl (hb hbytes d5) ?_
    exact Steps.refl _)
  obtain ⟨v3, T3, X3, E3, g3⟩ := X0.callN hexec (New4.law l a D fV fC b A z 0 A.slots.size) rfl hown (wks W (initW "java/lang/String" 27 New4.yN)) (W New4.tab (by simp only [site, List.mem_cons, List.mem_append, true_or, or_true])) (W := 0) (Nat.le_of_ble_eq_true rfl) (Nat.le_of_ble_eq_true rfl) (Nat.le_refl _) (by show 0 + A.slots.size ≤ A.slots.size; omega) (g := (mkF m 6 #[.val (.ref a), .val (.ref b)] [.null, .int (Int32.ofNat A.slots.size), .int (Int32.ofNat 0), .ref b, .ref a])) rfl (by rw [hml]; rfl) c2 (argsL := [.ref b, .int (Int32.ofNat 0), .int (Int32.ofNat A.slots.size), .null]) (rest := []) rfl rfl (by show 2 * 0 + 0 ≤ _; decide) (hb hbytes d6) (⟨rfl, hB.mv X0.warmed.alike hh0, f1.al X0.warmed.alike, f2.al X0.warmed.alike, hA.mv X0.warmed.alike hh0, s1.there X0.warmed.alike hh0, hz, l0, by omega, l2, fun i hi => by rw [Nat.zero_add]; exact hp i hi⟩)
  have e0 := Got.mv _ s₁ s _ _ hh0.symm (Vm.Alike.refl _) rfl E3
  obtain rfl := e0.1
  have c4 : Steps p.tables e below (s₁.setTop (entryFrame m #[.ref a, .ref b] 2)) (T3.setTop (mkF m 9 #[.val (.ref a), .val (.ref b)] [])) := g3
  exact ⟨T3, none, _, _, _, X3, by simp, rfl, by omega, (fun _ => rfl), e0, fun fs hl => c4.trans (X3.returnOut hexec hret (hb hbytes d9) hl)⟩
theorem pays {l : Launch} {R : Room} {p : Program} {e : Env} {below : List Frame} {s : State} {sargs : Array Value} {len W : Nat} (a : Addr) (D : Cell) (fV fC : Field) (b : Addr) (A : Cell) (z : Int32) (htab : tab.before sargs s = true) (hfr : 4 ≤ R.frames) (hlo : W + 65 ≤ R.locals) :
    Back l R p e below s sargs yN len W (fun A₁ a₁ => A₁.cells + 1 ≤ R.cells ∧ A₁.slots + A.slots.size ≤ R.slots ∧ P a D fV fC b A z a₁ A₁.U) (fun A₁ _ v₁ B₁ => E a D fV fC A v₁ A₁.U B₁.U ∧ B₁.locs = A₁.locs ++ [⟨a, fC.slot⟩, ⟨a, fV.slot⟩] ∧ B₁.cells = A₁.cells + 1 ∧ B₁.slots = A₁.slots + A.slots.size) :=
  (law l a D fV fC b A z).pays htab hfr (by omega)
end New1
/-- the byte, read back as charAt reads it, is the char -/
theorem lo8_mask {x : Int32} (h0 : ¬ x < 0) (h1 : ¬ 255 < x) : lo8 x &&& 255 = x := by
  have t : ∀ k : Fin 256, lo8 (Int32.ofNat k.val) &&& 255 = Int32.ofNat k.val := by decide +kernel
  rw [Int32.lt_iff_toInt_lt] at h0 h1
  have e0 : (0 : Int32).toInt = 0 := rfl
  have e1 : (255 : Int32).toInt = 255 := rfl
  obtain ⟨k, hk⟩ : ∃ k : Nat, x.toInt = k := ⟨x.toInt.toNat, by omega⟩
  have hx : x = Int32.ofNat k := Int32.toInt_inj.mp (by rw [hk, Int32.toInt_ofNat_small (by omega)])
  rw [hx]
  exact t ⟨k, by omega⟩
end StrChars
namespace StrChars.Road
open Jvm Sem ClassFile Op Lib Jvm.Stand Jvm.Free Jvm.Free.XT
open Jvm.Lib.Cold (StaticIs)
abbrev ST : String := "java/lang/String"
/-- every table word that New1's law asks, flat -/
abbrev words : List Jvm.Cond := [.code New1.yN New1.yB 2 none, .initialized ST, .methodLink ST 27 New4.yN, .instanceMethod New4.yN,
  .code New4.yN New4.yB 6 none, .fieldLink ST 38 ST "COMPACT_STRINGS" "Z", .laysFinal ST ST "value" "[B", .fieldLink ST 9 ST "value" "[B", .laysFinal ST ST "coder" "B", .fieldLink ST 15 ST "coder" "B",
  .methodLink ST 1 Lib.objectInit, .instanceMethod Lib.objectInit, .code Lib.objectInit ⟨#[0xb1]⟩ 1 none, .methodLink ST 177 Cmp3.yN, .static Cmp3.yN, .methodLink ST 47 CodL.yN, .static CodL.yN,
  .code Cmp3.yN Cmp3.yB 6 (some (.array .byte)), .initialized U16, .arrayClass .byte, .methodLink U16 115 Cmp5.yN, .static Cmp5.yN, .code Cmp5.yN Cmp5.yB 7 (some .int), .code CodL.yN CodL.yB 2 (some .byte)]
theorem tab_of {a : Array Value} {s : State} (h : ∀ w ∈ words, w.before a s = true) : New1.tab.before a s = true := by
  have h5 : Cmp5.tab.before a s = true := unparts (wk h (.code Cmp5.yN Cmp5.yB 7 (some .int))) (wks h (.initialized Cmp5.yN.cls :: Cmp5.site))
  have hc : CodL.tab.before a s = true := unparts (wk h (.code CodL.yN CodL.yB 2 (some .byte))) (wks h (.initialized CodL.yN.cls :: CodL.site))
  have q5 : ∀ w ∈ Cmp5.tab :: words, w.before a s = true := fun w hw => (List.mem_cons.mp hw).elim (fun e => e ▸ h5) (h w)
  have h3 : Cmp3.tab.before a s = true := unparts (wk q5 (.code Cmp3.yN Cmp3.yB 6 (some (.array .byte)))) (wks q5 (.initialized Cmp3.yN.cls :: Cmp3.site))
  have q3 : ∀ w ∈ Cmp3.tab :: CodL.tab :: words, w.before a s = true := fun w hw => (List.mem_cons.mp hw).elim (fun e => e ▸ h3) fun hw => (List.mem_cons.mp hw).elim (fun e => e ▸ hc) (h w)
  have h4 : New4.tab.before a s = true := unparts (wk q3 (.code New4.yN New4.yB 6 none)) (wks q3 (.initialized New4.yN.cls :: New4.site))
  have q4 : ∀ w ∈ New4.tab :: words, w.before a s = true := fun w hw => (List.mem_cons.mp hw).elim (fun e => e ▸ h4) (h w)
  exact unparts (wk q4 (.code New1.yN New1.yB 2 none)) (wks q4 (.initialized New1.yN.cls :: New1.site))
/-- the words ride from the start Z to the walk's own state -/
theorem moved {Z s : State} {a0 args : Array Value} (hZ : Z.Warmed39 s.vm) (hw : ∀ d ∈ words, d.before a0 Z = true) : ∀ d ∈ words, d.before args s = true := fun d hd => by
  have q := hw d hd
  have t : ∀ d ∈ words, d = .arrayClass .byte ∨ (d.onTables && d.keepsFace) = true := by decide +kernel
  rcases t d hd with rfl | t
  · exact RoadKit.mvA hZ q
  · exact RoadKit.mv hZ q t
/-- WHAT COMES BACK, over the tables of the start Z: h the heap at the call, h' behind it -/
def Q (Z : State) (x : Addr) (A : Cell) (h : Heap) (v : Option Value) (h' : Heap) (L : List Loc) : Prop := v = none ∧ (∀ y ∈ L, y.base = x) ∧ RoadKit.Keep h h' [x] ∧ h'.size = h.size + 1 ∧ RoadKit.Exa Z h' x ST ∧ RoadKit.Fld Z h' x ST "value" "[B" (.ref h.size) ∧ RoadKit.Fld Z h' x ST "coder" "B" (.int 0) ∧
  (∃ V : Cell, RoadKit.Arr Z h' h.size V .byte ∧ V.vm = .none ∧ Z.vm.findClass "[B" = some V.cls ∧ V.slots.size = A.slots.size ∧ ∀ j, j < A.slots.size → V.slots[j]? = some (.int (lo8 (cv A j)))) ∧
  ∀ (O n d : String) (w : Value), RoadKit.Fld Z h x O n d w → RoadKit.slotOf Z O n d ≠ RoadKit.slotOf Z ST "value" "[B" → RoadKit.slotOf Z O n d ≠ RoadKit.slotOf Z ST "coder" "B" → RoadKit.Fld Z h' x O n d w
/-- **new String(chars) AT A CALL, IN THE ROAD'S FORM**: for specialBack behind newO: x the fresh String, b the char[] with the cell A -/
theorem back {p : Program} {l : Launch} {e : Env} {R : Room} {s : State} {args : Array Value} {below : List Frame} {len W : Nat} {Z : State} {a0 : Array Value} {h : Heap} (hZ : Z.Warmed39 s.vm) (hw : ∀ d ∈ words, d.before a0 Z = true) {kI : Nat} (wi : (Jvm.Cond.instantiable ST kI).before a0 Z = true)
    {x b : Addr} {A : Cell} {z : Int32} {v0 c0 : Value} (E : RoadKit.Exa Z h x ST) (V : RoadKit.Fld Z h x ST "value" "[B" v0) (C : RoadKit.Fld Z h x ST "coder" "B" c0) (K : RoadKit.Arr Z h b A .char) (hty : Typed .char A) (S : RoadKit.Sta Z h ST "COMPACT_STRINGS" "Z" (.int z)) (hz : ¬ z = 0)
    (l0 : 0 < A.slots.size) (l2 : A.slots.size ≤ 536870912) (hp : ∀ i, i < A.slots.size → ¬ 255 < cv A i) (hfr : 4 ≤ R.frames) (hlo : W + 65 ≤ R.locals) :
    Back l R p e below s args New1.yN len W (fun P a => a = #[.ref x, .ref b] ∧ P.U.heap = h ∧ P.cells + 1 ≤ R.cells ∧ P.slots + A.slots.size ≤ R.slots)
      (fun P _ v B => ∃ L, Q Z x A h v B.U.heap L ∧ B.locs = P.locs ++ L ∧ B.cells = P.cells + 1 ∧ B.slots = P.slots + A.slots.size) := by
  intro m meth c P g ig mk a X hg hsize hdg hW hn hp'
  obtain ⟨rfl, rfl, r1, r2⟩ := hp'
  have al : Z.vm.Alike P.U.vm := hZ.alike.trans X.warmed.alike
  obtain ⟨D, cfV, kV, iV, fV, hD, gV, stV, knV, obV, asV, slV⟩ := id V
  obtain ⟨D', cfC, kC, iC, fC, hD', gC, stC, -, -, asC, slC⟩ := id C
  cases hD.symm.trans hD'
  obtain ⟨D2, kD, e1, e2, e3, e4, e5⟩ := id E
  cases hD.symm.trans e1
  obtain ⟨c2, k2, i1, i2, i3, -⟩ := Cond.instantiable_spec wi
  cases e2.symm.trans i1
  cases e3.symm.trans i2
  obtain ⟨kU, u1, u2⟩ := al.2.2 _ _ e3
  have hB : Blank ST x D P.U := ⟨hD, ⟨knV, fun q hq => by rw [hq] at obV; cases obV⟩, by rw [al.findClass]; exact e2, kU, u1, by rw [u2]; exact i3, by rw [u2]; exact e5 i3⟩
  have F1 : Found ST "value" "[B" fV P.U := ⟨SBG.found_only al ⟨cfV, kV, iV, gV⟩, stV⟩
  have F2 : Found ST "coder" "B" fC P.U := ⟨SBG.found_only al ⟨cfC, kC, iC, gC⟩, stC⟩
  have hA : Ch b A P.U := ⟨⟨K.1, State.isArrayOf_alike al K.2.1, K.2.2, by omega⟩, hty⟩
  have hS : StaticIs P.U ST "COMPACT_STRINGS" "Z" (.int z) := by
    obtain ⟨cfS, iS, kS, fS, st, cS, t1, t2, t3, t4, t5, t6, t7⟩ := S
    exact StaticIs.there (s := { Z with heap := P.U.heap }) ⟨cfS, iS, kS, fS, st, cS, t1, t2, t3, t4, t5, (fun q => by rw [q] at t6; cases t6), t7⟩ al rfl
  obtain ⟨v, B, X', ⟨⟨hv, E', V', q1, q2, q3, q4, q5, q6, q7, q8, q9, q10, q11⟩, hl, hc, hs⟩, st⟩ := New1.pays x D fV fC b A z (tab_of (moved hZ hw)) hfr hlo m meth c P g ig mk _ X hg hsize hdg hW hn ⟨r1, r2, rfl, hB, F1, F2, hA, hS, hz, l0, l2, hp⟩
  have al' : Z.vm.Alike B.U.vm := hZ.alike.trans X'.warmed.alike
  have hsz : E'.slots.size = D.slots.size := by
    obtain ⟨-, -, -, kB, w1, w2, w3⟩ := q1
    obtain ⟨kB', y1, y2⟩ := al'.2.2 _ _ e3
    rw [q2.2.1] at w1
    cases w1.symm.trans y1
    rw [w3, e5 i3, y2]
  refine ⟨v, B, X', ⟨_, ⟨hv, ?_, ⟨by omega, fun y cy hy hn' => q10 y cy (by simpa using hn') hy, fun y cy hy => ?_⟩, q11, ⟨E', _, q1.1, by rw [q2.2.1]; exact e2, by rw [q2.2.1]; exact e3, by rw [q2.1]; exact obV, fun _ => by rw [hsz]; exact e5 i3⟩,
    ⟨E', cfV, kV, iV, fV, q1.1, gV, stV, by rw [q2.1]; exact knV, by rw [q2.1]; exact obV, by rw [q2.2.1]; exact asV, q3⟩, ⟨E', cfC, kC, iC, fC, q1.1, gC, stC, by rw [q2.1]; exact knV, by rw [q2.1]; exact obV, by rw [q2.2.1]; exact asC, q4⟩,
    ⟨V', ⟨q5.1, State.isArrayOf_alike al'.symm q5.2.1, q5.2.2.1⟩, q6, by rw [← al'.findClass]; exact q7, q8, fun j hj => by have := q9 j hj; rwa [Nat.zero_add] at this⟩, fun O n d w F n1 n2 => ?_⟩, hl, hc, hs⟩, st⟩
  · intro y hy
    simp only [List.mem_cons, List.not_mem_nil, or_false] at hy
    rcases hy with rfl | rfl <;> rfl
  · by_cases q : y = x
    · subst q
      cases hD.symm.trans hy
      exact ⟨E', q1.1, q2.2.1, q2.1, hsz⟩
    · exact ⟨cy, q10 y cy q hy, rfl, rfl, rfl⟩
  · obtain ⟨D3, cf, k, i, f, g1, g2, g3, g4, g5, g6, g7⟩ := F
    cases hD.symm.trans g1
    simp only [RoadKit.slotOf, g2, gV, gC, Option.map_some, Option.getD_some] at n1 n2
    exact ⟨E', cf, k, i, f, q1.1, g2, g3, by rw [q2.1]; exact g4, by rw [q2.1]; exact g5, by rw [q2.2.1]; exact g6, by rw [q2.2.2 f.slot (by simp [n1, n2])]; exact g7⟩
end StrChars.Road
namespace StrChars.Road
open Jvm Sem ClassFile Op Lib Jvm.Stand Jvm.Free Jvm.Free.XT
/-- WHAT COMES BACK, the byte[] as a list of values -/
def QA (Z : State) (x : Addr) (zn : Int32) (cs : List Int32) (h : Heap) (v : Option Value) (h' : Heap) (L : List Loc) : Prop := v = none ∧ (∀ y ∈ L, y.base = x) ∧ RoadKit.Keep h h' [x] ∧ h'.size = h.size + 1 ∧ RoadKit.Exa Z h' x ST ∧ RoadKit.Fld Z h' x ST "value" "[B" (.ref h.size) ∧ RoadKit.Fld Z h' x ST "coder" "B" (.int 0) ∧
  (∃ kb, Z.vm.findClass "[B" = some kb ∧ RoadKit.Arv Z h' h.size kb .byte zn (cs.map fun c => .int (lo8 c)) (.int 0)) ∧
  ∀ (O n d : String) (w : Value), RoadKit.Fld Z h x O n d w → RoadKit.slotOf Z O n d ≠ RoadKit.slotOf Z ST "value" "[B" → RoadKit.slotOf Z O n d ≠ RoadKit.slotOf Z ST "coder" "B" → RoadKit.Fld Z h' x O n d w
/-- **new String(chars) AT A CALL, THE ARRAYS AS LISTS**: the char[] at b holds cs, not empty, no char above 255 -/
theorem backArv {p : Program} {l : Launch} {e : Env} {R : Room} {s : State} {args : Array Value} {below : List Frame} {len W : Nat} {Z : State} {a0 : Array Value} {h : Heap} (hZ : Z.Warmed39 s.vm) (hw : ∀ d ∈ words, d.before a0 Z = true) {kI : Nat} (wi : (Jvm.Cond.instantiable ST kI).before a0 Z = true)
    {x b : Addr} {k : ClassId} {zn z : Int32} {cs : List Int32} {dv v0 c0 : Value} (E : RoadKit.Exa Z h x ST) (V : RoadKit.Fld Z h x ST "value" "[B" v0) (C : RoadKit.Fld Z h x ST "coder" "B" c0) (K : RoadKit.Arv Z h b k .char zn (cs.map Value.int) dv) (S : RoadKit.Sta Z h ST "COMPACT_STRINGS" "Z" (.int z)) (hz : ¬ z = 0)
    (hlen : zn.toNatClampNeg = cs.length) (h0 : 0 < cs.length) (hbig : cs.length ≤ 536870912) (hall : ∀ c ∈ cs, ¬ 255 < c) (hfr : 4 ≤ R.frames) (hlo : W + 65 ≤ R.locals) :
    Back l R p e below s args New1.yN len W (fun P a => a = #[.ref x, .ref b] ∧ P.U.heap = h ∧ P.cells + 1 ≤ R.cells ∧ P.slots + cs.length ≤ R.slots)
      (fun P _ v B => ∃ L, QA Z x zn cs h v B.U.heap L ∧ B.locs = P.locs ++ L ∧ B.cells = P.cells + 1 ∧ B.slots = P.slots + cs.length) := by
  obtain ⟨A, K1, K2, K3, K4, K5, K6⟩ := K
  have e : A.slots.size = cs.length := K3.trans hlen
  have hat : ∀ (i : Nat) (hi : i < cs.length), A.slots[i]? = some (.int cs[i]) := fun i hi => by rw [K5 i (by omega)]; simp [List.getD_eq_getElem?_getD, hi]
  have hcv : ∀ (i : Nat) (hi : i < cs.length), cv A i = cs[i] := fun i hi => by unfold cv; rw [hat i hi]
  have hty : Typed .char A := fun i v hv => by
    have hi : i < A.slots.size := (Array.getElem?_eq_some_iff.mp hv).1
    have q := K5 i hi
    rw [hv] at q
    rw [Option.some.inj q]
    exact K6 i hi
  refine Back.mono (back hZ hw wi E V C K1 hty S hz (by omega) (by omega) (fun i hi => by rw [hcv i (by omega)]; exact hall _ (List.getElem_mem _)) hfr hlo) (fun P a hp => ⟨hp.1, hp.2.1, hp.2.2.1, by rw [e]; exact hp.2.2.2⟩) (fun P a v B hp hq => ?_)
  obtain ⟨L, ⟨q1, q2, q3, q4, q5, q6, q7, ⟨V', v1, v2, v3, v4, v5⟩, q9⟩, hl, hc, hs⟩ := hq
  refine ⟨L, ⟨q1, q2, q3, q4, q5, q6, q7, ⟨V'.cls, v3, V', v1, rfl, by rw [v4, e, hlen], K4, fun i hi => ?_, fun i hi => ?_⟩, q9⟩, hl, hc, by rw [hs, e]⟩
  · have hi' : i < cs.length := by omega
    rw [v5 i (by omega), hcv i hi']; simp [List.getD_eq_getElem?_getD, hi']
  · have hi' : i < cs.length := by omega
    simp only [List.getD_eq_getElem?_getD, List.getElem?_map, List.getElem?_eq_getElem hi', Option.map_some, Option.getD_some]
    exact fits_lo8 _
end StrChars.Road
namespace StrChars.Road
open Jvm Sem ClassFile Op Lib Jvm.Stand Jvm.Free Jvm.Free.XT
/-- WHAT COMES BACK, in the writer's own shape -/
def QV (Z : State) (x : Addr) (N : Int32) (bs : List Int32) (h : Heap) (n0 : Nat) (v : Option Value) (h' : Heap) (L : List Loc) : Prop := v = none ∧ RoadKit.Fr n0 L ∧ RoadKit.Keep h h' [x] ∧ RoadKit.Exa Z h' x ST ∧ RoadKit.Fld Z h' x ST "coder" "B" (.int 0) ∧
  ∃ (t : Addr) (kb : ClassId), n0 ≤ t ∧ h.size ≤ t ∧ ¬ t = x ∧ RoadKit.Fld Z h' x ST "value" "[B" (.ref t) ∧ RoadKit.Arv Z h' t kb .byte N (bs.map Value.int) (.int 0)
/-- **new String(chars) AT A CALL, FOR THE WRITER**: a char[] of n known ints, each 0 to 255 -/
theorem backV {p : Program} {l : Launch} {e : Env} {R : Room} {s : State} {args : Array Value} {below : List Frame} {len W : Nat} {Z : State} {a0 : Array Value} {h : Heap} (hZ : Z.Warmed39 s.vm) (hw : ∀ d ∈ words, d.before a0 Z = true) {kI : Nat} (wi : (Jvm.Cond.instantiable ST kI).before a0 Z = true)
    {x b : Addr} {kC : ClassId} {cs bs : List Int32} {d v0 c0 : Value} {z N : Int32} {n n0 : Nat} (hx0 : n0 ≤ x) (hh0 : n0 ≤ h.size) (E : RoadKit.Exa Z h x ST) (V : RoadKit.Fld Z h x ST "value" "[B" v0) (C : RoadKit.Fld Z h x ST "coder" "B" c0) (K : RoadKit.Arv Z h b kC .char N (cs.map Value.int) d) (S : RoadKit.Sta Z h ST "COMPACT_STRINGS" "Z" (.int z)) (hz : ¬ z = 0)
    (hn : cs.length = n) (hN : N = Int32.ofNat n) (l0 : 0 < n) (l2 : n ≤ 4000) (hp : ∀ c ∈ cs, ¬ c < 0 ∧ ¬ (255 : Int32) < c) (hb : bs = cs.map (fun c => c.toInt8.toInt32)) (hfr : 4 ≤ R.frames) (hlo : W + 65 ≤ R.locals) :
    Back l R p e below s args (⟨"java/lang/String", "<init>", "([C)V"⟩ : MethodName) len W (fun P a => a = #[.ref x, .ref b] ∧ P.U.heap = h ∧ P.cells + 1 ≤ R.cells ∧ P.slots + n ≤ R.slots)
      (fun P _ v B => ∃ L, QV Z x N bs h n0 v B.U.heap L ∧ B.locs = P.locs ++ L ∧ B.cells = P.cells + 1 ∧ B.slots = P.slots + n) := by
  subst hn hN hb
  refine Back.mono (backArv hZ hw wi E V C K S hz (n32 (by omega)) l0 (by omega) (fun c hc => (hp c hc).2) hfr hlo) (fun P a hp => hp) (fun P a v B hp hq => ?_)
  obtain ⟨L, ⟨q1, q2, q3, q4, q5, q6, q7, ⟨kb, v1, v2⟩, q9⟩, hl, hc, hs⟩ := hq
  exact ⟨L, ⟨q1, fun y hy => by rw [q2 y hy]; exact hx0, q3, q5, q7, h.size, kb, hh0, Nat.le_refl _, Nat.ne_of_gt E.lt, q6, by rw [List.map_map]; exact v2⟩, hl, hc, hs⟩
end StrChars.Road
namespace StrChars
open Jvm Sem ClassFile Op Lib Jvm.Stand Jvm.Free.XT Jvm.Free.ALB Jvm.Free.JM Jvm.Free
open Jvm.Lib.Cold (StaticIs)
def hi8 (x : Int32) : Int32 := lo8 (x >>> ((8 : Int32) &&& 31))
/-- what StringUTF16.getChar makes of two bytes -/
def pairCh (u v : Int32) : Int32 := (((u &&& 255) <<< ((0 : Int32) &&& 31)) ||| ((v &&& 255) <<< ((8 : Int32) &&& 31))).toUInt32.toUInt16.toUInt32.toInt32
theorem lo8_and (x : Int32) : (lo8 x &&& 255).toBitVec.toNat = x.toBitVec.toNat % 256 := by
  have h : (lo8 x).toBitVec = (x.toBitVec.signExtend 8).signExtend 32 := by rw [lo8, Int8.toBitVec_toInt32, Int32.toBitVec_toInt8]
  rw [Int32.toBitVec_and, BitVec.toNat_and, h]
  have e : ((x.toBitVec.signExtend 8).signExtend 32).toNat % 256 = x.toBitVec.toNat % 256 := by
    rw [BitVec.toNat_signExtend]
    have hlt := x.toBitVec.isLt
    simp only [BitVec.toNat_setWidth, BitVec.toNat_signExtend]
    split <;> split <;> omega
  rw [← e]
  exact Nat.and_two_pow_sub_one_eq_mod _ 8
theorem pair_says {c : Int32} (h0 : ¬ c < 0) (h1 : ¬ 65535 < c) : pairCh (lo8 c) (hi8 c) = c := by
  rw [Int32.lt_iff_toInt_lt] at h0 h1
  have e0 : (0 : Int32).toInt = 0 := rfl
  have e1 : (65535 : Int32).toInt = 65535 := rfl
  have hc : c.toInt = c.toBitVec.toNat := by
    have := c.toBitVec.isLt
    have e : c.toInt = c.toBitVec.toInt := rfl
    rw [e] at h0 h1
    rw [e]
    rw [BitVec.toInt_eq_toNat_cond] at h0 h1 ⊢
    split at h0 <;> split <;> omega
  have hn : c.toBitVec.toNat < 65536 := by omega
  have a1 := lo8_and c
  have a2 : (hi8 c &&& 255).toBitVec.toNat = c.toBitVec.toNat / 256 := by
    rw [hi8, lo8_and]
    have e : ((8 : Int32) &&& 31) = 8 := by decide
    rw [e, Int32.toBitVec_shiftRight]
    have e2 : ((8 : Int32).toBitVec.smod 32) = 8#32 := by decide
    rw [e2, BitVec.sshiftRight_eq', BitVec.toNat_sshiftRight_of_msb_false (by rw [BitVec.msb_eq_false_iff_two_mul_lt]; omega)]
    show c.toBitVec.toNat >>> 8 % 256 = _
    rw [Nat.shiftRight_eq_div_pow]
    omega
  unfold pairCh
  apply Int32.toBitVec_inj.mp
  apply BitVec.eq_of_toNat_eq
  have f0 : ((0 : Int32) &&& 31) = 0 := by decide
  have f8 : ((8 : Int32) &&& 31) = 8 := by decide
  rw [f0, f8]
  have g : (((lo8 c &&& 255) <<< (0 : Int32)) ||| ((hi8 c &&& 255) <<< (8 : Int32))).toBitVec.toNat = c.toBitVec.toNat := by
    rw [Int32.toBitVec_or, Int32.toBitVec_shiftLeft, Int32.toBitVec_shiftLeft]
    have s0 : ((0 : Int32).toBitVec.smod 32) = 0#32 := by decide
    have s8 : ((8 : Int32).toBitVec.smod 32) = 8#32 := by decide
    rw [s0, s8, BitVec.toNat_or]
    simp only [BitVec.shiftLeft_eq', BitVec.toNat_shiftLeft, a1, a2]
    show (c.toBitVec.toNat % 256) <<< 0 % 2 ^ 32 ||| (c.toBitVec.toNat / 256) <<< 8 % 2 ^ 32 = _
    rw [Nat.shiftLeft_zero, Nat.mod_eq_of_lt (show c.toBitVec.toNat % 256 < 2 ^ 32 by omega), Nat.mod_eq_of_lt (show (c.toBitVec.toNat / 256) <<< 8 < 2 ^ 32 by rw [Nat.shiftLeft_eq]; omega), Nat.or_comm, ← Nat.shiftLeft_add_eq_or_of_lt (by omega), Nat.shiftLeft_eq]
    omega
  show BitVec.toNat (((((lo8 c &&& 255) <<< (0 : Int32)) ||| ((hi8 c &&& 255) <<< (8 : Int32))).toBitVec.setWidth 16).setWidth 32) = _
  rw [BitVec.toNat_setWidth, BitVec.toNat_setWidth, g]
  omega
end StrChars
namespace StrChars
open Jvm Sem ClassFile Op Lib Jvm.Stand Jvm.Free.XT Jvm.Free.ALB Jvm.Free.JM Jvm.Free
open Jvm.Lib.Cold (StaticIs)
/-- the array's cell V codes the n chars f 0 .. f (n - 1) by the coder cd, as the JDK does: coder 1 just where some char is above 255 -/
def Cod (cd : Int32) (n : Nat) (f : Nat → Int32) (V : Cell) : Prop := (cd = 0 ∧ V.slots.size = n ∧ ∀ j, j < n → V.slots[j]? = some (.int (lo8 (f j))) ∧ ¬ 255 < f j) ∨ (cd = 1 ∧ V.slots.size = 2 * n ∧ (∀ j, j < n → V.slots[2 * j]? = some (.int (lo8 (f j))) ∧ V.slots[2 * j + 1]? = some (.int (hi8 (f j)))) ∧ ∃ j, j < n ∧ 255 < f j)
/-- **x is a String of the n chars f 0 .. f (n - 1)**, Latin-1 or UTF-16; its array at t has the cell V -/
def Txt (x t : Addr) (V : Cell) (cd : Int32) (n : Nat) (f : Nat → Int32) (U : State) : Prop := Exact "java/lang/String" x U ∧ Has x "java/lang/String" "value" "[B" (.ref t) U ∧ Has x "java/lang/String" "coder" "B" (.int cd) U ∧ XT.Arr .byte t V U ∧ Cod cd n f V ∧ ∀ j, j < n → ¬ f j < 0 ∧ ¬ 65535 < f j
theorem Txt.mv {x t : Addr} {V : Cell} {cd : Int32} {n : Nat} {f : Nat → Int32} {U U' : State} (h : Txt x t V cd n f U) (hal : U.vm.Alike U'.vm) (hh : U'.heap = U.heap) : Txt x t V cd n f U' := ⟨h.1.mv hal hh, h.2.1.mv hal hh, h.2.2.1.mv hal hh, h.2.2.2.1.mv hal hh, h.2.2.2.2⟩
end StrChars
namespace StrChars.Road
open Jvm Sem ClassFile Op Lib Jvm.Stand Jvm.Free Jvm.Free.XT
open Jvm.Lib.Cold (StaticIs)
theorem consq {a : Array Value} {s : State} {c : Jvm.Cond} {L : List Jvm.Cond} (h0 : c.before a s = true) (h : ∀ w ∈ L, w.before a s = true) : ∀ w ∈ c :: L, w.before a s = true := fun w hw => (List.mem_cons.mp hw).elim (fun e => e ▸ h0) (h w)
/-- the bytes of the chars cs, low before high -/
def wideBytes : List Int32 → List Value
  | [] => []
  | c :: cs => .int (lo8 c) :: .int (hi8 c) :: wideBytes cs
theorem wide_lo (d : Value) : ∀ (cs : List Int32) (j : Nat), j < cs.length → (wideBytes cs).getD (2 * j) d = .int (lo8 (cs.getD j 0))
  | [], j, h => absurd h (Nat.not_lt_zero j)
  | c :: cs, 0, _ => rfl
  | c :: cs, j + 1, h => by
    have q := wide_lo d cs j (by simpa using h)
    rw [show 2 * (j + 1) = 2 * j + 1 + 1 from by omega]
    simpa [wideBytes] using q
theorem wide_hi (d : Value) : ∀ (cs : List Int32) (j : Nat), j < cs.length → (wideBytes cs).getD (2 * j + 1) d = .int (hi8 (cs.getD j 0))
  | [], j, h => absurd h (Nat.not_lt_zero j)
  | c :: cs, 0, _ => rfl
  | c :: cs, j + 1, h => by
    have q := wide_hi d cs j (by simpa using h)
    rw [show 2 * (j + 1) + 1 = 2 * j + 1 + 1 + 1 from by omega]
    simpa [wideBytes] using q
theorem low_at (d : Value) (cs : List Int32) (j : Nat) (h : j < cs.length) : (cs.map fun c => Value.int (lo8 c)).getD j d = .int (lo8 (cs.getD j 0)) := by
  simp [List.getD_eq_getElem?_getD, h]
/-- an array of N2 bytes vs codes the chars cs by the coder cd -/
def CodA (cs : List Int32) (cd N2 : Int32) (vs : List Value) : Prop := (cd = 0 ∧ N2 = Int32.ofNat cs.length ∧ vs = (cs.map fun c => Value.int (lo8 c)) ∧ ∀ c ∈ cs, ¬ 255 < c) ∨ (cd = 1 ∧ N2 = Int32.ofNat (2 * cs.length) ∧ vs = wideBytes cs ∧ ∃ c ∈ cs, 255 < c)
theorem CodA.cod {cs : List Int32} {cd N2 : Int32} {vs : List Value} {V : Cell} (h : CodA cs cd N2 vs) (hn : 2 * cs.length < 2 ^ 31) (hs : V.slots.size = N2.toNatClampNeg) (hv : RoadKit.Has V vs (.int 0)) : Cod cd cs.length (fun j => cs.getD j 0) V := by
  rcases h with ⟨rfl, rfl, rfl, h⟩ | ⟨rfl, rfl, rfl, c, hc, hw⟩
  · rw [n32 (by omega)] at hs
    exact Or.inl ⟨rfl, hs, fun j hj => ⟨by rw [hv j (by omega), low_at _ _ _ hj], by
      have e : cs.getD j 0 = cs[j] := by simp [List.getD_eq_getElem?_getD, hj]
      show ¬ 255 < cs.getD j 0
      rw [e]; exact h _ (List.getElem_mem _)⟩⟩
  · rw [n32 (by omega)] at hs
    obtain ⟨j, hj, rfl⟩ := List.getElem_of_mem hc
    exact Or.inr ⟨rfl, hs, fun j hj => ⟨by rw [hv _ (by omega), wide_lo _ _ _ hj], by rw [hv _ (by omega), wide_hi _ _ _ hj]⟩, j, hj, by
      have e : cs.getD j 0 = cs[j] := by simp [List.getD_eq_getElem?_getD, hj]
      show 255 < cs.getD j 0
      rw [e]; exact hw⟩
/-- an object of exactly java/lang/String, its two fields found: as the laws ask it -/
theorem strObj {Z U : State} {a0 : Array Value} {kI : Nat} (wi : (Jvm.Cond.instantiable ST kI).before a0 Z = true) (al : Z.vm.Alike U.vm) {x : Addr} {v0 c0 : Value} (E : RoadKit.Exa Z U.heap x ST) (V : RoadKit.Fld Z U.heap x ST "value" "[B" v0) (C : RoadKit.Fld Z U.heap x ST "coder" "B" c0) :
    ∃ (D : Cell) (fV fC : Field), Blank ST x D U ∧ Found ST "value" "[B" fV U ∧ Found ST "coder" "B" fC U ∧ D.slots[fV.slot]? = some v0 ∧ D.slots[fC.slot]? = some c0 ∧ RoadKit.slotOf Z ST "value" "[B" = fV.slot ∧ RoadKit.slotOf Z ST "coder" "B" = fC.slot := by
  obtain ⟨D, cfV, kV, iV, fV, hD, gV, stV, knV, obV, asV, slV⟩ := V
  obtain ⟨D', cfC, kC, iC, fC, hD', gC, stC, -, -, asC, slC⟩ := C
  cases hD.symm.trans hD'
  obtain ⟨D2, kD, e1, e2, e3, e4, e5⟩ := E
  cases hD.symm.trans e1
  obtain ⟨c2, k2, i1, i2, i3, -⟩ := Cond.instantiable_spec wi
  cases e2.symm.trans i1
  cases e3.symm.trans i2
  obtain ⟨kU, u1, u2⟩ := al.2.2 _ _ e3
  exact ⟨D, fV, fC, ⟨hD, ⟨knV, fun q hq => by rw [hq] at obV; cases obV⟩, by rw [al.findClass]; exact e2, kU, u1, by rw [u2]; exact i3, by rw [u2]; exact e5 i3⟩, ⟨SBG.found_only al ⟨cfV, kV, iV, gV⟩, stV⟩, ⟨SBG.found_only al ⟨cfC, kC, iC, gC⟩, stC⟩, slV, slC, by simp [RoadKit.slotOf, gV], by simp [RoadKit.slotOf, gC]⟩
theorem sta_is {Z U : State} (al : Z.vm.Alike U.vm) {C n d : String} {v : Value} (S : RoadKit.Sta Z U.heap C n d v) : StaticIs U C n d v := by
  obtain ⟨cfS, iS, kS, fS, st, cS, t1, t2, t3, t4, t5, t6, t7⟩ := S
  exact StaticIs.there (s := { Z with heap := U.heap }) ⟨cfS, iS, kS, fS, st, cS, t1, t2, t3, t4, t5, (fun q => by rw [q] at t6; cases t6), t7⟩ al rfl
end StrChars.Road
namespace StrChars
open Jvm Sem ClassFile Op Lib Jvm.Stand Jvm.Free.XT Jvm.Free.ALB Jvm.Free.JM Jvm.Free
open Jvm.Lib.Cold (StaticIs)
/-- what place i of a byte[]'s cell holds -/
def yv (A : Cell) (i : Nat) : Int32 := match A.slots[i]? with | some (.int x) => x | _ => 0
theorem yv_get {a : Addr} {A : Cell} {U : State} (h : XT.Arr .byte a A U) (ht : Typed .byte A) {i : Nat} (hi : i < A.slots.size) : A.slots[i]? = some (.int (yv A i)) := by
  have e := Array.getElem?_eq_getElem hi
  have f := ht i _ e
  unfold yv; rw [e]
  generalize A.slots[i] = v at f
  cases v <;> simp [fits] at f ⊢
/-- the two arrays are equal, place for place -/
def EqC (A B : Cell) : Prop := A.slots.size = B.slots.size ∧ ∀ i, i < A.slots.size → yv A i = yv B i
/-- a boolean that says whether p -/
def Says01 (q : Prop) (r : Option Value) (s u : State) : Prop := ∃ v : Int32, r = some (.int v) ∧ u.heap = s.heap ∧ ((v = 1 ∧ q) ∨ (v = 0 ∧ ¬ q))
theorem Says01.mv {q : Prop} : ∀ r (U U' V V' : State), U'.heap = U.heap → V.vm.Alike V'.vm → V'.heap = V.heap → Says01 q r U V → Says01 q r U' V' :=
  fun r U U' V V' h1 _ h2 ⟨v, a, b, c⟩ => ⟨v, a, by rw [h1, h2]; exact b, c⟩
namespace LEq
def yN : MethodName := ⟨"java/lang/StringLatin1", "equals", "([B[B)Z"⟩
abbrev yB : ByteArray := jdk_43_method_13_code
theorem d0 : decode yB 0 = .ok (.aload_n 0, 1) := by decide +kernel
theorem d1 : decode yB 1 = .ok (.arraylength, 1) := by decide +kernel
theorem d2 : decode yB 2 = .ok (.aload_n 1, 1) := by decide +kernel
theorem d3 : decode yB 3 = .ok (.arraylength, 1) := by decide +kernel
theorem d4 : decode yB 4 = .ok (.if_icmp (.ne) 30, 3) := by decide +kernel
theorem d7 : decode yB 7 = .ok (.iconst 0, 1) := by decide +kernel
theorem d8 : decode yB 8 = .ok (.istore_n 2, 1) := by decide +kernel
theorem d9 : decode yB 9 = .ok (.iload_n 2, 1) := by decide +kernel
theorem d10 : decode yB 10 = .ok (.aload_n 0, 1) := by decide +kernel
theorem d11 : decode yB 11 = .ok (.arraylength, 1) := by decide +kernel
theorem d12 : decode yB 12 = .ok (.if_icmp (.ge) 20, 3) := by decide +kernel
theorem d15 : decode yB 15 = .ok (.aload_n 0, 1) := by decide +kernel
theorem d16 : decode yB 16 = .ok (.iload_n 2, 1) := by decide +kernel
theorem d17 : decode yB 17 = .ok (.baload, 1) := by decide +kernel
theorem d18 : decode yB 18 = .ok (.aload_n 1, 1) := by decide +kernel
theorem d19 : decode yB 19 = .ok (.iload_n 2, 1) := by decide +kernel
theorem d20 : decode yB 20 = .ok (.baload, 1) := by decide +kernel
theorem d21 : decode yB 21 = .ok (.if_icmp (.eq) 5, 3) := by decide +kernel
theorem d24 : decode yB 24 = .ok (.iconst 0, 1) := by decide +kernel
theorem d25 : decode yB 25 = .ok (.ireturn, 1) := by decide +kernel
theorem d26 : decode yB 26 = .ok (.iinc 2 1, 3) := by decide +kernel
theorem d29 : decode yB 29 = .ok (.goto (-20), 3) := by decide +kernel
theorem d32 : decode yB 32 = .ok (.iconst 1, 1) := by decide +kernel
theorem d33 : decode yB 33 = .ok (.ireturn, 1) := by decide +kernel
theorem d34 : decode yB 34 = .ok (.iconst 0, 1) := by decide +kernel
theorem d35 : decode yB 35 = .ok (.ireturn, 1) := by decide +kernel
def site : List Cond := []
def tab : Cond := tabOf yN yB 3 (some .boolean) site
def P (a : Addr) (A : Cell) (b : Addr) (B : Cell) (args : Array Value) (s : State) : Prop := args = #[.ref a, .ref b] ∧ XT.Arr .byte a A s ∧ Typed .byte A ∧ XT.Arr .byte b B s ∧ Typed .byte B
/-- whether two byte[] are equal, place for place -/
theorem law (l : Launch) (a : Addr) (A : Cell) (b : Addr) (B : Cell) : Law l yN 2 2 0 0 yB 3 (some .boolean) site (P a A b B) (Says01 (EqC A B)) [] 0 0 := by
  refine Law.of_walk (plainFor_of_name (by decide +kernel)) (by decide +kernel) (by decide +kernel) (by decide) (fun _ _ h => by rw [h.1]; rfl) (fun _ U U' hal hh h => ⟨h.1, h.2.1.mv hal hh, h.2.2.1, h.2.2.2.1.mv hal hh, h.2.2.2.2⟩) (fun r U U' V V' h1 hal h2 h => Says01.mv r U U' V V' h1 hal h2 h) ?_
  intro p e s m args below meth c s₁ X0 hexec hbytes hml hret hlk hnm hown hh0 W hP
  obtain ⟨rfl, hA, tA, hB, tB⟩ := hP
  have a31 := hA.2.2.2
  have b31 := hB.2.2.2
  have hA0 := hA.mv X0.warmed.alike hh0
  have hB0 := hB.mv X0.warmed.alike hh0
  have c1 : Steps p.tables e below (s₁.setTop (entryFrame m #[.ref a, .ref b] 3)) (s₁.setTop (mkF m 0 #[.val (.ref a), .val (.ref b), .unset] [])) := entry rfl
  have c2 : Steps p.tables e below (s₁.setTop (entryFrame m #[.ref a, .ref b] 3)) (s₁.setTop (mkF m 4 #[.val (.ref a), .val (.ref b), .unset] [.int (Int32.ofNat B.slots.size), .int (Int32.ofNat A.slots.size)])) := c1.trans (by
    refine XS.aloadN X0.here hexec rfl (hb hbytes d0) rfl rfl ?_
    refine X0.alen hexec hA0 rfl rfl (hb hbytes d1) ?_
    refine XS.aloadN X0.here hexec rfl (hb hbytes d2) rfl rfl ?_
    refine X0.alen hexec hB0 rfl rfl (hb hbytes d3) ?_
    exact Steps.refl _)
  by_cases hs : A.slots.size = B.slots.size
  · have c3 : Steps p.tables e below (s₁.setTop (entryFrame m #[.ref a, .ref b] 3)) (s₁.setTop (mkF m 9 #[.val (.ref a), .val (.ref b), .val (.int 0)] [])) := c2.trans (by
      refine XS.icmpNo X0.here hexec rfl (hb hbytes d4) rfl (ii_ne_f (by rw [hs])) ?_
      refine iconstV X0.here hexec rfl 0 (hb hbytes d7) (by decide) ?_
      refine XS.istoreN X0.here hexec rfl (hb hbytes d8) rfl rfl ?_
      exact Steps.refl _)
    have loop : ∀ (r i : Nat), i + r = A.slots.size → (∀ j, j < i → yv A j = yv B j) → Steps p.tables e below (s₁.setTop (entryFrame m #[.ref a, .ref b] 3)) (s₁.setTop (mkF m 9 #[.val (.ref a), .val (.ref b), .val (.int (Int32.ofNat i))] [])) → ∃ (pc : Nat) (Ls : Array Slot) (v : Int32), (pc = 25 ∨ pc = 33) ∧ ((v = 1 ∧ EqC A B) ∨ (v = 0 ∧ ¬ EqC A B)) ∧ Steps p.tables e below (s₁.setTop (entryFrame m #[.ref a, .ref b] 3)) (s₁.setTop (mkF m pc Ls [.int v])) := by
      intro r
      induction r with
      | zero =>
        intro i hi he cl
        exact ⟨33, _, 1, Or.inr rfl, Or.inl ⟨rfl, hs, fun j hj => he j (by omega)⟩, cl.trans (by
          refine XS.iloadN X0.here hexec rfl (hb hbytes d9) rfl ?_
          refine XS.aloadN X0.here hexec rfl (hb hbytes d10) rfl rfl ?_
          refine X0.alen hexec hA0 rfl rfl (hb hbytes d11) ?_
          refine XS.icmpYes X0.here hexec rfl (pc0 := 12) rfl (hb hbytes d12) rfl (ii_ge_t (nlt32 (by omega) (by omega))) (by decide) rfl ?_
          refine iconstV X0.here hexec rfl 1 (hb hbytes d32) (by decide) ?_
          exact Steps.refl _)⟩
      | succ r ih =>
        intro i hi he cl
        have c4 : Steps p.tables e below (s₁.setTop (entryFrame m #[.ref a, .ref b] 3)) (s₁.setTop (mkF m 21 #[.val (.ref a), .val (.ref b), .val (.int (Int32.ofNat i))] [.int (yv B i), .int (yv A i)])) := cl.trans (by
          refine XS.iloadN X0.here hexec rfl (hb hbytes d9) rfl ?_
          refine XS.aloadN X0.here hexec rfl (hb hbytes d10) rfl rfl ?_
          refine X0.alen hexec hA0 rfl rfl (hb hbytes d11) ?_
          refine XS.icmpNo X0.here hexec rfl (hb hbytes d12) rfl (ii_ge_f (lt32 (by omega) (by omega))) ?_
          refine XS.aloadN X0.here hexec rfl (hb hbytes d15) rfl rfl ?_
          refine XS.iloadN X0.here hexec rfl (hb hbytes d16) rfl ?_
          refine X0.aget hexec hA0 rfl (yv_get hA tA (i := i) (by omega)) rfl rfl (hb hbytes d17) ?_
          refine XS.aloadN X0.here hexec rfl (hb hbytes d18) rfl rfl ?_
          refine XS.iloadN X0.here hexec rfl (hb hbytes d19) rfl ?_
          refine X0.aget hexec hB0 rfl (yv_get hB tB (i := i) (by omega)) rfl rfl (hb hbytes d20) ?_
          exact Steps.refl _)
        by_cases hv : yv A i = yv B i
        · have c5 : Steps p.tables e below (s₁.setTop (entryFrame m #[.ref a, .ref b] 3)) (s₁.setTop (mkF m 9 #[.val (.ref a), .val (.ref b), .val (.int (Int32.ofNat i + 1))] [])) := c4.trans (by
            refine XS.icmpYes X0.here hexec rfl (pc0 := 21) rfl (hb hbytes d21) rfl (ii_eq_t hv) (by decide) rfl ?_
            refine iincV X0.here hexec rfl 1 (hb hbytes d26) (by decide) rfl rfl ?_
            refine XS.goto X0.here hexec rfl (pc0 := 29) rfl (hb hbytes d29) (by decide) rfl ?_
            exact Steps.refl _)
          rw [succ32] at c5
          exact ih (i + 1) (by omega) (fun j hj => by
            by_cases e : j = i
            · rw [e]; exact hv
            · exact he j (by omega)) c5
        · exact ⟨25, _, 0, Or.inl rfl, Or.inr ⟨rfl, fun q => hv (q.2 i (by omega))⟩, c4.trans (by
            refine XS.icmpNo X0.here hexec rfl (hb hbytes d21) rfl (ii_eq_f hv) ?_
            refine iconstV X0.here hexec rfl 0 (hb hbytes d24) (by decide) ?_
            exact Steps.refl _)⟩
    obtain ⟨pc, Ls, v, hpc, hv, cz⟩ := loop A.slots.size 0 (by omega) (fun j hj => absurd hj (Nat.not_lt_zero j)) c3
    have nv : narrow .boolean (.int v) = .int v := by rcases hv with ⟨rfl, -⟩ | ⟨rfl, -⟩ <;> rfl
    rcases hpc with rfl | rfl
    · exact ⟨s₁, some (.int v), _, _, _, X0, rfl, rfl, rfl, (fun h => by cases h), ⟨v, rfl, hh0, hv⟩, fun fs hl => cz.trans (X0.ireturnOut hexec hret nv (Or.inr (Or.inl rfl)) (hb hbytes d25) hl)⟩
    · exact ⟨s₁, some (.int v), _, _, _, X0, rfl, rfl, rfl, (fun h => by cases h), ⟨v, rfl, hh0, hv⟩, fun fs hl => cz.trans (X0.ireturnOut hexec hret nv (Or.inr (Or.inl rfl)) (hb hbytes d33) hl)⟩
  · have c3 : Steps p.tables e below (s₁.setTop (entryFrame m #[.ref a, .ref b] 3)) (s₁.setTop (mkF m 35 #[.val (.ref a), .val (.ref b), .unset] [.int 0])) := c2.trans (by
      refine XS.icmpYes X0.here hexec rfl (pc0 := 4) rfl (hb hbytes d4) rfl (ii_ne_t (ne32 a31 b31 hs)) (by decide) rfl ?_
      refine iconstV X0.here hexec rfl 0 (hb hbytes d34) (by decide) ?_
      exact Steps.refl _)
    exact ⟨s₁, some (.int 0), _, _, _, X0, rfl, rfl, rfl, (fun h => by cases h), ⟨0, rfl, hh0, Or.inr ⟨rfl, fun q => hs q.1⟩⟩, fun fs hl => c3.trans (X0.ireturnOut hexec hret rfl (Or.inr (Or.inl rfl)) (hb hbytes d35) hl)⟩
end LEq
theorem Cod.ty {cd : Int32} {n : Nat} {f : Nat → Int32} {V : Cell} (h : Cod cd n f V) : Typed .byte V := fun i v hv => by
  have hi : i < V.slots.size := (Array.getElem?_eq_some_iff.mp hv).1
  rcases h with ⟨-, k1, k2⟩ | ⟨-, k1, k2, -⟩
  · rw [(k2 i (by omega)).1] at hv; cases hv; exact fits_lo8 _
  · rcases Nat.mod_two_eq_zero_or_one i with e | e
    · obtain ⟨j, rfl⟩ : ∃ j, i = 2 * j := ⟨i / 2, by omega⟩
      rw [(k2 j (by omega)).1] at hv; cases hv; exact fits_lo8 _
    · obtain ⟨j, rfl⟩ : ∃ j, i = 2 * j + 1 := ⟨i / 2, by omega⟩
      rw [(k2 j (by omega)).2] at hv; cases hv; exact fits_lo8 _
/-- the same text -/
def SameT (n : Nat) (f : Nat → Int32) (k : Nat) (g : Nat → Int32) : Prop := n = k ∧ ∀ j, j < n → f j = g j
theorem lo8_inj {x y : Int32} (h0 : ¬ x < 0) (h1 : ¬ 255 < x) (k0 : ¬ y < 0) (k1 : ¬ 255 < y) (h : lo8 x = lo8 y) : x = y := by
  rw [← lo8_mask h0 h1, ← lo8_mask k0 k1, h]
/-- arrays coded by one coder are equal just where the texts are -/
theorem Cod.eqv {cd : Int32} {n k : Nat} {f g : Nat → Int32} {V V' : Cell} (h : Cod cd n f V) (h' : Cod cd k g V') (hf : ∀ j, j < n → ¬ f j < 0 ∧ ¬ 65535 < f j) (hg : ∀ j, j < k → ¬ g j < 0 ∧ ¬ 65535 < g j) : EqC V V' ↔ SameT n f k g := by
  have yvv : ∀ {W : Cell} {i : Nat} {x : Int32}, W.slots[i]? = some (.int x) → yv W i = x := fun q => by unfold yv; rw [q]
  rcases h with ⟨rfl, k1, k2⟩ | ⟨rfl, k1, k2, -⟩
  · rcases h' with ⟨-, m1, m2⟩ | ⟨e, -⟩
    · constructor
      · rintro ⟨e1, e2⟩
        refine ⟨by omega, fun j hj => ?_⟩
        have q := e2 j (by omega)
        rw [yvv (k2 j hj).1, yvv (m2 j (by omega)).1] at q
        exact lo8_inj (hf j hj).1 (k2 j hj).2 (hg j (by omega)).1 (m2 j (by omega)).2 q
      · rintro ⟨rfl, e2⟩
        refine ⟨by omega, fun j hj => ?_⟩
        rw [yvv (k2 j (by omega)).1, yvv (m2 j (by omega)).1, e2 j (by omega)]
    · exact absurd e (by decide)
  · rcases h' with ⟨e, -⟩ | ⟨-, m1, m2, -⟩
    · exact absurd e (by decide)
    · constructor
      · rintro ⟨e1, e2⟩
        refine ⟨by omega, fun j hj => ?_⟩
        have q1 := e2 (2 * j) (by omega)
        have q2 := e2 (2 * j + 1) (by omega)
        rw [yvv (k2 j hj).1, yvv (m2 j (by omega)).1] at q1
        rw [yvv (k2 j hj).2, yvv (m2 j (by omega)).2] at q2
        rw [← pair_says (hf j hj).1 (hf j hj).2, ← pair_says (hg j (by omega)).1 (hg j (by omega)).2, q1, q2]
      · rintro ⟨rfl, e2⟩
        refine ⟨by omega, fun i hi => ?_⟩
        rcases Nat.mod_two_eq_zero_or_one i with e | e
        · obtain ⟨j, rfl⟩ : ∃ j, i = 2 * j := ⟨i / 2, by omega⟩
          rw [yvv (k2 j (by omega)).1, yvv (m2 j (by omega)).1, e2 j (by omega)]
        · obtain ⟨j, rfl⟩ : ∃ j, i = 2 * j + 1 := ⟨i / 2, by omega⟩
          rw [yvv (k2 j (by omega)).2, yvv (m2 j (by omega)).2, e2 j (by omega)]
/-- two codings differ: so do the texts -/
theorem Cod.dif {cd cd' : Int32} {n k : Nat} {f g : Nat → Int32} {V V' : Cell} (h : Cod cd n f V) (h' : Cod cd' k g V') (hne : ¬ cd = cd') : ¬ SameT n f k g := by
  rintro ⟨rfl, e⟩
  rcases h with ⟨rfl, -, k2⟩ | ⟨rfl, -, -, j, hj, hw⟩
  · rcases h' with ⟨rfl, -⟩ | ⟨-, -, -, j, hj, hw⟩
    · exact hne rfl
    · exact (k2 j hj).2 (by rw [e j hj]; exact hw)
  · rcases h' with ⟨-, -, m2⟩ | ⟨rfl, -⟩
    · exact (m2 j hj).2 (by rw [← e j hj]; exact hw)
    · exact hne rfl
/-- an object of exactly C is an instance of C -/
theorem cinst {p : Program} {l : Launch} {e : Env} {R : Room} {s : State} {m : MethodId} {args : Array Value} {below : List Frame} {meth : Method} {c : Code} {T : State} {locs : List Loc} {cells slots : Nat} (X : Stand p l e R s m args below meth c T locs cells slots) (hexec : p.tables.exec = Jvm.exec) {own C : String} {index : Nat} (hown : s.vm.findClass own = some m.cls) (hlink : (Cond.classLink own index C).before args s = true) {a : Addr} (hE : Exact C a T)
    {g : JFrame} (hg : g.method = m) {rest : List Value} (hstack : g.stack = .ref a :: rest) (hdg : decode c.code g.pc = .ok (.instanceof index, 3)) :
    ∃ T', Stand p l e R s m args below meth c T' locs cells slots ∧ T'.heap = T.heap ∧ ∀ target, Steps p.tables e below (T'.setTop { g with pc := g.pc + 3, stack := .int 1 :: rest }) target → Steps p.tables e below (T.setTop g) target := by
  obtain ⟨cB, h1, D, h2, h3, h4⟩ := hE
  have h1' : s.vm.findClass C = some cB := by rw [← X.warmed.alike.findClass]; exact h1
  obtain ⟨vm', X', st⟩ := X.instanceofYes hexec hown hlink h2 h4 h1' (by rw [h3]; exact Jvm.Free.SB.assignable_self _ _) hg hstack hdg
  exact ⟨_, X', rfl, st⟩
theorem cself {p : Program} {l : Launch} {e : Env} {R : Room} {s : State} {m : MethodId} {args : Array Value} {below : List Frame} {meth : Method} {c : Code} {T : State} {locs : List Loc} {cells slots : Nat} (X : Stand p l e R s m args below meth c T locs cells slots) (hexec : p.tables.exec = Jvm.exec) {own C : String} {index : Nat} (hown : s.vm.findClass own = some m.cls) (hlink : (Cond.classLink own index C).before args s = true) {a : Addr} (hE : Exact C a T)
    {g : JFrame} (hg : g.method = m) {rest : List Value} (hstack : g.stack = .ref a :: rest) (hdg : decode c.code g.pc = .ok (.checkcast index, 3)) :
    ∃ T', Stand p l e R s m args below meth c T' locs cells slots ∧ T'.heap = T.heap ∧ ∀ target, Steps p.tables e below (T'.setTop { g with pc := g.pc + 3, stack := .ref a :: rest }) target → Steps p.tables e below (T.setTop g) target := by
  obtain ⟨cB, h1, D, h2, h3, h4⟩ := hE
  have h1' : s.vm.findClass C = some cB := by rw [← X.warmed.alike.findClass]; exact h1
  obtain ⟨vm', X', st⟩ := X.checkcastYes hexec hown hlink h2 h4 h1' (by rw [h3]; exact Jvm.Free.SB.assignable_self _ _) hg hstack hdg
  exact ⟨_, X', rfl, fun t h => st t (by rw [← hstack] at h; exact h)⟩
namespace SEq
def yN : MethodName := ⟨"java/lang/String", "equals", "(Ljava/lang/Object;)Z"⟩
abbrev yB : ByteArray := jdk_42_method_66_code
theorem d0 : decode yB 0 = .ok (.aload_n 0, 1) := by decide +kernel
theorem d1 : decode yB 1 = .ok (.aload_n 1, 1) := by decide +kernel
theorem d2 : decode yB 2 = .ok (.if_acmp (.ne) 5, 3) := by decide +kernel
theorem d5 : decode yB 5 = .ok (.iconst 1, 1) := by decide +kernel
theorem d6 : decode yB 6 = .ok (.ireturn, 1) := by decide +kernel
theorem d7 : decode yB 7 = .ok (.aload_n 1, 1) := by decide +kernel
theorem d8 : decode yB 8 = .ok (.instanceof 10, 3) := by decide +kernel
theorem d11 : decode yB 11 = .ok (.ifCond (.eq) 43, 3) := by decide +kernel
theorem d14 : decode yB 14 = .ok (.aload_n 1, 1) := by decide +kernel
theorem d15 : decode yB 15 = .ok (.checkcast 10, 3) := by decide +kernel
theorem d18 : decode yB 18 = .ok (.astore_n 2, 1) := by decide +kernel
theorem d19 : decode yB 19 = .ok (.getstatic 38, 3) := by decide +kernel
theorem d22 : decode yB 22 = .ok (.ifCond (.eq) 14, 3) := by decide +kernel
theorem d25 : decode yB 25 = .ok (.aload_n 0, 1) := by decide +kernel
theorem d26 : decode yB 26 = .ok (.getfield 15, 3) := by decide +kernel
theorem d29 : decode yB 29 = .ok (.aload_n 2, 1) := by decide +kernel
theorem d30 : decode yB 30 = .ok (.getfield 15, 3) := by decide +kernel
theorem d33 : decode yB 33 = .ok (.if_icmp (.ne) 21, 3) := by decide +kernel
theorem d36 : decode yB 36 = .ok (.aload_n 0, 1) := by decide +kernel
theorem d37 : decode yB 37 = .ok (.getfield 9, 3) := by decide +kernel
theorem d40 : decode yB 40 = .ok (.aload_n 2, 1) := by decide +kernel
theorem d41 : decode yB 41 = .ok (.getfield 9, 3) := by decide +kernel
theorem d44 : decode yB 44 = .ok (.invokestatic 541, 3) := by decide +kernel
theorem d47 : decode yB 47 = .ok (.ifCond (.eq) 7, 3) := by decide +kernel
theorem d50 : decode yB 50 = .ok (.iconst 1, 1) := by decide +kernel
theorem d51 : decode yB 51 = .ok (.goto 4, 3) := by decide +kernel
theorem d54 : decode yB 54 = .ok (.iconst 0, 1) := by decide +kernel
theorem d55 : decode yB 55 = .ok (.ireturn, 1) := by decide +kernel
def site : List Cond := [.classLink "java/lang/String" 10 "java/lang/String", .fieldLink "java/lang/String" 38 "java/lang/String" "COMPACT_STRINGS" "Z", .fieldLink "java/lang/String" 15 "java/lang/String" "coder" "B", .fieldLink "java/lang/String" 9 "java/lang/String" "value" "[B", LEq.tab] ++ staticW "java/lang/String" 541 LEq.yN
def tab : Cond := tabOf yN yB 3 (some .boolean) site
def P (x t : Addr) (V : Cell) (cd : Int32) (n : Nat) (f : Nat → Int32) (y t' : Addr) (V' : Cell) (cd' : Int32) (k : Nat) (g : Nat → Int32) (z : Int32) (args : Array Value) (s : State) : Prop := args = #[.ref x, .ref y] ∧ Txt x t V cd n f s ∧ Txt y t' V' cd' k g s ∧ StaticIs s "java/lang/String" "COMPACT_STRINGS" "Z" (.int z) ∧ ¬ z = 0
/-- equals(Object) of two Strings: whether the texts are the same -/
theorem law (l : Launch) (x t : Addr) (V : Cell) (cd : Int32) (n : Nat) (f : Nat → Int32) (y t' : Addr) (V' : Cell) (cd' : Int32) (k : Nat) (g : Nat → Int32) (z : Int32) : Law l yN 2 1 1 14 yB 3 (some .boolean) site (P x t V cd n f y t' V' cd' k g z) (Says01 (SameT n f k g)) [] 0 0 := by
  refine Law.of_walk (plainFor_of_name (by decide +kernel)) (by decide +kernel) (by decide +kernel) (by decide) (fun _ _ h => by rw [h.1]; rfl) (fun _ U U' hal hh h => ⟨h.1, h.2.1.mv hal hh, h.2.2.1.mv hal hh, h.2.2.2.1.there hal hh, h.2.2.2.2⟩) (fun r U U' V V' h1 hal h2 h => Says01.mv r U U' V V' h1 hal h2 h) ?_
  intro p e s m args below meth c s₁ X0 hexec hbytes hml hret hlk hnm hown hh0 W hP
  obtain ⟨rfl, hx, hy, s1, hz⟩ := hP
  have c1 : Steps p.tables e below (s₁.setTop (entryFrame m #[.ref x, .ref y] 3)) (s₁.setTop (mkF m 2 #[.val (.ref x), .val (.ref y), .unset] [.ref y, .ref x])) := Steps.trans (entry rfl) (by
    show Steps p.tables e below (s₁.setTop (mkF m 0 #[.val (.ref x), .val (.ref y), .unset] [])) _
    refine XS.aloadN X0.here hexec rfl (hb hbytes d0) rfl rfl ?_
    refine XS.aloadN X0.here hexec rfl (hb hbytes d1) rfl rfl ?_
    exact Steps.refl _)
  by_cases hxy : x = y
  · have c2 : Steps p.tables e below (s₁.setTop (entryFrame m #[.ref x, .ref y] 3)) (s₁.setTop (mkF m 6 #[.val (.ref x), .val (.ref y), .unset] [.int 1])) := c1.trans (by
      refine acmpNo X0.here hexec rfl (hb hbytes d2) rfl rfl rfl (by simp [acmp, hxy]) ?_
      refine iconstV X0.here hexec rfl 1 (hb hbytes d5) (by decide) ?_
      exact Steps.refl _)
    subst hxy
    have ec : cd = cd' := by
      obtain ⟨D, fd, a1, a2, a3⟩ := hx.2.2.1
      obtain ⟨D', fd', b1, b2, b3⟩ := hy.2.2.1
      cases a1.symm.trans b1
      obtain ⟨q1, q2, q3, q4⟩ := a2.1
      obtain ⟨r1, r2, r3, r4⟩ := b2.1
      cases q4.symm.trans r4
      cases a3.symm.trans b3; rfl
    have et : t = t' := by
      obtain ⟨D, fd, a1, a2, a3⟩ := hx.2.1
      obtain ⟨D', fd', b1, b2, b3⟩ := hy.2.1
      cases a1.symm.trans b1
      obtain ⟨q1, q2, q3, q4⟩ := a2.1
      obtain ⟨r1, r2, r3, r4⟩ := b2.1
      cases q4.symm.trans r4
      cases a3.symm.trans b3; rfl
    subst ec et
    have ev : V = V' := by cases hx.2.2.2.1.1.symm.trans hy.2.2.2.1.1; rfl
    subst ev
    have hs : SameT n f k g := (Cod.eqv hx.2.2.2.2.1 hy.2.2.2.2.1 hx.2.2.2.2.2 hy.2.2.2.2.2).mp ⟨rfl, fun _ _ => rfl⟩
    exact ⟨s₁, some (.int 1), _, _, _, X0, rfl, rfl, rfl, (fun h => by cases h), ⟨1, rfl, hh0, Or.inl ⟨rfl, hs⟩⟩, fun fs hl => c2.trans (X0.ireturnOut hexec hret rfl (Or.inr (Or.inl rfl)) (hb hbytes d6) hl)⟩
  · have c2 : Steps p.tables e below (s₁.setTop (entryFrame m #[.ref x, .ref y] 3)) (s₁.setTop (mkF m 8 #[.val (.ref x), .val (.ref y), .unset] [.ref y])) := c1.trans (by
      refine acmpYes X0.here hexec rfl (pc0 := 2) rfl (hb hbytes d2) rfl rfl rfl (by simp [acmp, hxy]) (by decide) rfl ?_
      refine XS.aloadN X0.here hexec rfl (hb hbytes d7) rfl rfl ?_
      exact Steps.refl _)
    obtain ⟨T3, X3, q3, st3⟩ := cinst X0 hexec hown (wk W (.classLink "java/lang/String" 10 "java/lang/String")) (hy.mv X0.warmed.alike hh0).1 (g := (mkF m 8 #[.val (.ref x), .val (.ref y), .unset] [.ref y])) rfl (rest := []) rfl (hb hbytes d8)
    have hh3 := q3.trans hh0
    have c4 : Steps p.tables e below (s₁.setTop (entryFrame m #[.ref x, .ref y] 3)) (T3.setTop (mkF m 15 #[.val (.ref x), .val (.ref y), .unset] [.ref y])) := (c2.trans (st3 _ (Steps.refl _))).trans (by
      refine XS.ifNo X3.here hexec rfl (hb hbytes d11) rfl (i0_eq_f (by decide)) ?_
      refine XS.aloadN X3.here hexec rfl (hb hbytes d14) rfl rfl ?_
      exact Steps.refl _)
    obtain ⟨T5, X5, q5, st5⟩ := cself X3 hexec hown (wk W (.classLink "java/lang/String" 10 "java/lang/String")) (hy.mv X3.warmed.alike hh3).1 (g := (mkF m 15 #[.val (.ref x), .val (.ref y), .unset] [.ref y])) rfl (rest := []) rfl (hb hbytes d15)
    have hh5 := q5.trans hh3
    have c6 : Steps p.tables e below (s₁.setTop (entryFrame m #[.ref x, .ref y] 3)) (T5.setTop (mkF m 19 #[.val (.ref x), .val (.ref y), .val (.ref y)] [])) := (c4.trans (st5 _ (Steps.refl _))).trans (by
      refine XS.astoreN X5.here hexec rfl (hb hbytes d18) rfl rfl rfl ?_
      exact Steps.refl _)
    obtain ⟨T7, X7, q7, st7⟩ := X5.sget hexec hown (wk W (.fieldLink "java/lang/String" 38 "java/lang/String" "COMPACT_STRINGS" "Z")) s1 (fun _ _ h => by rw [hh5]; exact h) (g := (mkF m 19 #[.val (.ref x), .val (.ref y), .val (.ref y)] [])) rfl (hb hbytes d19)
    have hh7 := q7.trans hh5
    have c8 : Steps p.tables e below (s₁.setTop (entryFrame m #[.ref x, .ref y] 3)) (T7.setTop (mkF m 26 #[.val (.ref x), .val (.ref y), .val (.ref y)] [.ref x])) := (c6.trans (st7 _ (Steps.refl _))).trans (by
      refine XS.ifNo X7.here hexec rfl (hb hbytes d22) rfl (i0_eq_f hz) ?_
      refine XS.aloadN X7.here hexec rfl (hb hbytes d25) rfl rfl ?_
      exact Steps.refl _)
    obtain ⟨T9, X9, q9, st9⟩ := X7.hget hexec hown (wk W (.fieldLink "java/lang/String" 15 "java/lang/String" "coder" "B")) (hx.mv X7.warmed.alike hh7).2.2.1 (g := (mkF m 26 #[.val (.ref x), .val (.ref y), .val (.ref y)] [.ref x])) rfl (rest := []) rfl (hb hbytes d26)
    have hh9 := q9.trans hh7
    have c10 : Steps p.tables e below (s₁.setTop (entryFrame m #[.ref x, .ref y] 3)) (T9.setTop (mkF m 30 #[.val (.ref x), .val (.ref y), .val (.ref y)] [.ref y, .int cd])) := (c8.trans (st9 _ (Steps.refl _))).trans (by
      refine XS.aloadN X9.here hexec rfl (hb hbytes d29) rfl rfl ?_
      exact Steps.refl _)
    obtain ⟨T11, X11, q11, st11⟩ := X9.hget hexec hown (wk W (.fieldLink "java/lang/String" 15 "java/lang/String" "coder" "B")) (hy.mv X9.warmed.alike hh9).2.2.1 (g := (mkF m 30 #[.val (.ref x), .val (.ref y), .val (.ref y)] [.ref y, .int cd])) rfl (rest := [.int cd]) rfl (hb hbytes d30)
    have hh11 := q11.trans hh9
    have c12 : Steps p.tables e below (s₁.setTop (entryFrame m #[.ref x, .ref y] 3)) (T11.setTop (mkF m 33 #[.val (.ref x), .val (.ref y), .val (.ref y)] [.int cd', .int cd])) := c10.trans (st11 _ (Steps.refl _))
    by_cases hcd : cd = cd'
    · subst hcd
      have c13 : Steps p.tables e below (s₁.setTop (entryFrame m #[.ref x, .ref y] 3)) (T11.setTop (mkF m 37 #[.val (.ref x), .val (.ref y), .val (.ref y)] [.ref x])) := c12.trans (by
        refine XS.icmpNo X11.here hexec rfl (hb hbytes d33) rfl (ii_ne_f rfl) ?_
        refine XS.aloadN X11.here hexec rfl (hb hbytes d36) rfl rfl ?_
        exact Steps.refl _)
      obtain ⟨T14, X14, q14, st14⟩ := X11.hget hexec hown (wk W (.fieldLink "java/lang/String" 9 "java/lang/String" "value" "[B")) (hx.mv X11.warmed.alike hh11).2.1 (g := (mkF m 37 #[.val (.ref x), .val (.ref y), .val (.ref y)] [.ref x])) rfl (rest := []) rfl (hb hbytes d37)
      have hh14 := q14.trans hh11
      have c15 : Steps p.tables e below (s₁.setTop (entryFrame m #[.ref x, .ref y] 3)) (T14.setTop (mkF m 41 #[.val (.ref x), .val (.ref y), .val (.ref y)] [.ref y, .ref t])) := (c13.trans (st14 _ (Steps.refl _))).trans (by
        refine XS.aloadN X14.here hexec rfl (hb hbytes d40) rfl rfl ?_
        exact Steps.refl _)
      obtain ⟨T16, X16, q16, st16⟩ := X14.hget hexec hown (wk W (.fieldLink "java/lang/String" 9 "java/lang/String" "value" "[B")) (hy.mv X14.warmed.alike hh14).2.1 (g := (mkF m 41 #[.val (.ref x), .val (.ref y), .val (.ref y)] [.ref y, .ref t])) rfl (rest := [.ref t]) rfl (hb hbytes d41)
      have hh16 := q16.trans hh14
      have c17 : Steps p.tables e below (s₁.setTop (entryFrame m #[.ref x, .ref y] 3)) (T16.setTop (mkF m 44 #[.val (.ref x), .val (.ref y), .val (.ref y)] [.ref t', .ref t])) := c15.trans (st16 _ (Steps.refl _))
      obtain ⟨v18, T18, X18, E18, g18⟩ := X16.callS hexec (LEq.law l t V t' V') hown (wks W (staticW "java/lang/String" 541 LEq.yN)) (wk W LEq.tab) (W := 0) (Nat.le_of_ble_eq_true rfl) (Nat.le_of_ble_eq_true rfl) (Nat.le_refl _) (Nat.le_refl _) (g := (mkF m 44 #[.val (.ref x), .val (.ref y), .val (.ref y)] [.ref t', .ref t])) rfl (by rw [hml]; rfl) c17 (argsL := [.ref t, .ref t']) (rest := []) rfl rfl (by show 2 * 0 + 0 ≤ _; decide) (hb hbytes d44) (⟨rfl, hx.2.2.2.1.mv X16.warmed.alike hh16, hx.2.2.2.2.1.ty, hy.2.2.2.1.mv X16.warmed.alike hh16, hy.2.2.2.2.1.ty⟩)
      obtain ⟨v, rfl, q18, hv⟩ := E18
      have iff := Cod.eqv hx.2.2.2.2.1 hy.2.2.2.2.1 hx.2.2.2.2.2 hy.2.2.2.2.2
      rcases hv with ⟨rfl, he⟩ | ⟨rfl, he⟩
      · have c19 : Steps p.tables e below (s₁.setTop (entryFrame m #[.ref x, .ref y] 3)) (T18.setTop (mkF m 55 #[.val (.ref x), .val (.ref y), .val (.ref y)] [.int 1])) := Steps.trans g18 (by
          refine XS.ifNo X18.here hexec rfl (hb hbytes d47) rfl (i0_eq_f (by decide)) ?_
          refine iconstV X18.here hexec rfl 1 (hb hbytes d50) (by decide) ?_
          refine XS.goto X18.here hexec rfl (pc0 := 51) rfl (hb hbytes d51) (by decide) rfl ?_
          exact Steps.refl _)
        exact ⟨T18, some (.int 1), _, _, _, X18, rfl, rfl, rfl, (fun h => by cases h), ⟨1, rfl, q18.trans hh16, Or.inl ⟨rfl, iff.mp he⟩⟩, fun fs hl => c19.trans (X18.ireturnOut hexec hret rfl (Or.inr (Or.inl rfl)) (hb hbytes d55) hl)⟩
      · have c19 : Steps p.tables e below (s₁.setTop (entryFrame m #[.ref x, .ref y] 3)) (T18.setTop (mkF m 55 #[.val (.ref x), .val (.ref y), .val (.ref y)] [.int 0])) := Steps.trans g18 (by
          refine XS.ifYes X18.here hexec rfl (pc0 := 47) rfl (hb hbytes d47) rfl (i0_eq_t rfl) (by decide) rfl ?_
          refine iconstV X18.here hexec rfl 0 (hb hbytes d54) (by decide) ?_
          exact Steps.refl _)
        exact ⟨T18, some (.int 0), _, _, _, X18, rfl, rfl, rfl, (fun h => by cases h), ⟨0, rfl, q18.trans hh16, Or.inr ⟨rfl, fun q => he (iff.mpr q)⟩⟩, fun fs hl => c19.trans (X18.ireturnOut hexec hret rfl (Or.inr (Or.inl rfl)) (hb hbytes d55) hl)⟩
    · have c13 : Steps p.tables e below (s₁.setTop (entryFrame m #[.ref x, .ref y] 3)) (T11.setTop (mkF m 55 #[.val (.ref x), .val (.ref y), .val (.ref y)] [.int 0])) := c12.trans (by
        refine XS.icmpYes X11.here hexec rfl (pc0 := 33) rfl (hb hbytes d33) rfl (ii_ne_t hcd) (by decide) rfl ?_
        refine iconstV X11.here hexec rfl 0 (hb hbytes d54) (by decide) ?_
        exact Steps.refl _)
      exact ⟨T11, some (.int 0), _, _, _, X11, rfl, rfl, rfl, (fun h => by cases h), ⟨0, rfl, hh11, Or.inr ⟨rfl, Cod.dif hx.2.2.2.2.1 hy.2.2.2.2.1 hcd⟩⟩, fun fs hl => c13.trans (X11.ireturnOut hexec hret rfl (Or.inr (Or.inl rfl)) (hb hbytes d55) hl)⟩
theorem pays {l : Launch} {R : Room} {p : Program} {e : Env} {below : List Frame} {s : State} {sargs : Array Value} {len W : Nat} (x t : Addr) (V : Cell) (cd : Int32) (n : Nat) (f : Nat → Int32) (y t' : Addr) (V' : Cell) (cd' : Int32) (k : Nat) (g : Nat → Int32) (z : Int32) (htab : tab.before sargs s = true) (hfr : 2 ≤ R.frames) (hlo : W + 28 ≤ R.locals) :
    Back l R p e below s sargs yN len W (fun A₁ a₁ => A₁.cells + 0 ≤ R.cells ∧ A₁.slots + 0 ≤ R.slots ∧ P x t V cd n f y t' V' cd' k g z a₁ A₁.U) (fun A₁ _ v₁ B₁ => Says01 (SameT n f k g) v₁ A₁.U B₁.U ∧ B₁.locs = A₁.locs ++ [] ∧ B₁.cells = A₁.cells + 0 ∧ B₁.slots = A₁.slots + 0) :=
  (law l x t V cd n f y t' V' cd' k g z).pays htab hfr (by omega)
end SEq
end StrChars
namespace StrChars.Road
open Jvm Sem ClassFile Op Lib Jvm.Stand Jvm.Free Jvm.Free.XT
open Jvm.Lib.Cold (StaticIs)
/-- the words of String.equals(Object) -/
abbrev wordsEq : List Jvm.Cond := [.code SEq.yN SEq.yB 3 (some .boolean), .initialized ST, .classLink ST 10 ST, .fieldLink ST 38 ST "COMPACT_STRINGS" "Z", .fieldLink ST 15 ST "coder" "B", .fieldLink ST 9 ST "value" "[B", .methodLink ST 541 LEq.yN, .static LEq.yN, .code LEq.yN LEq.yB 3 (some .boolean), .initialized "java/lang/StringLatin1"]
theorem tabEq_of {a : Array Value} {s : State} (h : ∀ w ∈ wordsEq, w.before a s = true) : SEq.tab.before a s = true := by
  have hl : LEq.tab.before a s = true := unparts (wk h (.code LEq.yN LEq.yB 3 (some .boolean))) (wks h (.initialized LEq.yN.cls :: LEq.site))
  have q := consq hl h
  exact unparts (wk q (.code SEq.yN SEq.yB 3 (some .boolean))) (wks q (.initialized SEq.yN.cls :: SEq.site))
theorem movedEq {Z s : State} {a0 args : Array Value} (hZ : Z.Warmed39 s.vm) (hw : ∀ d ∈ wordsEq, d.before a0 Z = true) : ∀ d ∈ wordsEq, d.before args s = true := fun d hd => by
  have t : ∀ d ∈ wordsEq, (d.onTables && d.keepsFace) = true := by decide +kernel
  exact RoadKit.mv hZ (hw d hd) (t d hd)
/-- the road's facts of a String, as the laws ask it -/
theorem txt_of {Z U : State} {a0 : Array Value} {kI : Nat} (wi : (Jvm.Cond.instantiable ST kI).before a0 Z = true) (al : Z.vm.Alike U.vm) {x t : Addr} {kb : ClassId} {cs : List Int32} {cd N2 : Int32} {vs : List Value} (E : RoadKit.Exa Z U.heap x ST) (V : RoadKit.Fld Z U.heap x ST "value" "[B" (.ref t)) (C : RoadKit.Fld Z U.heap x ST "coder" "B" (.int cd)) (K : RoadKit.Arv Z U.heap t kb .byte N2 vs (.int 0)) (hc : CodA cs cd N2 vs) (hb : ∀ c ∈ cs, ¬ c < 0 ∧ ¬ (65535 : Int32) < c) (l2 : cs.length ≤ 4000) :
    ∃ A, Txt x t A cd cs.length (fun j => cs.getD j 0) U := by
  obtain ⟨A, K1, K2, K3, K4, K5, K6⟩ := K
  have hcod := hc.cod (by omega) K3 K5
  obtain ⟨D, fV, fC, hB, F1, F2, g1, g2, -, -⟩ := strObj wi al E V C
  exact ⟨A, ⟨_, hB.2.2.1, D, hB.1, rfl, by cases q : D.vm <;> first | rfl | exact absurd q (hB.2.1.2 _)⟩, Has.of hB F1 g1, Has.of hB F2 g2, ⟨K1.1, State.isArrayOf_alike al K1.2.1, K1.2.2, by rcases hcod with ⟨-, q, -⟩ | ⟨-, q, -⟩ <;> omega⟩, hcod, fun j hj => by
    have e : cs.getD j 0 = cs[j] := by simp [List.getD_eq_getElem?_getD, hj]
    show ¬ cs.getD j 0 < 0 ∧ ¬ 65535 < cs.getD j 0
    rw [e]; exact hb _ (List.getElem_mem _)⟩
theorem same_list (cs ds : List Int32) : SameT cs.length (fun j => cs.getD j 0) ds.length (fun j => ds.getD j 0) ↔ cs = ds := by
  constructor
  · rintro ⟨e, q⟩
    refine List.ext_getElem e fun j h1 h2 => ?_
    have := q j h1
    simpa [List.getD_eq_getElem?_getD, h1, h2] using this
  · rintro rfl
    exact ⟨rfl, fun _ _ => rfl⟩
/-- **equals(Object) OF TWO SUCH STRINGS**: 1 just where the chars are the same -/
theorem eqW {p : Program} {l : Launch} {e : Env} {R : Room} {s : State} {args : Array Value} {below : List Frame} {len W : Nat} {Z : State} {a0 : Array Value} {h : Heap} (hZ : Z.Warmed39 s.vm) (hw : ∀ d ∈ wordsEq, d.before a0 Z = true) {kI : Nat} (wi : (Jvm.Cond.instantiable ST kI).before a0 Z = true)
    {x t : Addr} {kb : ClassId} {cs : List Int32} {cd N2 : Int32} {vs : List Value} (E : RoadKit.Exa Z h x ST) (V : RoadKit.Fld Z h x ST "value" "[B" (.ref t)) (C : RoadKit.Fld Z h x ST "coder" "B" (.int cd)) (K : RoadKit.Arv Z h t kb .byte N2 vs (.int 0)) (hc : CodA cs cd N2 vs) (hb : ∀ c ∈ cs, ¬ c < 0 ∧ ¬ (65535 : Int32) < c) (l2 : cs.length ≤ 4000)
    {y t' : Addr} {kb' : ClassId} {ds : List Int32} {cd' N2' : Int32} {vs' : List Value} (E' : RoadKit.Exa Z h y ST) (V' : RoadKit.Fld Z h y ST "value" "[B" (.ref t')) (C' : RoadKit.Fld Z h y ST "coder" "B" (.int cd')) (K' : RoadKit.Arv Z h t' kb' .byte N2' vs' (.int 0)) (hc' : CodA ds cd' N2' vs') (hb' : ∀ c ∈ ds, ¬ c < 0 ∧ ¬ (65535 : Int32) < c) (l2' : ds.length ≤ 4000)
    {z : Int32} (S : RoadKit.Sta Z h ST "COMPACT_STRINGS" "Z" (.int z)) (hz : ¬ z = 0) (hfr : 2 ≤ R.frames) (hlo : W + 28 ≤ R.locals) :
    Back l R p e below s args (⟨"java/lang/String", "equals", "(Ljava/lang/Object;)Z"⟩ : MethodName) len W (fun P a => a = #[.ref x, .ref y] ∧ P.U.heap = h ∧ P.cells + 0 ≤ R.cells ∧ P.slots + 0 ≤ R.slots)
      (fun P _ v B => ∃ L, (((v = some (.int 1) ∧ cs = ds) ∨ (v = some (.int 0) ∧ ¬ cs = ds)) ∧ L = [] ∧ B.U.heap = h) ∧ B.locs = P.locs ++ L ∧ B.cells = P.cells + 0 ∧ B.slots = P.slots + 0) := by
  intro m meth c P g ig mk a X hg hsize hdg hW hn hp'
  obtain ⟨rfl, rfl, r1, r2⟩ := hp'
  have al : Z.vm.Alike P.U.vm := hZ.alike.trans X.warmed.alike
  obtain ⟨A, hx⟩ := txt_of wi al E V C K hc hb l2
  obtain ⟨A', hy⟩ := txt_of wi al E' V' C' K' hc' hb' l2'
  obtain ⟨v, B, X', ⟨⟨w, hv, hh, hq⟩, hl, hk, hs⟩, st⟩ := SEq.pays x t A cd cs.length (fun j => cs.getD j 0) y t' A' cd' ds.length (fun j => ds.getD j 0) z (tabEq_of (movedEq hZ hw)) hfr hlo m meth c P g ig mk _ X hg hsize hdg hW hn ⟨r1, r2, rfl, hx, hy, sta_is al S, hz⟩
  refine ⟨v, B, X', ⟨[], ⟨?_, rfl, hh⟩, hl, hk, hs⟩, st⟩
  rcases hq with ⟨rfl, q⟩ | ⟨rfl, q⟩
  · exact Or.inl ⟨hv, (same_list cs ds).mp q⟩
  · exact Or.inr ⟨hv, fun e => q ((same_list cs ds).mpr e)⟩
end StrChars.Road
namespace StrChars.Road
open Jvm Sem ClassFile Op Lib Jvm.Stand Jvm.Free Jvm.Free.XT
open Jvm.Lib.Cold (StaticIs)
/-- what backV says of its String, as the contracts of this text ask it: cs's low bytes, coder 0 -/
theorem codOf {cs : List Int32} {n : Nat} (hn : cs.length = n) (hb : ∀ c ∈ cs, ¬ 255 < c) : CodA cs 0 (Int32.ofNat n) ((cs.map lo8).map Value.int) := Or.inl ⟨rfl, by rw [hn], by simp [List.map_map, Function.comp_def], hb⟩
end StrChars.Road
end Jvm.Pilot.@@N@@

namespace Jvm.Pilot.@@N@@
open Jvm Jvm.ClassFile Sem Op Lib Jvm.Free Jvm.Stand Jvm.LawKit Jvm.RoadKit Bundle Jvm.Pilot.@@N@@.Jvm.D
theorem d1_0 : decode method_5_code 0 = .ok (.iload_n 1, 1) := by decide +kernel
theorem d1_1 : decode method_5_code 1 = .ok (.ifCond .ne 15, 3) := by decide +kernel
theorem d1_4 : decode method_5_code 4 = .ok (.new 32, 3) := by decide +kernel
theorem d1_7 : decode method_5_code 7 = .ok (.dup, 1) := by decide +kernel
theorem d1_8 : decode method_5_code 8 = .ok (.iload_n 0, 1) := by decide +kernel
theorem d1_9 : decode method_5_code 9 = .ok (.invokestatic 46, 3) := by decide +kernel
theorem d1_12 : decode method_5_code 12 = .ok (.invokespecial 50, 3) := by decide +kernel
theorem d1_15 : decode method_5_code 15 = .ok (.areturn, 1) := by decide +kernel
theorem d1_16 : decode method_5_code 16 = .ok (.iload_n 1, 1) := by decide +kernel
theorem d1_17 : decode method_5_code 17 = .ok (.iconst 1, 1) := by decide +kernel
theorem d1_18 : decode method_5_code 18 = .ok (.if_icmp .ne 31, 3) := by decide +kernel
theorem d1_21 : decode method_5_code 21 = .ok (.iload_n 0, 1) := by decide +kernel
theorem d1_22 : decode method_5_code 22 = .ok (.invokestatic 46, 3) := by decide +kernel
theorem d1_25 : decode method_5_code 25 = .ok (.astore 4, 2) := by decide +kernel
theorem d1_27 : decode method_5_code 27 = .ok (.aload 4, 2) := by decide +kernel
theorem d1_29 : decode method_5_code 29 = .ok (.iload_n 2, 1) := by decide +kernel
theorem d1_30 : decode method_5_code 30 = .ok (.ldc 53, 2) := by decide +kernel
theorem d1_32 : decode method_5_code 32 = .ok (.iand, 1) := by decide +kernel
theorem d1_33 : decode method_5_code 33 = .ok (.aload 4, 2) := by decide +kernel
theorem d1_35 : decode method_5_code 35 = .ok (.arraylength, 1) := by decide +kernel
theorem d1_36 : decode method_5_code 36 = .ok (.irem, 1) := by decide +kernel
theorem d1_37 : decode method_5_code 37 = .ok (.iload_n 3, 1) := by decide +kernel
theorem d1_38 : decode method_5_code 38 = .ok (.castore, 1) := by decide +kernel
theorem d1_39 : decode method_5_code 39 = .ok (.new 32, 3) := by decide +kernel
theorem d1_42 : decode method_5_code 42 = .ok (.dup, 1) := by decide +kernel
theorem d1_43 : decode method_5_code 43 = .ok (.aload 4, 2) := by decide +kernel
theorem d1_45 : decode method_5_code 45 = .ok (.invokespecial 50, 3) := by decide +kernel
theorem d1_48 : decode method_5_code 48 = .ok (.areturn, 1) := by decide +kernel
theorem d1_49 : decode method_5_code 49 = .ok (.iload_n 1, 1) := by decide +kernel
theorem d1_50 : decode method_5_code 50 = .ok (.iconst 2, 1) := by decide +kernel
theorem d1_51 : decode method_5_code 51 = .ok (.if_icmp .ne 187, 3) := by decide +kernel
theorem d1_54 : decode method_5_code 54 = .ok (.iload_n 0, 1) := by decide +kernel
theorem d1_55 : decode method_5_code 55 = .ok (.ifCond .eq 87, 3) := by decide +kernel
theorem d1_58 : decode method_5_code 58 = .ok (.new 32, 3) := by decide +kernel
theorem d1_61 : decode method_5_code 61 = .ok (.dup, 1) := by decide +kernel
theorem d1_62 : decode method_5_code 62 = .ok (.bipush 13, 2) := by decide +kernel
theorem d1_64 : decode method_5_code 64 = .ok (.newarray .char, 2) := by decide +kernel
theorem d1_66 : decode method_5_code 66 = .ok (.dup, 1) := by decide +kernel
theorem d1_67 : decode method_5_code 67 = .ok (.iconst 0, 1) := by decide +kernel
theorem d1_68 : decode method_5_code 68 = .ok (.bipush 67, 2) := by decide +kernel
theorem d1_70 : decode method_5_code 70 = .ok (.castore, 1) := by decide +kernel
theorem d1_71 : decode method_5_code 71 = .ok (.dup, 1) := by decide +kernel
theorem d1_72 : decode method_5_code 72 = .ok (.iconst 1, 1) := by decide +kernel
theorem d1_73 : decode method_5_code 73 = .ok (.bipush 104, 2) := by decide +kernel
theorem d1_75 : decode method_5_code 75 = .ok (.castore, 1) := by decide +kernel
theorem d1_76 : decode method_5_code 76 = .ok (.dup, 1) := by decide +kernel
theorem d1_77 : decode method_5_code 77 = .ok (.iconst 2, 1) := by decide +kernel
theorem d1_78 : decode method_5_code 78 = .ok (.bipush 97, 2) := by decide +kernel
theorem d1_80 : decode method_5_code 80 = .ok (.castore, 1) := by decide +kernel
theorem d1_81 : decode method_5_code 81 = .ok (.dup, 1) := by decide +kernel
theorem d1_82 : decode method_5_code 82 = .ok (.iconst 3, 1) := by decide +kernel
theorem d1_83 : decode method_5_code 83 = .ok (.bipush 108, 2) := by decide +kernel
theorem d1_85 : decode method_5_code 85 = .ok (.castore, 1) := by decide +kernel
theorem d1_86 : decode method_5_code 86 = .ok (.dup, 1) := by decide +kernel
theorem d1_87 : decode method_5_code 87 = .ok (.iconst 4, 1) := by decide +kernel
theorem d1_88 : decode method_5_code 88 = .ok (.bipush 108, 2) := by decide +kernel
theorem d1_90 : decode method_5_code 90 = .ok (.castore, 1) := by decide +kernel
theorem d1_91 : decode method_5_code 91 = .ok (.dup, 1) := by decide +kernel
theorem d1_92 : decode method_5_code 92 = .ok (.iconst 5, 1) := by decide +kernel
theorem d1_93 : decode method_5_code 93 = .ok (.bipush 101, 2) := by decide +kernel
theorem d1_95 : decode method_5_code 95 = .ok (.castore, 1) := by decide +kernel
theorem d1_96 : decode method_5_code 96 = .ok (.dup, 1) := by decide +kernel
theorem d1_97 : decode method_5_code 97 = .ok (.bipush 6, 2) := by decide +kernel
theorem d1_99 : decode method_5_code 99 = .ok (.bipush 110, 2) := by decide +kernel
theorem d1_101 : decode method_5_code 101 = .ok (.castore, 1) := by decide +kernel
theorem d1_102 : decode method_5_code 102 = .ok (.dup, 1) := by decide +kernel
theorem d1_103 : decode method_5_code 103 = .ok (.bipush 7, 2) := by decide +kernel
theorem d1_105 : decode method_5_code 105 = .ok (.bipush 103, 2) := by decide +kernel
theorem d1_107 : decode method_5_code 107 = .ok (.castore, 1) := by decide +kernel
theorem d1_108 : decode method_5_code 108 = .ok (.dup, 1) := by decide +kernel
theorem d1_109 : decode method_5_code 109 = .ok (.bipush 8, 2) := by decide +kernel
theorem d1_111 : decode method_5_code 111 = .ok (.bipush 101, 2) := by decide +kernel
theorem d1_113 : decode method_5_code 113 = .ok (.castore, 1) := by decide +kernel
theorem d1_114 : decode method_5_code 114 = .ok (.dup, 1) := by decide +kernel
theorem d1_115 : decode method_5_code 115 = .ok (.bipush 9, 2) := by decide +kernel
theorem d1_117 : decode method_5_code 117 = .ok (.bipush 69, 2) := by decide +kernel
theorem d1_119 : decode method_5_code 119 = .ok (.castore, 1) := by decide +kernel
theorem d1_120 : decode method_5_code 120 = .ok (.dup, 1) := by decide +kernel
theorem d1_121 : decode method_5_code 121 = .ok (.bipush 10, 2) := by decide +kernel
theorem d1_123 : decode method_5_code 123 = .ok (.bipush 109, 2) := by decide +kernel
theorem d1_125 : decode method_5_code 125 = .ok (.castore, 1) := by decide +kernel
theorem d1_126 : decode method_5_code 126 = .ok (.dup, 1) := by decide +kernel
theorem d1_127 : decode method_5_code 127 = .ok (.bipush 11, 2) := by decide +kernel
theorem d1_129 : decode method_5_code 129 = .ok (.bipush 97, 2) := by decide +kernel
theorem d1_131 : decode method_5_code 131 = .ok (.castore, 1) := by decide +kernel
theorem d1_132 : decode method_5_code 132 = .ok (.dup, 1) := by decide +kernel
theorem d1_133 : decode method_5_code 133 = .ok (.bipush 12, 2) := by decide +kernel
theorem d1_135 : decode method_5_code 135 = .ok (.bipush 105, 2) := by decide +kernel
theorem d1_137 : decode method_5_code 137 = .ok (.castore, 1) := by decide +kernel
theorem d1_138 : decode method_5_code 138 = .ok (.invokespecial 50, 3) := by decide +kernel
theorem d1_141 : decode method_5_code 141 = .ok (.areturn, 1) := by decide +kernel
theorem d1_142 : decode method_5_code 142 = .ok (.new 32, 3) := by decide +kernel
theorem d1_145 : decode method_5_code 145 = .ok (.dup, 1) := by decide +kernel
theorem d1_146 : decode method_5_code 146 = .ok (.bipush 15, 2) := by decide +kernel
theorem d1_148 : decode method_5_code 148 = .ok (.newarray .char, 2) := by decide +kernel
theorem d1_150 : decode method_5_code 150 = .ok (.dup, 1) := by decide +kernel
theorem d1_151 : decode method_5_code 151 = .ok (.iconst 0, 1) := by decide +kernel
theorem d1_152 : decode method_5_code 152 = .ok (.bipush 67, 2) := by decide +kernel
theorem d1_154 : decode method_5_code 154 = .ok (.castore, 1) := by decide +kernel
theorem d1_155 : decode method_5_code 155 = .ok (.dup, 1) := by decide +kernel
theorem d1_156 : decode method_5_code 156 = .ok (.iconst 1, 1) := by decide +kernel
theorem d1_157 : decode method_5_code 157 = .ok (.bipush 104, 2) := by decide +kernel
theorem d1_159 : decode method_5_code 159 = .ok (.castore, 1) := by decide +kernel
theorem d1_160 : decode method_5_code 160 = .ok (.dup, 1) := by decide +kernel
theorem d1_161 : decode method_5_code 161 = .ok (.iconst 2, 1) := by decide +kernel
theorem d1_162 : decode method_5_code 162 = .ok (.bipush 97, 2) := by decide +kernel
theorem d1_164 : decode method_5_code 164 = .ok (.castore, 1) := by decide +kernel
theorem d1_165 : decode method_5_code 165 = .ok (.dup, 1) := by decide +kernel
theorem d1_166 : decode method_5_code 166 = .ok (.iconst 3, 1) := by decide +kernel
theorem d1_167 : decode method_5_code 167 = .ok (.bipush 108, 2) := by decide +kernel
theorem d1_169 : decode method_5_code 169 = .ok (.castore, 1) := by decide +kernel
theorem d1_170 : decode method_5_code 170 = .ok (.dup, 1) := by decide +kernel
theorem d1_171 : decode method_5_code 171 = .ok (.iconst 4, 1) := by decide +kernel
theorem d1_172 : decode method_5_code 172 = .ok (.bipush 108, 2) := by decide +kernel
theorem d1_174 : decode method_5_code 174 = .ok (.castore, 1) := by decide +kernel
theorem d1_175 : decode method_5_code 175 = .ok (.dup, 1) := by decide +kernel
theorem d1_176 : decode method_5_code 176 = .ok (.iconst 5, 1) := by decide +kernel
theorem d1_177 : decode method_5_code 177 = .ok (.bipush 101, 2) := by decide +kernel
theorem d1_179 : decode method_5_code 179 = .ok (.castore, 1) := by decide +kernel
theorem d1_180 : decode method_5_code 180 = .ok (.dup, 1) := by decide +kernel
theorem d1_181 : decode method_5_code 181 = .ok (.bipush 6, 2) := by decide +kernel
theorem d1_183 : decode method_5_code 183 = .ok (.bipush 110, 2) := by decide +kernel
theorem d1_185 : decode method_5_code 185 = .ok (.castore, 1) := by decide +kernel
theorem d1_186 : decode method_5_code 186 = .ok (.dup, 1) := by decide +kernel
theorem d1_187 : decode method_5_code 187 = .ok (.bipush 7, 2) := by decide +kernel
theorem d1_189 : decode method_5_code 189 = .ok (.bipush 103, 2) := by decide +kernel
theorem d1_191 : decode method_5_code 191 = .ok (.castore, 1) := by decide +kernel
theorem d1_192 : decode method_5_code 192 = .ok (.dup, 1) := by decide +kernel
theorem d1_193 : decode method_5_code 193 = .ok (.bipush 8, 2) := by decide +kernel
theorem d1_195 : decode method_5_code 195 = .ok (.bipush 101, 2) := by decide +kernel
theorem d1_197 : decode method_5_code 197 = .ok (.castore, 1) := by decide +kernel
theorem d1_198 : decode method_5_code 198 = .ok (.dup, 1) := by decide +kernel
theorem d1_199 : decode method_5_code 199 = .ok (.bipush 9, 2) := by decide +kernel
theorem d1_201 : decode method_5_code 201 = .ok (.bipush 79, 2) := by decide +kernel
theorem d1_203 : decode method_5_code 203 = .ok (.castore, 1) := by decide +kernel
theorem d1_204 : decode method_5_code 204 = .ok (.dup, 1) := by decide +kernel
theorem d1_205 : decode method_5_code 205 = .ok (.bipush 10, 2) := by decide +kernel
theorem d1_207 : decode method_5_code 207 = .ok (.bipush 77, 2) := by decide +kernel
theorem d1_209 : decode method_5_code 209 = .ok (.castore, 1) := by decide +kernel
theorem d1_210 : decode method_5_code 210 = .ok (.dup, 1) := by decide +kernel
theorem d1_211 : decode method_5_code 211 = .ok (.bipush 11, 2) := by decide +kernel
theorem d1_213 : decode method_5_code 213 = .ok (.bipush 65, 2) := by decide +kernel
theorem d1_215 : decode method_5_code 215 = .ok (.castore, 1) := by decide +kernel
theorem d1_216 : decode method_5_code 216 = .ok (.dup, 1) := by decide +kernel
theorem d1_217 : decode method_5_code 217 = .ok (.bipush 12, 2) := by decide +kernel
theorem d1_219 : decode method_5_code 219 = .ok (.bipush 84, 2) := by decide +kernel
theorem d1_221 : decode method_5_code 221 = .ok (.castore, 1) := by decide +kernel
theorem d1_222 : decode method_5_code 222 = .ok (.dup, 1) := by decide +kernel
theorem d1_223 : decode method_5_code 223 = .ok (.bipush 13, 2) := by decide +kernel
theorem d1_225 : decode method_5_code 225 = .ok (.bipush 79, 2) := by decide +kernel
theorem d1_227 : decode method_5_code 227 = .ok (.castore, 1) := by decide +kernel
theorem d1_228 : decode method_5_code 228 = .ok (.dup, 1) := by decide +kernel
theorem d1_229 : decode method_5_code 229 = .ok (.bipush 14, 2) := by decide +kernel
theorem d1_231 : decode method_5_code 231 = .ok (.bipush 84, 2) := by decide +kernel
theorem d1_233 : decode method_5_code 233 = .ok (.castore, 1) := by decide +kernel
theorem d1_234 : decode method_5_code 234 = .ok (.invokespecial 50, 3) := by decide +kernel
theorem d1_237 : decode method_5_code 237 = .ok (.areturn, 1) := by decide +kernel
theorem d1_238 : decode method_5_code 238 = .ok (.iload_n 1, 1) := by decide +kernel
theorem d1_239 : decode method_5_code 239 = .ok (.iconst 3, 1) := by decide +kernel
theorem d1_240 : decode method_5_code 240 = .ok (.if_icmp .ne 209, 3) := by decide +kernel
theorem d1_243 : decode method_5_code 243 = .ok (.iload_n 0, 1) := by decide +kernel
theorem d1_244 : decode method_5_code 244 = .ok (.ifCond .eq 98, 3) := by decide +kernel
theorem d1_247 : decode method_5_code 247 = .ok (.new 32, 3) := by decide +kernel
theorem d1_250 : decode method_5_code 250 = .ok (.dup, 1) := by decide +kernel
theorem d1_251 : decode method_5_code 251 = .ok (.bipush 15, 2) := by decide +kernel
theorem d1_253 : decode method_5_code 253 = .ok (.newarray .char, 2) := by decide +kernel
theorem d1_255 : decode method_5_code 255 = .ok (.dup, 1) := by decide +kernel
theorem d1_256 : decode method_5_code 256 = .ok (.iconst 0, 1) := by decide +kernel
theorem d1_257 : decode method_5_code 257 = .ok (.bipush 67, 2) := by decide +kernel
theorem d1_259 : decode method_5_code 259 = .ok (.castore, 1) := by decide +kernel
theorem d1_260 : decode method_5_code 260 = .ok (.dup, 1) := by decide +kernel
theorem d1_261 : decode method_5_code 261 = .ok (.iconst 1, 1) := by decide +kernel
theorem d1_262 : decode method_5_code 262 = .ok (.bipush 104, 2) := by decide +kernel
theorem d1_264 : decode method_5_code 264 = .ok (.castore, 1) := by decide +kernel
theorem d1_265 : decode method_5_code 265 = .ok (.dup, 1) := by decide +kernel
theorem d1_266 : decode method_5_code 266 = .ok (.iconst 2, 1) := by decide +kernel
theorem d1_267 : decode method_5_code 267 = .ok (.bipush 97, 2) := by decide +kernel
theorem d1_269 : decode method_5_code 269 = .ok (.castore, 1) := by decide +kernel
theorem d1_270 : decode method_5_code 270 = .ok (.dup, 1) := by decide +kernel
theorem d1_271 : decode method_5_code 271 = .ok (.iconst 3, 1) := by decide +kernel
theorem d1_272 : decode method_5_code 272 = .ok (.bipush 108, 2) := by decide +kernel
theorem d1_274 : decode method_5_code 274 = .ok (.castore, 1) := by decide +kernel
theorem d1_275 : decode method_5_code 275 = .ok (.dup, 1) := by decide +kernel
theorem d1_276 : decode method_5_code 276 = .ok (.iconst 4, 1) := by decide +kernel
theorem d1_277 : decode method_5_code 277 = .ok (.bipush 108, 2) := by decide +kernel
theorem d1_279 : decode method_5_code 279 = .ok (.castore, 1) := by decide +kernel
theorem d1_280 : decode method_5_code 280 = .ok (.dup, 1) := by decide +kernel
theorem d1_281 : decode method_5_code 281 = .ok (.iconst 5, 1) := by decide +kernel
theorem d1_282 : decode method_5_code 282 = .ok (.bipush 101, 2) := by decide +kernel
theorem d1_284 : decode method_5_code 284 = .ok (.castore, 1) := by decide +kernel
theorem d1_285 : decode method_5_code 285 = .ok (.dup, 1) := by decide +kernel
theorem d1_286 : decode method_5_code 286 = .ok (.bipush 6, 2) := by decide +kernel
theorem d1_288 : decode method_5_code 288 = .ok (.bipush 110, 2) := by decide +kernel
theorem d1_290 : decode method_5_code 290 = .ok (.castore, 1) := by decide +kernel
theorem d1_291 : decode method_5_code 291 = .ok (.dup, 1) := by decide +kernel
theorem d1_292 : decode method_5_code 292 = .ok (.bipush 7, 2) := by decide +kernel
theorem d1_294 : decode method_5_code 294 = .ok (.bipush 103, 2) := by decide +kernel
theorem d1_296 : decode method_5_code 296 = .ok (.castore, 1) := by decide +kernel
theorem d1_297 : decode method_5_code 297 = .ok (.dup, 1) := by decide +kernel
theorem d1_298 : decode method_5_code 298 = .ok (.bipush 8, 2) := by decide +kernel
theorem d1_300 : decode method_5_code 300 = .ok (.bipush 101, 2) := by decide +kernel
theorem d1_302 : decode method_5_code 302 = .ok (.castore, 1) := by decide +kernel
theorem d1_303 : decode method_5_code 303 = .ok (.dup, 1) := by decide +kernel
theorem d1_304 : decode method_5_code 304 = .ok (.bipush 9, 2) := by decide +kernel
theorem d1_306 : decode method_5_code 306 = .ok (.bipush 69, 2) := by decide +kernel
theorem d1_308 : decode method_5_code 308 = .ok (.castore, 1) := by decide +kernel
theorem d1_309 : decode method_5_code 309 = .ok (.dup, 1) := by decide +kernel
theorem d1_310 : decode method_5_code 310 = .ok (.bipush 10, 2) := by decide +kernel
theorem d1_312 : decode method_5_code 312 = .ok (.bipush 109, 2) := by decide +kernel
theorem d1_314 : decode method_5_code 314 = .ok (.castore, 1) := by decide +kernel
theorem d1_315 : decode method_5_code 315 = .ok (.dup, 1) := by decide +kernel
theorem d1_316 : decode method_5_code 316 = .ok (.bipush 11, 2) := by decide +kernel
theorem d1_318 : decode method_5_code 318 = .ok (.bipush 97, 2) := by decide +kernel
theorem d1_320 : decode method_5_code 320 = .ok (.castore, 1) := by decide +kernel
theorem d1_321 : decode method_5_code 321 = .ok (.dup, 1) := by decide +kernel
theorem d1_322 : decode method_5_code 322 = .ok (.bipush 12, 2) := by decide +kernel
theorem d1_324 : decode method_5_code 324 = .ok (.bipush 105, 2) := by decide +kernel
theorem d1_326 : decode method_5_code 326 = .ok (.castore, 1) := by decide +kernel
theorem d1_327 : decode method_5_code 327 = .ok (.dup, 1) := by decide +kernel
theorem d1_328 : decode method_5_code 328 = .ok (.bipush 13, 2) := by decide +kernel
theorem d1_330 : decode method_5_code 330 = .ok (.bipush 108, 2) := by decide +kernel
theorem d1_332 : decode method_5_code 332 = .ok (.castore, 1) := by decide +kernel
theorem d1_333 : decode method_5_code 333 = .ok (.dup, 1) := by decide +kernel
theorem d1_334 : decode method_5_code 334 = .ok (.bipush 14, 2) := by decide +kernel
theorem d1_336 : decode method_5_code 336 = .ok (.iload_n 3, 1) := by decide +kernel
theorem d1_337 : decode method_5_code 337 = .ok (.castore, 1) := by decide +kernel
theorem d1_338 : decode method_5_code 338 = .ok (.invokespecial 50, 3) := by decide +kernel
theorem d1_341 : decode method_5_code 341 = .ok (.areturn, 1) := by decide +kernel
theorem d1_342 : decode method_5_code 342 = .ok (.new 32, 3) := by decide +kernel
theorem d1_345 : decode method_5_code 345 = .ok (.dup, 1) := by decide +kernel
theorem d1_346 : decode method_5_code 346 = .ok (.bipush 17, 2) := by decide +kernel
theorem d1_348 : decode method_5_code 348 = .ok (.newarray .char, 2) := by decide +kernel
theorem d1_350 : decode method_5_code 350 = .ok (.dup, 1) := by decide +kernel
theorem d1_351 : decode method_5_code 351 = .ok (.iconst 0, 1) := by decide +kernel
theorem d1_352 : decode method_5_code 352 = .ok (.bipush 67, 2) := by decide +kernel
theorem d1_354 : decode method_5_code 354 = .ok (.castore, 1) := by decide +kernel
theorem d1_355 : decode method_5_code 355 = .ok (.dup, 1) := by decide +kernel
theorem d1_356 : decode method_5_code 356 = .ok (.iconst 1, 1) := by decide +kernel
theorem d1_357 : decode method_5_code 357 = .ok (.bipush 104, 2) := by decide +kernel
theorem d1_359 : decode method_5_code 359 = .ok (.castore, 1) := by decide +kernel
theorem d1_360 : decode method_5_code 360 = .ok (.dup, 1) := by decide +kernel
theorem d1_361 : decode method_5_code 361 = .ok (.iconst 2, 1) := by decide +kernel
theorem d1_362 : decode method_5_code 362 = .ok (.bipush 97, 2) := by decide +kernel
theorem d1_364 : decode method_5_code 364 = .ok (.castore, 1) := by decide +kernel
theorem d1_365 : decode method_5_code 365 = .ok (.dup, 1) := by decide +kernel
theorem d1_366 : decode method_5_code 366 = .ok (.iconst 3, 1) := by decide +kernel
theorem d1_367 : decode method_5_code 367 = .ok (.bipush 108, 2) := by decide +kernel
theorem d1_369 : decode method_5_code 369 = .ok (.castore, 1) := by decide +kernel
theorem d1_370 : decode method_5_code 370 = .ok (.dup, 1) := by decide +kernel
theorem d1_371 : decode method_5_code 371 = .ok (.iconst 4, 1) := by decide +kernel
theorem d1_372 : decode method_5_code 372 = .ok (.bipush 108, 2) := by decide +kernel
theorem d1_374 : decode method_5_code 374 = .ok (.castore, 1) := by decide +kernel
theorem d1_375 : decode method_5_code 375 = .ok (.dup, 1) := by decide +kernel
theorem d1_376 : decode method_5_code 376 = .ok (.iconst 5, 1) := by decide +kernel
theorem d1_377 : decode method_5_code 377 = .ok (.bipush 101, 2) := by decide +kernel
theorem d1_379 : decode method_5_code 379 = .ok (.castore, 1) := by decide +kernel
theorem d1_380 : decode method_5_code 380 = .ok (.dup, 1) := by decide +kernel
theorem d1_381 : decode method_5_code 381 = .ok (.bipush 6, 2) := by decide +kernel
theorem d1_383 : decode method_5_code 383 = .ok (.bipush 110, 2) := by decide +kernel
theorem d1_385 : decode method_5_code 385 = .ok (.castore, 1) := by decide +kernel
theorem d1_386 : decode method_5_code 386 = .ok (.dup, 1) := by decide +kernel
theorem d1_387 : decode method_5_code 387 = .ok (.bipush 7, 2) := by decide +kernel
theorem d1_389 : decode method_5_code 389 = .ok (.bipush 103, 2) := by decide +kernel
theorem d1_391 : decode method_5_code 391 = .ok (.castore, 1) := by decide +kernel
theorem d1_392 : decode method_5_code 392 = .ok (.dup, 1) := by decide +kernel
theorem d1_393 : decode method_5_code 393 = .ok (.bipush 8, 2) := by decide +kernel
theorem d1_395 : decode method_5_code 395 = .ok (.bipush 101, 2) := by decide +kernel
theorem d1_397 : decode method_5_code 397 = .ok (.castore, 1) := by decide +kernel
theorem d1_398 : decode method_5_code 398 = .ok (.dup, 1) := by decide +kernel
theorem d1_399 : decode method_5_code 399 = .ok (.bipush 9, 2) := by decide +kernel
theorem d1_401 : decode method_5_code 401 = .ok (.bipush 79, 2) := by decide +kernel
theorem d1_403 : decode method_5_code 403 = .ok (.castore, 1) := by decide +kernel
theorem d1_404 : decode method_5_code 404 = .ok (.dup, 1) := by decide +kernel
theorem d1_405 : decode method_5_code 405 = .ok (.bipush 10, 2) := by decide +kernel
theorem d1_407 : decode method_5_code 407 = .ok (.bipush 77, 2) := by decide +kernel
theorem d1_409 : decode method_5_code 409 = .ok (.castore, 1) := by decide +kernel
theorem d1_410 : decode method_5_code 410 = .ok (.dup, 1) := by decide +kernel
theorem d1_411 : decode method_5_code 411 = .ok (.bipush 11, 2) := by decide +kernel
theorem d1_413 : decode method_5_code 413 = .ok (.bipush 65, 2) := by decide +kernel
theorem d1_415 : decode method_5_code 415 = .ok (.castore, 1) := by decide +kernel
theorem d1_416 : decode method_5_code 416 = .ok (.dup, 1) := by decide +kernel
theorem d1_417 : decode method_5_code 417 = .ok (.bipush 12, 2) := by decide +kernel
theorem d1_419 : decode method_5_code 419 = .ok (.bipush 84, 2) := by decide +kernel
theorem d1_421 : decode method_5_code 421 = .ok (.castore, 1) := by decide +kernel
theorem d1_422 : decode method_5_code 422 = .ok (.dup, 1) := by decide +kernel
theorem d1_423 : decode method_5_code 423 = .ok (.bipush 13, 2) := by decide +kernel
theorem d1_425 : decode method_5_code 425 = .ok (.bipush 79, 2) := by decide +kernel
theorem d1_427 : decode method_5_code 427 = .ok (.castore, 1) := by decide +kernel
theorem d1_428 : decode method_5_code 428 = .ok (.dup, 1) := by decide +kernel
theorem d1_429 : decode method_5_code 429 = .ok (.bipush 14, 2) := by decide +kernel
theorem d1_431 : decode method_5_code 431 = .ok (.bipush 84, 2) := by decide +kernel
theorem d1_433 : decode method_5_code 433 = .ok (.castore, 1) := by decide +kernel
theorem d1_434 : decode method_5_code 434 = .ok (.dup, 1) := by decide +kernel
theorem d1_435 : decode method_5_code 435 = .ok (.bipush 15, 2) := by decide +kernel
theorem d1_437 : decode method_5_code 437 = .ok (.bipush 80, 2) := by decide +kernel
theorem d1_439 : decode method_5_code 439 = .ok (.castore, 1) := by decide +kernel
theorem d1_440 : decode method_5_code 440 = .ok (.dup, 1) := by decide +kernel
theorem d1_441 : decode method_5_code 441 = .ok (.bipush 16, 2) := by decide +kernel
theorem d1_443 : decode method_5_code 443 = .ok (.iload_n 3, 1) := by decide +kernel
theorem d1_444 : decode method_5_code 444 = .ok (.castore, 1) := by decide +kernel
theorem d1_445 : decode method_5_code 445 = .ok (.invokespecial 50, 3) := by decide +kernel
theorem d1_448 : decode method_5_code 448 = .ok (.areturn, 1) := by decide +kernel
theorem d1_449 : decode method_5_code 449 = .ok (.iload_n 1, 1) := by decide +kernel
theorem d1_450 : decode method_5_code 450 = .ok (.iconst 4, 1) := by decide +kernel
theorem d1_451 : decode method_5_code 451 = .ok (.if_icmp .ne 209, 3) := by decide +kernel
theorem d1_454 : decode method_5_code 454 = .ok (.iload_n 0, 1) := by decide +kernel
theorem d1_455 : decode method_5_code 455 = .ok (.ifCond .eq 98, 3) := by decide +kernel
theorem d1_458 : decode method_5_code 458 = .ok (.new 32, 3) := by decide +kernel
theorem d1_461 : decode method_5_code 461 = .ok (.dup, 1) := by decide +kernel
theorem d1_462 : decode method_5_code 462 = .ok (.bipush 15, 2) := by decide +kernel
theorem d1_464 : decode method_5_code 464 = .ok (.newarray .char, 2) := by decide +kernel
theorem d1_466 : decode method_5_code 466 = .ok (.dup, 1) := by decide +kernel
theorem d1_467 : decode method_5_code 467 = .ok (.iconst 0, 1) := by decide +kernel
theorem d1_468 : decode method_5_code 468 = .ok (.iload_n 3, 1) := by decide +kernel
theorem d1_469 : decode method_5_code 469 = .ok (.castore, 1) := by decide +kernel
theorem d1_470 : decode method_5_code 470 = .ok (.dup, 1) := by decide +kernel
theorem d1_471 : decode method_5_code 471 = .ok (.iconst 1, 1) := by decide +kernel
theorem d1_472 : decode method_5_code 472 = .ok (.bipush 67, 2) := by decide +kernel
theorem d1_474 : decode method_5_code 474 = .ok (.castore, 1) := by decide +kernel
theorem d1_475 : decode method_5_code 475 = .ok (.dup, 1) := by decide +kernel
theorem d1_476 : decode method_5_code 476 = .ok (.iconst 2, 1) := by decide +kernel
theorem d1_477 : decode method_5_code 477 = .ok (.bipush 104, 2) := by decide +kernel
theorem d1_479 : decode method_5_code 479 = .ok (.castore, 1) := by decide +kernel
theorem d1_480 : decode method_5_code 480 = .ok (.dup, 1) := by decide +kernel
theorem d1_481 : decode method_5_code 481 = .ok (.iconst 3, 1) := by decide +kernel
theorem d1_482 : decode method_5_code 482 = .ok (.bipush 97, 2) := by decide +kernel
theorem d1_484 : decode method_5_code 484 = .ok (.castore, 1) := by decide +kernel
theorem d1_485 : decode method_5_code 485 = .ok (.dup, 1) := by decide +kernel
theorem d1_486 : decode method_5_code 486 = .ok (.iconst 4, 1) := by decide +kernel
theorem d1_487 : decode method_5_code 487 = .ok (.bipush 108, 2) := by decide +kernel
theorem d1_489 : decode method_5_code 489 = .ok (.castore, 1) := by decide +kernel
theorem d1_490 : decode method_5_code 490 = .ok (.dup, 1) := by decide +kernel
theorem d1_491 : decode method_5_code 491 = .ok (.iconst 5, 1) := by decide +kernel
theorem d1_492 : decode method_5_code 492 = .ok (.bipush 108, 2) := by decide +kernel
theorem d1_494 : decode method_5_code 494 = .ok (.castore, 1) := by decide +kernel
theorem d1_495 : decode method_5_code 495 = .ok (.dup, 1) := by decide +kernel
theorem d1_496 : decode method_5_code 496 = .ok (.bipush 6, 2) := by decide +kernel
theorem d1_498 : decode method_5_code 498 = .ok (.bipush 101, 2) := by decide +kernel
theorem d1_500 : decode method_5_code 500 = .ok (.castore, 1) := by decide +kernel
theorem d1_501 : decode method_5_code 501 = .ok (.dup, 1) := by decide +kernel
theorem d1_502 : decode method_5_code 502 = .ok (.bipush 7, 2) := by decide +kernel
theorem d1_504 : decode method_5_code 504 = .ok (.bipush 110, 2) := by decide +kernel
theorem d1_506 : decode method_5_code 506 = .ok (.castore, 1) := by decide +kernel
theorem d1_507 : decode method_5_code 507 = .ok (.dup, 1) := by decide +kernel
theorem d1_508 : decode method_5_code 508 = .ok (.bipush 8, 2) := by decide +kernel
theorem d1_510 : decode method_5_code 510 = .ok (.bipush 103, 2) := by decide +kernel
theorem d1_512 : decode method_5_code 512 = .ok (.castore, 1) := by decide +kernel
theorem d1_513 : decode method_5_code 513 = .ok (.dup, 1) := by decide +kernel
theorem d1_514 : decode method_5_code 514 = .ok (.bipush 9, 2) := by decide +kernel
theorem d1_516 : decode method_5_code 516 = .ok (.bipush 101, 2) := by decide +kernel
theorem d1_518 : decode method_5_code 518 = .ok (.castore, 1) := by decide +kernel
theorem d1_519 : decode method_5_code 519 = .ok (.dup, 1) := by decide +kernel
theorem d1_520 : decode method_5_code 520 = .ok (.bipush 10, 2) := by decide +kernel
theorem d1_522 : decode method_5_code 522 = .ok (.bipush 69, 2) := by decide +kernel
theorem d1_524 : decode method_5_code 524 = .ok (.castore, 1) := by decide +kernel
theorem d1_525 : decode method_5_code 525 = .ok (.dup, 1) := by decide +kernel
theorem d1_526 : decode method_5_code 526 = .ok (.bipush 11, 2) := by decide +kernel
theorem d1_528 : decode method_5_code 528 = .ok (.bipush 109, 2) := by decide +kernel
theorem d1_530 : decode method_5_code 530 = .ok (.castore, 1) := by decide +kernel
theorem d1_531 : decode method_5_code 531 = .ok (.dup, 1) := by decide +kernel
theorem d1_532 : decode method_5_code 532 = .ok (.bipush 12, 2) := by decide +kernel
theorem d1_534 : decode method_5_code 534 = .ok (.bipush 97, 2) := by decide +kernel
theorem d1_536 : decode method_5_code 536 = .ok (.castore, 1) := by decide +kernel
theorem d1_537 : decode method_5_code 537 = .ok (.dup, 1) := by decide +kernel
theorem d1_538 : decode method_5_code 538 = .ok (.bipush 13, 2) := by decide +kernel
theorem d1_540 : decode method_5_code 540 = .ok (.bipush 105, 2) := by decide +kernel
theorem d1_542 : decode method_5_code 542 = .ok (.castore, 1) := by decide +kernel
theorem d1_543 : decode method_5_code 543 = .ok (.dup, 1) := by decide +kernel
theorem d1_544 : decode method_5_code 544 = .ok (.bipush 14, 2) := by decide +kernel
theorem d1_546 : decode method_5_code 546 = .ok (.bipush 108, 2) := by decide +kernel
theorem d1_548 : decode method_5_code 548 = .ok (.castore, 1) := by decide +kernel
theorem d1_549 : decode method_5_code 549 = .ok (.invokespecial 50, 3) := by decide +kernel
theorem d1_552 : decode method_5_code 552 = .ok (.areturn, 1) := by decide +kernel
theorem d1_553 : decode method_5_code 553 = .ok (.new 32, 3) := by decide +kernel
theorem d1_556 : decode method_5_code 556 = .ok (.dup, 1) := by decide +kernel
theorem d1_557 : decode method_5_code 557 = .ok (.bipush 17, 2) := by decide +kernel
theorem d1_559 : decode method_5_code 559 = .ok (.newarray .char, 2) := by decide +kernel
theorem d1_561 : decode method_5_code 561 = .ok (.dup, 1) := by decide +kernel
theorem d1_562 : decode method_5_code 562 = .ok (.iconst 0, 1) := by decide +kernel
theorem d1_563 : decode method_5_code 563 = .ok (.iload_n 3, 1) := by decide +kernel
theorem d1_564 : decode method_5_code 564 = .ok (.castore, 1) := by decide +kernel
theorem d1_565 : decode method_5_code 565 = .ok (.dup, 1) := by decide +kernel
theorem d1_566 : decode method_5_code 566 = .ok (.iconst 1, 1) := by decide +kernel
theorem d1_567 : decode method_5_code 567 = .ok (.bipush 67, 2) := by decide +kernel
theorem d1_569 : decode method_5_code 569 = .ok (.castore, 1) := by decide +kernel
theorem d1_570 : decode method_5_code 570 = .ok (.dup, 1) := by decide +kernel
theorem d1_571 : decode method_5_code 571 = .ok (.iconst 2, 1) := by decide +kernel
theorem d1_572 : decode method_5_code 572 = .ok (.bipush 104, 2) := by decide +kernel
theorem d1_574 : decode method_5_code 574 = .ok (.castore, 1) := by decide +kernel
theorem d1_575 : decode method_5_code 575 = .ok (.dup, 1) := by decide +kernel
theorem d1_576 : decode method_5_code 576 = .ok (.iconst 3, 1) := by decide +kernel
theorem d1_577 : decode method_5_code 577 = .ok (.bipush 97, 2) := by decide +kernel
theorem d1_579 : decode method_5_code 579 = .ok (.castore, 1) := by decide +kernel
theorem d1_580 : decode method_5_code 580 = .ok (.dup, 1) := by decide +kernel
theorem d1_581 : decode method_5_code 581 = .ok (.iconst 4, 1) := by decide +kernel
theorem d1_582 : decode method_5_code 582 = .ok (.bipush 108, 2) := by decide +kernel
theorem d1_584 : decode method_5_code 584 = .ok (.castore, 1) := by decide +kernel
theorem d1_585 : decode method_5_code 585 = .ok (.dup, 1) := by decide +kernel
theorem d1_586 : decode method_5_code 586 = .ok (.iconst 5, 1) := by decide +kernel
theorem d1_587 : decode method_5_code 587 = .ok (.bipush 108, 2) := by decide +kernel
theorem d1_589 : decode method_5_code 589 = .ok (.castore, 1) := by decide +kernel
theorem d1_590 : decode method_5_code 590 = .ok (.dup, 1) := by decide +kernel
theorem d1_591 : decode method_5_code 591 = .ok (.bipush 6, 2) := by decide +kernel
theorem d1_593 : decode method_5_code 593 = .ok (.bipush 101, 2) := by decide +kernel
theorem d1_595 : decode method_5_code 595 = .ok (.castore, 1) := by decide +kernel
theorem d1_596 : decode method_5_code 596 = .ok (.dup, 1) := by decide +kernel
theorem d1_597 : decode method_5_code 597 = .ok (.bipush 7, 2) := by decide +kernel
theorem d1_599 : decode method_5_code 599 = .ok (.bipush 110, 2) := by decide +kernel
theorem d1_601 : decode method_5_code 601 = .ok (.castore, 1) := by decide +kernel
theorem d1_602 : decode method_5_code 602 = .ok (.dup, 1) := by decide +kernel
theorem d1_603 : decode method_5_code 603 = .ok (.bipush 8, 2) := by decide +kernel
theorem d1_605 : decode method_5_code 605 = .ok (.bipush 103, 2) := by decide +kernel
theorem d1_607 : decode method_5_code 607 = .ok (.castore, 1) := by decide +kernel
theorem d1_608 : decode method_5_code 608 = .ok (.dup, 1) := by decide +kernel
theorem d1_609 : decode method_5_code 609 = .ok (.bipush 9, 2) := by decide +kernel
theorem d1_611 : decode method_5_code 611 = .ok (.bipush 101, 2) := by decide +kernel
theorem d1_613 : decode method_5_code 613 = .ok (.castore, 1) := by decide +kernel
theorem d1_614 : decode method_5_code 614 = .ok (.dup, 1) := by decide +kernel
theorem d1_615 : decode method_5_code 615 = .ok (.bipush 10, 2) := by decide +kernel
theorem d1_617 : decode method_5_code 617 = .ok (.bipush 79, 2) := by decide +kernel
theorem d1_619 : decode method_5_code 619 = .ok (.castore, 1) := by decide +kernel
theorem d1_620 : decode method_5_code 620 = .ok (.dup, 1) := by decide +kernel
theorem d1_621 : decode method_5_code 621 = .ok (.bipush 11, 2) := by decide +kernel
theorem d1_623 : decode method_5_code 623 = .ok (.bipush 77, 2) := by decide +kernel
theorem d1_625 : decode method_5_code 625 = .ok (.castore, 1) := by decide +kernel
theorem d1_626 : decode method_5_code 626 = .ok (.dup, 1) := by decide +kernel
theorem d1_627 : decode method_5_code 627 = .ok (.bipush 12, 2) := by decide +kernel
theorem d1_629 : decode method_5_code 629 = .ok (.bipush 65, 2) := by decide +kernel
theorem d1_631 : decode method_5_code 631 = .ok (.castore, 1) := by decide +kernel
theorem d1_632 : decode method_5_code 632 = .ok (.dup, 1) := by decide +kernel
theorem d1_633 : decode method_5_code 633 = .ok (.bipush 13, 2) := by decide +kernel
theorem d1_635 : decode method_5_code 635 = .ok (.bipush 84, 2) := by decide +kernel
theorem d1_637 : decode method_5_code 637 = .ok (.castore, 1) := by decide +kernel
theorem d1_638 : decode method_5_code 638 = .ok (.dup, 1) := by decide +kernel
theorem d1_639 : decode method_5_code 639 = .ok (.bipush 14, 2) := by decide +kernel
theorem d1_641 : decode method_5_code 641 = .ok (.bipush 79, 2) := by decide +kernel
theorem d1_643 : decode method_5_code 643 = .ok (.castore, 1) := by decide +kernel
theorem d1_644 : decode method_5_code 644 = .ok (.dup, 1) := by decide +kernel
theorem d1_645 : decode method_5_code 645 = .ok (.bipush 15, 2) := by decide +kernel
theorem d1_647 : decode method_5_code 647 = .ok (.bipush 84, 2) := by decide +kernel
theorem d1_649 : decode method_5_code 649 = .ok (.castore, 1) := by decide +kernel
theorem d1_650 : decode method_5_code 650 = .ok (.dup, 1) := by decide +kernel
theorem d1_651 : decode method_5_code 651 = .ok (.bipush 16, 2) := by decide +kernel
theorem d1_653 : decode method_5_code 653 = .ok (.bipush 80, 2) := by decide +kernel
theorem d1_655 : decode method_5_code 655 = .ok (.castore, 1) := by decide +kernel
theorem d1_656 : decode method_5_code 656 = .ok (.invokespecial 50, 3) := by decide +kernel
theorem d1_659 : decode method_5_code 659 = .ok (.areturn, 1) := by decide +kernel
theorem d1_660 : decode method_5_code 660 = .ok (.iload_n 1, 1) := by decide +kernel
theorem d1_661 : decode method_5_code 661 = .ok (.iconst 5, 1) := by decide +kernel
theorem d1_662 : decode method_5_code 662 = .ok (.if_icmp .ne 13, 3) := by decide +kernel
theorem d1_665 : decode method_5_code 665 = .ok (.iload_n 0, 1) := by decide +kernel
theorem d1_666 : decode method_5_code 666 = .ok (.ifCond .eq 6, 3) := by decide +kernel
theorem d1_669 : decode method_5_code 669 = .ok (.ldc 54, 2) := by decide +kernel
theorem d1_671 : decode method_5_code 671 = .ok (.areturn, 1) := by decide +kernel
theorem d1_672 : decode method_5_code 672 = .ok (.ldc 56, 2) := by decide +kernel
theorem d1_674 : decode method_5_code 674 = .ok (.areturn, 1) := by decide +kernel
theorem d1_675 : decode method_5_code 675 = .ok (.iload_n 1, 1) := by decide +kernel
theorem d1_676 : decode method_5_code 676 = .ok (.bipush 6, 2) := by decide +kernel
theorem d1_678 : decode method_5_code 678 = .ok (.if_icmp .ne 6, 3) := by decide +kernel
theorem d1_681 : decode method_5_code 681 = .ok (.ldc 57, 2) := by decide +kernel
theorem d1_683 : decode method_5_code 683 = .ok (.areturn, 1) := by decide +kernel
theorem d1_684 : decode method_5_code 684 = .ok (.new 32, 3) := by decide +kernel
theorem d1_687 : decode method_5_code 687 = .ok (.dup, 1) := by decide +kernel
theorem d1_688 : decode method_5_code 688 = .ok (.bipush 9, 2) := by decide +kernel
theorem d1_690 : decode method_5_code 690 = .ok (.newarray .char, 2) := by decide +kernel
theorem d1_692 : decode method_5_code 692 = .ok (.dup, 1) := by decide +kernel
theorem d1_693 : decode method_5_code 693 = .ok (.iconst 0, 1) := by decide +kernel
theorem d1_694 : decode method_5_code 694 = .ok (.bipush 67, 2) := by decide +kernel
theorem d1_696 : decode method_5_code 696 = .ok (.castore, 1) := by decide +kernel
theorem d1_697 : decode method_5_code 697 = .ok (.dup, 1) := by decide +kernel
theorem d1_698 : decode method_5_code 698 = .ok (.iconst 1, 1) := by decide +kernel
theorem d1_699 : decode method_5_code 699 = .ok (.bipush 104, 2) := by decide +kernel
theorem d1_701 : decode method_5_code 701 = .ok (.castore, 1) := by decide +kernel
theorem d1_702 : decode method_5_code 702 = .ok (.dup, 1) := by decide +kernel
theorem d1_703 : decode method_5_code 703 = .ok (.iconst 2, 1) := by decide +kernel
theorem d1_704 : decode method_5_code 704 = .ok (.bipush 97, 2) := by decide +kernel
theorem d1_706 : decode method_5_code 706 = .ok (.castore, 1) := by decide +kernel
theorem d1_707 : decode method_5_code 707 = .ok (.dup, 1) := by decide +kernel
theorem d1_708 : decode method_5_code 708 = .ok (.iconst 3, 1) := by decide +kernel
theorem d1_709 : decode method_5_code 709 = .ok (.bipush 108, 2) := by decide +kernel
theorem d1_711 : decode method_5_code 711 = .ok (.castore, 1) := by decide +kernel
theorem d1_712 : decode method_5_code 712 = .ok (.dup, 1) := by decide +kernel
theorem d1_713 : decode method_5_code 713 = .ok (.iconst 4, 1) := by decide +kernel
theorem d1_714 : decode method_5_code 714 = .ok (.bipush 108, 2) := by decide +kernel
theorem d1_716 : decode method_5_code 716 = .ok (.castore, 1) := by decide +kernel
theorem d1_717 : decode method_5_code 717 = .ok (.dup, 1) := by decide +kernel
theorem d1_718 : decode method_5_code 718 = .ok (.iconst 5, 1) := by decide +kernel
theorem d1_719 : decode method_5_code 719 = .ok (.bipush 101, 2) := by decide +kernel
theorem d1_721 : decode method_5_code 721 = .ok (.castore, 1) := by decide +kernel
theorem d1_722 : decode method_5_code 722 = .ok (.dup, 1) := by decide +kernel
theorem d1_723 : decode method_5_code 723 = .ok (.bipush 6, 2) := by decide +kernel
theorem d1_725 : decode method_5_code 725 = .ok (.bipush 110, 2) := by decide +kernel
theorem d1_727 : decode method_5_code 727 = .ok (.castore, 1) := by decide +kernel
theorem d1_728 : decode method_5_code 728 = .ok (.dup, 1) := by decide +kernel
theorem d1_729 : decode method_5_code 729 = .ok (.bipush 7, 2) := by decide +kernel
theorem d1_731 : decode method_5_code 731 = .ok (.bipush 103, 2) := by decide +kernel
theorem d1_733 : decode method_5_code 733 = .ok (.castore, 1) := by decide +kernel
theorem d1_734 : decode method_5_code 734 = .ok (.dup, 1) := by decide +kernel
theorem d1_735 : decode method_5_code 735 = .ok (.bipush 8, 2) := by decide +kernel
theorem d1_737 : decode method_5_code 737 = .ok (.bipush 101, 2) := by decide +kernel
theorem d1_739 : decode method_5_code 739 = .ok (.castore, 1) := by decide +kernel
theorem d1_740 : decode method_5_code 740 = .ok (.invokespecial 50, 3) := by decide +kernel
theorem d1_743 : decode method_5_code 743 = .ok (.areturn, 1) := by decide +kernel
theorem d2_0 : decode method_4_code 0 = .ok (.iload_n 0, 1) := by decide +kernel
theorem d2_1 : decode method_4_code 1 = .ok (.ifCond .eq 86, 3) := by decide +kernel
theorem d2_4 : decode method_4_code 4 = .ok (.bipush 14, 2) := by decide +kernel
theorem d2_6 : decode method_4_code 6 = .ok (.newarray .char, 2) := by decide +kernel
theorem d2_8 : decode method_4_code 8 = .ok (.dup, 1) := by decide +kernel
theorem d2_9 : decode method_4_code 9 = .ok (.iconst 0, 1) := by decide +kernel
theorem d2_10 : decode method_4_code 10 = .ok (.bipush 67, 2) := by decide +kernel
theorem d2_12 : decode method_4_code 12 = .ok (.castore, 1) := by decide +kernel
theorem d2_13 : decode method_4_code 13 = .ok (.dup, 1) := by decide +kernel
theorem d2_14 : decode method_4_code 14 = .ok (.iconst 1, 1) := by decide +kernel
theorem d2_15 : decode method_4_code 15 = .ok (.bipush 104, 2) := by decide +kernel
theorem d2_17 : decode method_4_code 17 = .ok (.castore, 1) := by decide +kernel
theorem d2_18 : decode method_4_code 18 = .ok (.dup, 1) := by decide +kernel
theorem d2_19 : decode method_4_code 19 = .ok (.iconst 2, 1) := by decide +kernel
theorem d2_20 : decode method_4_code 20 = .ok (.bipush 97, 2) := by decide +kernel
theorem d2_22 : decode method_4_code 22 = .ok (.castore, 1) := by decide +kernel
theorem d2_23 : decode method_4_code 23 = .ok (.dup, 1) := by decide +kernel
theorem d2_24 : decode method_4_code 24 = .ok (.iconst 3, 1) := by decide +kernel
theorem d2_25 : decode method_4_code 25 = .ok (.bipush 108, 2) := by decide +kernel
theorem d2_27 : decode method_4_code 27 = .ok (.castore, 1) := by decide +kernel
theorem d2_28 : decode method_4_code 28 = .ok (.dup, 1) := by decide +kernel
theorem d2_29 : decode method_4_code 29 = .ok (.iconst 4, 1) := by decide +kernel
theorem d2_30 : decode method_4_code 30 = .ok (.bipush 108, 2) := by decide +kernel
theorem d2_32 : decode method_4_code 32 = .ok (.castore, 1) := by decide +kernel
theorem d2_33 : decode method_4_code 33 = .ok (.dup, 1) := by decide +kernel
theorem d2_34 : decode method_4_code 34 = .ok (.iconst 5, 1) := by decide +kernel
theorem d2_35 : decode method_4_code 35 = .ok (.bipush 101, 2) := by decide +kernel
theorem d2_37 : decode method_4_code 37 = .ok (.castore, 1) := by decide +kernel
theorem d2_38 : decode method_4_code 38 = .ok (.dup, 1) := by decide +kernel
theorem d2_39 : decode method_4_code 39 = .ok (.bipush 6, 2) := by decide +kernel
theorem d2_41 : decode method_4_code 41 = .ok (.bipush 110, 2) := by decide +kernel
theorem d2_43 : decode method_4_code 43 = .ok (.castore, 1) := by decide +kernel
theorem d2_44 : decode method_4_code 44 = .ok (.dup, 1) := by decide +kernel
theorem d2_45 : decode method_4_code 45 = .ok (.bipush 7, 2) := by decide +kernel
theorem d2_47 : decode method_4_code 47 = .ok (.bipush 103, 2) := by decide +kernel
theorem d2_49 : decode method_4_code 49 = .ok (.castore, 1) := by decide +kernel
theorem d2_50 : decode method_4_code 50 = .ok (.dup, 1) := by decide +kernel
theorem d2_51 : decode method_4_code 51 = .ok (.bipush 8, 2) := by decide +kernel
theorem d2_53 : decode method_4_code 53 = .ok (.bipush 101, 2) := by decide +kernel
theorem d2_55 : decode method_4_code 55 = .ok (.castore, 1) := by decide +kernel
theorem d2_56 : decode method_4_code 56 = .ok (.dup, 1) := by decide +kernel
theorem d2_57 : decode method_4_code 57 = .ok (.bipush 9, 2) := by decide +kernel
theorem d2_59 : decode method_4_code 59 = .ok (.bipush 69, 2) := by decide +kernel
theorem d2_61 : decode method_4_code 61 = .ok (.castore, 1) := by decide +kernel
theorem d2_62 : decode method_4_code 62 = .ok (.dup, 1) := by decide +kernel
theorem d2_63 : decode method_4_code 63 = .ok (.bipush 10, 2) := by decide +kernel
theorem d2_65 : decode method_4_code 65 = .ok (.bipush 109, 2) := by decide +kernel
theorem d2_67 : decode method_4_code 67 = .ok (.castore, 1) := by decide +kernel
theorem d2_68 : decode method_4_code 68 = .ok (.dup, 1) := by decide +kernel
theorem d2_69 : decode method_4_code 69 = .ok (.bipush 11, 2) := by decide +kernel
theorem d2_71 : decode method_4_code 71 = .ok (.bipush 97, 2) := by decide +kernel
theorem d2_73 : decode method_4_code 73 = .ok (.castore, 1) := by decide +kernel
theorem d2_74 : decode method_4_code 74 = .ok (.dup, 1) := by decide +kernel
theorem d2_75 : decode method_4_code 75 = .ok (.bipush 12, 2) := by decide +kernel
theorem d2_77 : decode method_4_code 77 = .ok (.bipush 105, 2) := by decide +kernel
theorem d2_79 : decode method_4_code 79 = .ok (.castore, 1) := by decide +kernel
theorem d2_80 : decode method_4_code 80 = .ok (.dup, 1) := by decide +kernel
theorem d2_81 : decode method_4_code 81 = .ok (.bipush 13, 2) := by decide +kernel
theorem d2_83 : decode method_4_code 83 = .ok (.bipush 108, 2) := by decide +kernel
theorem d2_85 : decode method_4_code 85 = .ok (.castore, 1) := by decide +kernel
theorem d2_86 : decode method_4_code 86 = .ok (.areturn, 1) := by decide +kernel
theorem d2_87 : decode method_4_code 87 = .ok (.bipush 16, 2) := by decide +kernel
theorem d2_89 : decode method_4_code 89 = .ok (.newarray .char, 2) := by decide +kernel
theorem d2_91 : decode method_4_code 91 = .ok (.dup, 1) := by decide +kernel
theorem d2_92 : decode method_4_code 92 = .ok (.iconst 0, 1) := by decide +kernel
theorem d2_93 : decode method_4_code 93 = .ok (.bipush 67, 2) := by decide +kernel
theorem d2_95 : decode method_4_code 95 = .ok (.castore, 1) := by decide +kernel
theorem d2_96 : decode method_4_code 96 = .ok (.dup, 1) := by decide +kernel
theorem d2_97 : decode method_4_code 97 = .ok (.iconst 1, 1) := by decide +kernel
theorem d2_98 : decode method_4_code 98 = .ok (.bipush 104, 2) := by decide +kernel
theorem d2_100 : decode method_4_code 100 = .ok (.castore, 1) := by decide +kernel
theorem d2_101 : decode method_4_code 101 = .ok (.dup, 1) := by decide +kernel
theorem d2_102 : decode method_4_code 102 = .ok (.iconst 2, 1) := by decide +kernel
theorem d2_103 : decode method_4_code 103 = .ok (.bipush 97, 2) := by decide +kernel
theorem d2_105 : decode method_4_code 105 = .ok (.castore, 1) := by decide +kernel
theorem d2_106 : decode method_4_code 106 = .ok (.dup, 1) := by decide +kernel
theorem d2_107 : decode method_4_code 107 = .ok (.iconst 3, 1) := by decide +kernel
theorem d2_108 : decode method_4_code 108 = .ok (.bipush 108, 2) := by decide +kernel
theorem d2_110 : decode method_4_code 110 = .ok (.castore, 1) := by decide +kernel
theorem d2_111 : decode method_4_code 111 = .ok (.dup, 1) := by decide +kernel
theorem d2_112 : decode method_4_code 112 = .ok (.iconst 4, 1) := by decide +kernel
theorem d2_113 : decode method_4_code 113 = .ok (.bipush 108, 2) := by decide +kernel
theorem d2_115 : decode method_4_code 115 = .ok (.castore, 1) := by decide +kernel
theorem d2_116 : decode method_4_code 116 = .ok (.dup, 1) := by decide +kernel
theorem d2_117 : decode method_4_code 117 = .ok (.iconst 5, 1) := by decide +kernel
theorem d2_118 : decode method_4_code 118 = .ok (.bipush 101, 2) := by decide +kernel
theorem d2_120 : decode method_4_code 120 = .ok (.castore, 1) := by decide +kernel
theorem d2_121 : decode method_4_code 121 = .ok (.dup, 1) := by decide +kernel
theorem d2_122 : decode method_4_code 122 = .ok (.bipush 6, 2) := by decide +kernel
theorem d2_124 : decode method_4_code 124 = .ok (.bipush 110, 2) := by decide +kernel
theorem d2_126 : decode method_4_code 126 = .ok (.castore, 1) := by decide +kernel
theorem d2_127 : decode method_4_code 127 = .ok (.dup, 1) := by decide +kernel
theorem d2_128 : decode method_4_code 128 = .ok (.bipush 7, 2) := by decide +kernel
theorem d2_130 : decode method_4_code 130 = .ok (.bipush 103, 2) := by decide +kernel
theorem d2_132 : decode method_4_code 132 = .ok (.castore, 1) := by decide +kernel
theorem d2_133 : decode method_4_code 133 = .ok (.dup, 1) := by decide +kernel
theorem d2_134 : decode method_4_code 134 = .ok (.bipush 8, 2) := by decide +kernel
theorem d2_136 : decode method_4_code 136 = .ok (.bipush 101, 2) := by decide +kernel
theorem d2_138 : decode method_4_code 138 = .ok (.castore, 1) := by decide +kernel
theorem d2_139 : decode method_4_code 139 = .ok (.dup, 1) := by decide +kernel
theorem d2_140 : decode method_4_code 140 = .ok (.bipush 9, 2) := by decide +kernel
theorem d2_142 : decode method_4_code 142 = .ok (.bipush 79, 2) := by decide +kernel
theorem d2_144 : decode method_4_code 144 = .ok (.castore, 1) := by decide +kernel
theorem d2_145 : decode method_4_code 145 = .ok (.dup, 1) := by decide +kernel
theorem d2_146 : decode method_4_code 146 = .ok (.bipush 10, 2) := by decide +kernel
theorem d2_148 : decode method_4_code 148 = .ok (.bipush 77, 2) := by decide +kernel
theorem d2_150 : decode method_4_code 150 = .ok (.castore, 1) := by decide +kernel
theorem d2_151 : decode method_4_code 151 = .ok (.dup, 1) := by decide +kernel
theorem d2_152 : decode method_4_code 152 = .ok (.bipush 11, 2) := by decide +kernel
theorem d2_154 : decode method_4_code 154 = .ok (.bipush 65, 2) := by decide +kernel
theorem d2_156 : decode method_4_code 156 = .ok (.castore, 1) := by decide +kernel
theorem d2_157 : decode method_4_code 157 = .ok (.dup, 1) := by decide +kernel
theorem d2_158 : decode method_4_code 158 = .ok (.bipush 12, 2) := by decide +kernel
theorem d2_160 : decode method_4_code 160 = .ok (.bipush 84, 2) := by decide +kernel
theorem d2_162 : decode method_4_code 162 = .ok (.castore, 1) := by decide +kernel
theorem d2_163 : decode method_4_code 163 = .ok (.dup, 1) := by decide +kernel
theorem d2_164 : decode method_4_code 164 = .ok (.bipush 13, 2) := by decide +kernel
theorem d2_166 : decode method_4_code 166 = .ok (.bipush 79, 2) := by decide +kernel
theorem d2_168 : decode method_4_code 168 = .ok (.castore, 1) := by decide +kernel
theorem d2_169 : decode method_4_code 169 = .ok (.dup, 1) := by decide +kernel
theorem d2_170 : decode method_4_code 170 = .ok (.bipush 14, 2) := by decide +kernel
theorem d2_172 : decode method_4_code 172 = .ok (.bipush 84, 2) := by decide +kernel
theorem d2_174 : decode method_4_code 174 = .ok (.castore, 1) := by decide +kernel
theorem d2_175 : decode method_4_code 175 = .ok (.dup, 1) := by decide +kernel
theorem d2_176 : decode method_4_code 176 = .ok (.bipush 15, 2) := by decide +kernel
theorem d2_178 : decode method_4_code 178 = .ok (.bipush 80, 2) := by decide +kernel
theorem d2_180 : decode method_4_code 180 = .ok (.castore, 1) := by decide +kernel
theorem d2_181 : decode method_4_code 181 = .ok (.areturn, 1) := by decide +kernel
theorem d9_0 : decode prog_12_method_6_code 0 = .ok (.aconst_null, 1) := by decide +kernel
theorem d9_1 : decode prog_12_method_6_code 1 = .ok (.astore_n 1, 1) := by decide +kernel
theorem d9_2 : decode prog_12_method_6_code 2 = .ok (.invokestatic 36, 3) := by decide +kernel
theorem d9_5 : decode prog_12_method_6_code 5 = .ok (.astore_n 2, 1) := by decide +kernel
theorem d9_6 : decode prog_12_method_6_code 6 = .ok (.aload_n 2, 1) := by decide +kernel
theorem d9_7 : decode prog_12_method_6_code 7 = .ok (.arraylength, 1) := by decide +kernel
theorem d9_8 : decode prog_12_method_6_code 8 = .ok (.istore_n 3, 1) := by decide +kernel
theorem d9_9 : decode prog_12_method_6_code 9 = .ok (.iconst 0, 1) := by decide +kernel
theorem d9_10 : decode prog_12_method_6_code 10 = .ok (.istore 4, 2) := by decide +kernel
theorem d9_12 : decode prog_12_method_6_code 12 = .ok (.iload 4, 2) := by decide +kernel
theorem d9_14 : decode prog_12_method_6_code 14 = .ok (.iload_n 3, 1) := by decide +kernel
theorem d9_15 : decode prog_12_method_6_code 15 = .ok (.if_icmp .ge 33, 3) := by decide +kernel
theorem d9_18 : decode prog_12_method_6_code 18 = .ok (.aload_n 2, 1) := by decide +kernel
theorem d9_19 : decode prog_12_method_6_code 19 = .ok (.iload 4, 2) := by decide +kernel
theorem d9_21 : decode prog_12_method_6_code 21 = .ok (.aaload, 1) := by decide +kernel
theorem d9_22 : decode prog_12_method_6_code 22 = .ok (.astore 5, 2) := by decide +kernel
theorem d9_24 : decode prog_12_method_6_code 24 = .ok (.aload 5, 2) := by decide +kernel
theorem d9_26 : decode prog_12_method_6_code 26 = .ok (.getfield 29, 3) := by decide +kernel
theorem d9_29 : decode prog_12_method_6_code 29 = .ok (.aload_n 0, 1) := by decide +kernel
theorem d9_30 : decode prog_12_method_6_code 30 = .ok (.invokevirtual 40, 3) := by decide +kernel
theorem d9_33 : decode prog_12_method_6_code 33 = .ok (.ifCond .eq 9, 3) := by decide +kernel
theorem d9_36 : decode prog_12_method_6_code 36 = .ok (.aload 5, 2) := by decide +kernel
theorem d9_38 : decode prog_12_method_6_code 38 = .ok (.astore_n 1, 1) := by decide +kernel
theorem d9_39 : decode prog_12_method_6_code 39 = .ok (.goto 9, 3) := by decide +kernel
theorem d9_42 : decode prog_12_method_6_code 42 = .ok (.iinc 4 1, 3) := by decide +kernel
theorem d9_45 : decode prog_12_method_6_code 45 = .ok (.goto (-33), 3) := by decide +kernel
theorem d9_48 : decode prog_12_method_6_code 48 = .ok (.aload_n 1, 1) := by decide +kernel
theorem d9_49 : decode prog_12_method_6_code 49 = .ok (.invokestatic 46, 3) := by decide +kernel
theorem d9_52 : decode prog_12_method_6_code 52 = .ok (.areturn, 1) := by decide +kernel
theorem d10_0 : decode prog_12_method_1_code 0 = .ok (.getstatic 10, 3) := by decide +kernel
theorem d10_3 : decode prog_12_method_1_code 3 = .ok (.invokevirtual 14, 3) := by decide +kernel
theorem d10_6 : decode prog_12_method_1_code 6 = .ok (.checkcast 15, 3) := by decide +kernel
theorem d10_9 : decode prog_12_method_1_code 9 = .ok (.areturn, 1) := by decide +kernel
theorem d13_0 : decode jdk_32_method_4_code 0 = .ok (.aload_n 0, 1) := by decide +kernel
theorem d13_1 : decode jdk_32_method_4_code 1 = .ok (.ifnonnull 9, 3) := by decide +kernel
theorem d13_4 : decode jdk_32_method_4_code 4 = .ok (.getstatic 1, 3) := by decide +kernel
theorem d13_7 : decode jdk_32_method_4_code 7 = .ok (.goto 11, 3) := by decide +kernel
theorem d13_10 : decode jdk_32_method_4_code 10 = .ok (.new 2, 3) := by decide +kernel
theorem d13_13 : decode jdk_32_method_4_code 13 = .ok (.dup, 1) := by decide +kernel
theorem d13_14 : decode jdk_32_method_4_code 14 = .ok (.aload_n 0, 1) := by decide +kernel
theorem d13_15 : decode jdk_32_method_4_code 15 = .ok (.invokespecial 23, 3) := by decide +kernel
theorem d13_18 : decode jdk_32_method_4_code 18 = .ok (.areturn, 1) := by decide +kernel
theorem d14_0 : decode jdk_32_method_2_code 0 = .ok (.aload_n 0, 1) := by decide +kernel
theorem d14_1 : decode jdk_32_method_2_code 1 = .ok (.invokespecial 7, 3) := by decide +kernel
theorem d14_4 : decode jdk_32_method_2_code 4 = .ok (.aload_n 0, 1) := by decide +kernel
theorem d14_5 : decode jdk_32_method_2_code 5 = .ok (.aload_n 1, 1) := by decide +kernel
theorem d14_6 : decode jdk_32_method_2_code 6 = .ok (.putfield 13, 3) := by decide +kernel
theorem d14_9 : decode jdk_32_method_2_code 9 = .ok (.return_, 1) := by decide +kernel
theorem d15_0 : decode jdk_32_method_15_code 0 = .ok (.aload_n 0, 1) := by decide +kernel
theorem d15_1 : decode jdk_32_method_15_code 1 = .ok (.getfield 13, 3) := by decide +kernel
theorem d15_4 : decode jdk_32_method_15_code 4 = .ok (.ifnull 10, 3) := by decide +kernel
theorem d15_7 : decode jdk_32_method_15_code 7 = .ok (.aload_n 0, 1) := by decide +kernel
theorem d15_8 : decode jdk_32_method_15_code 8 = .ok (.getfield 13, 3) := by decide +kernel
theorem d15_11 : decode jdk_32_method_15_code 11 = .ok (.goto 4, 3) := by decide +kernel
theorem d15_14 : decode jdk_32_method_15_code 14 = .ok (.aload_n 1, 1) := by decide +kernel
theorem d15_15 : decode jdk_32_method_15_code 15 = .ok (.areturn, 1) := by decide +kernel
theorem d16_0 : decode method_3_code 0 = .ok (.ldc 29, 2) := by decide +kernel
theorem d16_2 : decode method_3_code 2 = .ok (.aload_n 0, 1) := by decide +kernel
theorem d16_3 : decode method_3_code 3 = .ok (.invokevirtual 31, 3) := by decide +kernel
theorem d16_6 : decode method_3_code 6 = .ok (.ifCond .eq 7, 3) := by decide +kernel
theorem d16_9 : decode method_3_code 9 = .ok (.getstatic 37, 3) := by decide +kernel
theorem d16_12 : decode method_3_code 12 = .ok (.areturn, 1) := by decide +kernel
theorem d16_13 : decode method_3_code 13 = .ok (.ldc 41, 2) := by decide +kernel
theorem d16_15 : decode method_3_code 15 = .ok (.aload_n 0, 1) := by decide +kernel
theorem d16_16 : decode method_3_code 16 = .ok (.invokevirtual 31, 3) := by decide +kernel
theorem d16_19 : decode method_3_code 19 = .ok (.ifCond .eq 7, 3) := by decide +kernel
theorem d16_22 : decode method_3_code 22 = .ok (.getstatic 43, 3) := by decide +kernel
theorem d16_25 : decode method_3_code 25 = .ok (.areturn, 1) := by decide +kernel
theorem d16_26 : decode method_3_code 26 = .ok (.aconst_null, 1) := by decide +kernel
theorem d16_27 : decode method_3_code 27 = .ok (.areturn, 1) := by decide +kernel
theorem pd_0 : parseMethodDescriptor "(Ljava/lang/Object;)V" = some ⟨[(.object "java/lang/Object")], none⟩ := by decide +kernel
theorem pd_1 : parseMethodDescriptor "()[Lcom/example/sekisho/sekisho/registration/Factor;" = some ⟨[], some (.array (.object "com/example/sekisho/sekisho/registration/Factor"))⟩ := by decide +kernel
theorem pd_2 : parseMethodDescriptor "(Ljava/lang/Object;)Z" = some ⟨[(.object "java/lang/Object")], some .boolean⟩ := by decide +kernel
theorem pd_3 : parseMethodDescriptor "(Ljava/lang/Object;)Ljava/util/Optional;" = some ⟨[(.object "java/lang/Object")], some (.object "java/util/Optional")⟩ := by decide +kernel
theorem pd_4 : parseMethodDescriptor "(Z)[C" = some ⟨[.boolean], some (.array .char)⟩ := by decide +kernel
theorem pd_5 : parseMethodDescriptor "([C)V" = some ⟨[(.array .char)], none⟩ := by decide +kernel
theorem pd_6 : parseMethodDescriptor "(ZIIC)Ljava/lang/String;" = some ⟨[.boolean, .int, .int, .char], some (.object "java/lang/String")⟩ := by decide +kernel
theorem pd_7 : parseMethodDescriptor "(Ljava/lang/String;)Ljava/util/Optional;" = some ⟨[(.object "java/lang/String")], some (.object "java/util/Optional")⟩ := by decide +kernel
theorem pd_8 : parseMethodDescriptor "(Ljava/lang/Object;)Ljava/lang/Object;" = some ⟨[(.object "java/lang/Object")], some (.object "java/lang/Object")⟩ := by decide +kernel
theorem pd_9 : parseMethodDescriptor "(Ljava/lang/String;)Lcom/example/sekisho/sekisho/registration/Factor;" = some ⟨[(.object "java/lang/String")], some (.object "com/example/sekisho/sekisho/registration/Factor")⟩ := by decide +kernel
def own_str (Z : State) (h : Heap) (x : Addr) (cs : List Int32) : Prop := ∃ (t : Addr) (kb : ClassId) (n : Nat), Exa Z h x "java/lang/String" ∧ Fld Z h x "java/lang/String" "value" "[B" (.ref t) ∧ Fld Z h x "java/lang/String" "coder" "B" (.int (0 : Int32)) ∧ Arv Z h t kb .byte (Int32.ofNat n) ((cs.map (fun c => c.toInt8.toInt32)).map Value.int) (.int 0) ∧ (∀ c ∈ cs, ¬ c < 0 ∧ ¬ (255 : Int32) < c) ∧ cs.length = n ∧ n ≤ 4000
theorem own_str.ext {Z : State} {h h' : Heap} {x : Addr} {cs : List Int32} (F : own_str Z h x cs) (E : Ext h h') : own_str Z h' x cs := by
  obtain ⟨t, kb, n, a, b, c, d, r⟩ := F
  exact ⟨t, kb, n, a.ext E, b.ext E, c.ext E, d.ext E, r⟩
theorem own_str.keep0 {Z : State} {h h' : Heap} {x : Addr} {cs : List Int32} (F : own_str Z h x cs) (K : Keep h h' []) : own_str Z h' x cs := by
  obtain ⟨t, kb, n, a, b, c, d, r⟩ := F
  exact ⟨t, kb, n, a.keep K, b.keep K nin0, c.keep K nin0, d.keep K nin0, r⟩
def own_arr (Z : State) (h : Heap) (x : Addr) (cl : Cell) (ty : FieldType) : Prop := Arr Z h x cl ty
theorem own_arr.ext {Z : State} {h h' : Heap} {x : Addr} {cl : Cell} {ty : FieldType} (F : own_arr Z h x cl ty) (E : Ext h h') : own_arr Z h' x cl ty := ⟨E.2 _ _ F.1, F.2⟩
theorem own_arr.keep0 {Z : State} {h h' : Heap} {x : Addr} {cl : Cell} {ty : FieldType} (F : own_arr Z h x cl ty) (K : Keep h h' []) : own_arr Z h' x cl ty := ⟨K.2.1 _ _ F.1 nin0, F.2⟩
theorem own_ext0 {h h' : Heap} (K : Keep h h' []) : Ext h h' := ⟨K.1, fun a c q => K.2.1 a c q nin0⟩
theorem own_sta0 {Z : State} {h h' : Heap} {C n d : String} {v : Value} (S : Sta Z h C n d v) (K : Keep h h' []) : Sta Z h' C n d v := S.ext (own_ext0 K)
def own_eqs (a b : List Int32) : Int32 := if a = b then 1 else 0
theorem own_eqv {v : Option Value} {a b : List Int32} (h : (v = some (.int 1) ∧ a = b) ∨ (v = some (.int 0) ∧ ¬ a = b)) : v = some (.int (own_eqs a b)) := by
  unfold own_eqs
  rcases h with ⟨rfl, q⟩ | ⟨rfl, q⟩
  · rw [if_pos q]
  · rw [if_neg q]
theorem own_eq1 {a b : List Int32} (h : a = b) : ¬ (own_eqs a b = 0) := by unfold own_eqs; rw [if_pos h]; decide
theorem own_eq0 {a b : List Int32} (h : ¬ a = b) : own_eqs a b = 0 := by unfold own_eqs; rw [if_neg h]
theorem own_cn : ∀ c ∈ ([] : List Int32), ¬ c < 0 ∧ ¬ (255 : Int32) < c := fun _ h => nomatch h
theorem own_cc {a : Int32} {l : List Int32} (h : ¬ a < 0 ∧ ¬ (255 : Int32) < a) (t : ∀ c ∈ l, ¬ c < 0 ∧ ¬ (255 : Int32) < c) : ∀ c ∈ a :: l, ¬ c < 0 ∧ ¬ (255 : Int32) < c := fun c hc => by
  rcases List.mem_cons.mp hc with rfl | q
  · exact h
  · exact t c q
theorem own_cset {l : List Int32} {i : Nat} {a : Int32} (t : ∀ c ∈ l, ¬ c < 0 ∧ ¬ (255 : Int32) < c) (h : ¬ a < 0 ∧ ¬ (255 : Int32) < a) : ∀ c ∈ l.set i a, ¬ c < 0 ∧ ¬ (255 : Int32) < c := fun c hc => by
  rcases List.mem_or_eq_of_mem_set hc with q | rfl
  · exact t c q
  · exact h
theorem own_at {cl : Cell} {j : Int32} {i : Nat} {v : Value} (h : cl.slots[j.toNatClampNeg]? = some v) (e : j.toNatClampNeg = i) : cl.slots[i]? = some v := e ▸ h
theorem own_nat {n k : Nat} {z : Int32} (hlt : n < 2 ^ 31) (h : n.toInt32 = z) (hz : z.toInt = k) : n = k := by
  have q := congrArg Int32.toInt h
  rw [len_toInt hlt] at q
  omega
theorem own_up {cs : List Int32} (h : ∀ c ∈ cs, ¬ c < 0 ∧ ¬ (255 : Int32) < c) : ∀ c ∈ cs, ¬ c < 0 ∧ ¬ (65535 : Int32) < c := fun c hc => ⟨(h c hc).1, fun q => (h c hc).2 (by
  rw [Int32.lt_iff_toInt_lt] at q ⊢
  have e1 : (65535 : Int32).toInt = 65535 := rfl
  have e2 : (255 : Int32).toInt = 255 := rfl
  omega)⟩
theorem own_eqr {s : State} {args : Array Value} {a b : Jvm.Term} {t : Addr} {idx : List Nat} (hB : b.eval args s none idx s = some (.ref t)) (h : (Jvm.Cond.eq a b).value args s none s idx = some true) : a.eval args s none idx s = some (.ref t) := by
  obtain ⟨x, y, e1, e2, k1, k2⟩ := cmp_v (Or.inl h)
  obtain rfl : Value.ref t = y := Option.some.inj (hB.symm.trans e2)
  have q := gotT (eq_R e1 e2 k2.2 rfl) h
  rw [e1, q]
theorem own_eqn {s : State} {args : Array Value} {a : Jvm.Term} {idx : List Nat} (h : (Jvm.Cond.eq a Jvm.Term.null).value args s none s idx = some true) : a.eval args s none idx s = some .null := by
  obtain ⟨x, y, e1, e2, k1, k2⟩ := cmp_v (Or.inl h)
  obtain rfl : Value.null = y := Option.some.inj e2
  have q := gotT (eq_R e1 e2 k2.2 rfl) h
  rw [e1, q]
def own_k0 : List Int32 := [67, 104, 97, 108, 108, 101, 110, 103, 101, 79, 77, 65, 84, 79, 84, 80]
def own_c0 : List Int32 := [nar .char (67 : Int32), nar .char (104 : Int32), nar .char (97 : Int32), nar .char (108 : Int32), nar .char (108 : Int32), nar .char (101 : Int32), nar .char (110 : Int32), nar .char (103 : Int32), nar .char (101 : Int32), nar .char (79 : Int32), nar .char (77 : Int32), nar .char (65 : Int32), nar .char (84 : Int32), nar .char (79 : Int32), nar .char (84 : Int32), nar .char (80 : Int32)]
theorem own_hk0 : ∀ c ∈ own_k0, ¬ c < 0 ∧ ¬ (255 : Int32) < c := by decide +kernel
theorem own_hc0 : ∀ c ∈ own_c0, ¬ c < 0 ∧ ¬ (255 : Int32) < c := by decide +kernel
def own_k1 : List Int32 := [67, 104, 97, 108, 108, 101, 110, 103, 101, 69, 109, 97, 105, 108]
def own_c1 : List Int32 := [nar .char (67 : Int32), nar .char (104 : Int32), nar .char (97 : Int32), nar .char (108 : Int32), nar .char (108 : Int32), nar .char (101 : Int32), nar .char (110 : Int32), nar .char (103 : Int32), nar .char (101 : Int32), nar .char (69 : Int32), nar .char (109 : Int32), nar .char (97 : Int32), nar .char (105 : Int32), nar .char (108 : Int32)]
theorem own_hk1 : ∀ c ∈ own_k1, ¬ c < 0 ∧ ¬ (255 : Int32) < c := by decide +kernel
theorem own_hc1 : ∀ c ∈ own_c1, ¬ c < 0 ∧ ¬ (255 : Int32) < c := by decide +kernel
theorem own_chars (x : Int32) : ¬ nar .char ((x &&& (255 : Int32)).toUInt32.toUInt16.toUInt32.toInt32) < 0 ∧ ¬ (255 : Int32) < nar .char ((x &&& (255 : Int32)).toUInt32.toUInt16.toUInt32.toInt32) := by
  show ¬ ((x &&& (255 : Int32)).toUInt32.toUInt16.toUInt32.toInt32).toUInt32.toUInt16.toUInt32.toInt32 < 0 ∧ ¬ (255 : Int32) < ((x &&& (255 : Int32)).toUInt32.toUInt16.toUInt32.toInt32).toUInt32.toUInt16.toUInt32.toInt32
  rw [i2c_mask, i2c_mask]
  have hm : (x &&& 255).toInt = x.toInt % 2 ^ 8 := Jvm.Kit.i32_mask x 255 (k := 8) (by decide) (by decide)
  have c255 : (255 : Int32).toInt = 255 := by decide
  have c0 : (0 : Int32).toInt = 0 := by decide
  rw [Int32.lt_iff_toInt_lt, Int32.lt_iff_toInt_lt]
  omega
theorem own_md (x : Int32) {t : Int32} {k : Nat} (h : t.toInt = k) (hk : 1 ≤ k) : (¬ ((x &&& (2147483647 : Int32)) % t) < 0 ∧ ((x &&& (2147483647 : Int32)) % t) < t) ∧ ((x &&& (2147483647 : Int32)) % t).toNatClampNeg < k := by
  have hm : (x &&& 2147483647).toInt = x.toInt % 2 ^ 31 := Jvm.Kit.i32_mask x 2147483647 (k := 31) (by decide) (by decide)
  have hr : ((x &&& 2147483647) % t).toInt = (x &&& 2147483647).toInt % t.toInt := Jvm.Kit.i32_rem_nonneg (by omega)
  have a1 := Int.emod_nonneg (x &&& 2147483647).toInt (b := t.toInt) (by omega)
  have a2 := Int.emod_lt_of_pos (x &&& 2147483647).toInt (b := t.toInt) (by omega)
  have c0 : (0 : Int32).toInt = 0 := by decide
  refine ⟨⟨?_, ?_⟩, ?_⟩
  · rw [Int32.lt_iff_toInt_lt]; omega
  · rw [Int32.lt_iff_toInt_lt]; omega
  · rw [Int32.toNatClampNeg]; omega
theorem own_EW {Z : State} {a0 : Array Value} (hw : ∀ d ∈ tables_1, d.before a0 Z = true) : EW Z a0 consts_1 := (EW.cons (hw _ (List.mem_of_getElem? (i := 93) rfl)) (by decide +kernel) (EW.cons (hw _ (List.mem_of_getElem? (i := 98) rfl)) (by decide +kernel) (EW.cons (hw _ (List.mem_of_getElem? (i := 104) rfl)) (by decide +kernel) (EW.cons (hw _ (List.mem_of_getElem? (i := 102) rfl)) (by decide +kernel) (EW.cons (hw _ (List.mem_of_getElem? (i := 103) rfl)) (by decide +kernel) EW.nil)))))
theorem ef_10 (m : MethodId)  : entryFrame m #[] 0 = (mkF m 0 #[] []) := by first | (simp [entryFrame, mkF, argsToLocals, Value.category]; done) | rfl
theorem pn_10 : plainName "com/example/sekisho/sekisho/registration/Factor" = true := by first | (simp [plainName, overriddenIn]; done) | decide +kernel
theorem ef_14 (m : MethodId) (a1 : Addr) (a2 : Addr) : entryFrame m #[(.ref a1), (.ref a2)] 2 = (mkF m 0 #[.val (.ref a1), .val (.ref a2)] []) := by first | (simp [entryFrame, mkF, argsToLocals, Value.category]; done) | rfl
theorem pn_14 : plainName "java/util/Optional" = true := by first | (simp [plainName, overriddenIn]; done) | decide +kernel
theorem ef_13n (m : MethodId)  : entryFrame m #[.null] 1 = (mkF m 0 #[.val .null] []) := by first | (simp [entryFrame, mkF, argsToLocals, Value.category]; done) | rfl
theorem pn_13 : plainName "java/util/Optional" = true := by first | (simp [plainName, overriddenIn]; done) | decide +kernel
theorem ef_13 (m : MethodId) (a1 : Addr) : entryFrame m #[(.ref a1)] 1 = (mkF m 0 #[.val (.ref a1)] []) := by first | (simp [entryFrame, mkF, argsToLocals, Value.category]; done) | rfl
theorem ef_15n (m : MethodId) (a1 : Addr) : entryFrame m #[(.ref a1), .null] 2 = (mkF m 0 #[.val (.ref a1), .val .null] []) := by first | (simp [entryFrame, mkF, argsToLocals, Value.category]; done) | rfl
theorem pn_15 : plainName "java/util/Optional" = true := by first | (simp [plainName, overriddenIn]; done) | decide +kernel
theorem ef_9 (m : MethodId) (a1 : Addr) : entryFrame m #[(.ref a1)] 6 = (mkF m 0 #[.val (.ref a1), .unset, .unset, .unset, .unset, .unset] []) := by first | (simp [entryFrame, mkF, argsToLocals, Value.category]; done) | rfl
theorem pn_9 : plainName "com/example/sekisho/sekisho/registration/Factor" = true := by first | (simp [plainName, overriddenIn]; done) | decide +kernel
theorem ef_2 (m : MethodId) (p1 : Int32) : entryFrame m #[(.int p1)] 1 = (mkF m 0 #[.val (.int p1)] []) := by first | (simp [entryFrame, mkF, argsToLocals, Value.category]; done) | rfl
theorem pn_2 : plainName "com/example/sekisho/sekisho/registration/FactorOfKeyPinLaw" = true := by first | (simp [plainName, overriddenIn]; done) | decide +kernel
theorem ef_1 (m : MethodId) (p1 : Int32) (p2 : Int32) (p3 : Int32) (p4 : Int32) : entryFrame m #[(.int p1), (.int p2), (.int p3), (.int p4)] 5 = (mkF m 0 #[.val (.int p1), .val (.int p2), .val (.int p3), .val (.int p4), .unset] []) := by first | (simp [entryFrame, mkF, argsToLocals, Value.category]; done) | rfl
theorem pn_1 : plainName "com/example/sekisho/sekisho/registration/FactorOfKeyPinLaw" = true := by first | (simp [plainName, overriddenIn]; done) | decide +kernel
theorem ef_16 (m : MethodId) (a1 : Addr) : entryFrame m #[(.ref a1)] 1 = (mkF m 0 #[.val (.ref a1)] []) := by first | (simp [entryFrame, mkF, argsToLocals, Value.category]; done) | rfl
theorem pn_16 : plainName "com/example/sekisho/sekisho/registration/FactorOfKeyPinLaw" = true := by first | (simp [plainName, overriddenIn]; done) | decide +kernel
theorem ef_0 (m : MethodId) (p0 : Int32) (p1 : Int32) (p2 : Int32) : entryFrame m #[(.int p0), (.int p1), (.int p2)] maxLocals = (mkF m 0 #[.val (.int p0), .val (.int p1), .val (.int p2), .unset, .unset, .unset, .unset, .unset, .unset] []) := by first | (simp [entryFrame, mkF, argsToLocals, Value.category, maxLocals]; done) | rfl
theorem pn_0 : plainName "com/example/sekisho/sekisho/registration/FactorOfKeyPinLaw" = true := by first | (simp [plainName, overriddenIn]; done) | decide +kernel
def Q10 (Z : State) (va : Addr) (cl : Cell) (h0 : Heap) (n0 : Nat) (v : Option Value) (h : Heap) (L : List Loc) : Prop := ∃ b : Addr, v = some (.ref b) ∧ Fr n0 L ∧ Keep h0 h [] ∧ Arr Z h b (cloneOf cl) (.object "com/example/sekisho/sekisho/registration/Factor")
set_option maxRecDepth 65536 in
set_option maxHeartbeats 40000000 in
theorem rm10 (l : Launch) (Z : State) (a0 : Array Value) (hw : ∀ d ∈ tables_1, d.before a0 Z = true) (ws : List Jvm.Cond) (va : Addr) (cl : Cell) (h0 : Heap) (n0 : Nat) (Z0 : n0 ≤ h0.size) (SV : Sta Z h0 "com/example/sekisho/sekisho/registration/Factor" "$VALUES" "[Lcom/example/sekisho/sekisho/registration/Factor;" (.ref va)) (Ar : Arr Z h0 va cl (.object "com/example/sekisho/sekisho/registration/Factor")) (Eva : Exa Z h0 va "[Lcom/example/sekisho/sekisho/registration/Factor;") (Fc : FitC Z cl) (Sz : cl.slots.size = 2) :
    MetFree l (⟨"com/example/sekisho/sekisho/registration/Factor", "values", "()[Lcom/example/sekisho/sekisho/registration/Factor;"⟩ : MethodName) (head1 (Jvm.Cond.code (⟨"com/example/sekisho/sekisho/registration/Factor", "values", "()[Lcom/example/sekisho/sekisho/registration/Factor;"⟩ : MethodName) prog_12_method_1_code 0 (some (.array (.object "com/example/sekisho/sekisho/registration/Factor"))) :: ws) ({ frames := 1, cells := 1, slots := 2, locals := 14 } : Room)) (fun a U => a = #[] ∧ Z.Warmed39 U.vm ∧ U.heap = h0) (fun _ _ _ _ _ => True) (fun _ U o U' => ∃ v L, o = .returned v ∧ Q10 Z va cl h0 n0 v U'.heap L ∧ FrameEnd U o U' L ({ frames := 1, cells := 1, slots := 2, locals := 14 } : Room).cells ({ frames := 1, cells := 1, slots := 2, locals := 14 } : Room).slots) := by
  refine MetFree.of_bodySF (plainFor_of_name pn_10) hisR ?_
  intro p e s m args below meth c s₁ Bd hml0 hP hK
  obtain ⟨rfl, hZ, hh⟩ := hP
  have hx := Bd.exec
  have hby := Bd.bytes
  have hml : c.maxLocals = 0 := hml0
  have hown : s.vm.findClass "com/example/sekisho/sekisho/registration/Factor" = some m.cls := findClass_of_methodNamed Bd.named
  have hnm := (name_of_methodNamed Bd.named Bd.method).1
  have X0 : Stand p l e ({ frames := 1, cells := 1, slots := 2, locals := 14 } : Room) s m #[] below meth c s₁ [] 0 0 := Stand.of_body Bd
  have e0 : s₁.heap = h0 := by rw [← hh, Bd.state]; rfl
  have N0 := Fr.nil n0
  have pre0 : ∀ t, Steps p.tables e below (s₁.setTop (mkF m 0 #[] [])) t → Steps p.tables e below (s₁.setTop (entryFrame m #[] 0)) t := fun t k => castTop (ef_10 m ) k
  have KK0 := Keep.refl h0 []
  obtain ⟨T1, X1, e1, st1⟩ := getS2 X0 hx hZ hown (host := "") (Or.inl (hw _ (List.mem_of_getElem? (i := 44) rfl))) Via.refl e0 SV (g := (mkF m 0 #[] [])) rfl (hb hby d10_0)
  obtain ⟨T2, h2, X2, e2, E2, Ac2, Ec2, st2⟩ := cloneA X1 hx hZ hown (hw _ (List.mem_of_getElem? (i := 46) rfl)) (hw _ (List.mem_of_getElem? (i := 47) rfl)) (hw _ (List.mem_of_getElem? (i := 51) rfl)) (hw _ (List.mem_of_getElem? (i := 49) rfl)) (hw _ (List.mem_of_getElem? (i := 50) rfl)) (hw _ (List.mem_of_getElem? (i := 52) rfl)) e1 Ar Eva Fc (g := (mkF m 3 #[] [(.ref va)])) rfl (by rw [hml]; rfl) (rest := []) rfl (hb hby d10_3) (by decide) (W := 0) (cap := 2) (by show 2 * 0 + _ ≤ _; exact Nat.le_of_eq rfl) (by decide) (Nat.le_of_eq Sz) (by decide) (by decide)
  obtain ⟨b2, g2⟩ : ∃ z, z = h0.size := ⟨_, rfl⟩
  rw [← g2] at Ac2 Ec2 st2
  have g_b2 : n0 ≤ b2 := Nat.le_trans Z0 (Nat.le_of_eq g2.symm)
  have sz_b2 := Nat.le_trans KK0.1 (Nat.le_of_eq g2.symm)
  have S_com_example_sekisho_sekisho_registration_Factor__VALUES_2 := SV.ext E2
  have Zs3 := Nat.le_trans Z0 E2.1
  have Kk2 := KK0.ext E2
  obtain ⟨T4, X4, e4, st4⟩ := castY X2 hx hZ hown (hw _ (List.mem_of_getElem? (i := 56) rfl)) e2 (Ins.self Ec2) (g := (mkF m 6 #[] [(.ref b2)])) rfl rfl (hb hby d10_6)
  obtain ⟨fs, hr, hrun, hended, hW, hsame⟩ := X4.leave (v := some (.ref b2)) (fun h => by rw [Bd.returns] at h; cases h)
  refine ⟨_, _, pre0 _ ?_, hrun, hended, _, _, rfl, ?_, ⟨_, rfl⟩, hW, hsame.mono (by decide) (by decide)⟩
  · show Steps p.tables e below (s₁.setTop (mkF m 0 #[] [])) _
    refine st1 _ ?_
    show Steps p.tables e below (T1.setTop (mkF m 3 #[] [(.ref va)])) _
    refine st2 _ ?_
    show Steps p.tables e below (T2.setTop (mkF m 6 #[] [(.ref b2)])) _
    refine st4 _ ?_
    show Steps p.tables e below (T4.setTop (mkF m 9 #[] [(.ref b2)])) _
    exact retOut X4 hx Bd.returns rfl (Or.inr (Or.inr (Or.inr (Or.inr ⟨rfl, rfl, rfl⟩)))) (hb hby d10_9) hr
  · show Q10 Z va cl h0 n0 _ T4.heap _
    rw [e4]
    exact ⟨_, rfl, N0, Kk2, Ac2⟩
def Q14 (Z : State) (a1 a2 : Addr) (h0 : Heap) (n0 : Nat) (v : Option Value) (h : Heap) (L : List Loc) : Prop := v = none ∧ Fr n0 L ∧ Keep h0 h [a1] ∧ Exa Z h a1 "java/util/Optional" ∧ Fld Z h a1 "java/util/Optional" "value" "Ljava/lang/Object;" (.ref a2)
set_option maxRecDepth 65536 in
set_option maxHeartbeats 40000000 in
theorem rm14 (l : Launch) (Z : State) (a0 : Array Value) (hw : ∀ d ∈ tables_1, d.before a0 Z = true) (ws : List Jvm.Cond) (a1 a2 : Addr) (h0 : Heap) (n0 : Nat) (Z0 : n0 ≤ h0.size) (F1 : Fld Z h0 a1 "java/util/Optional" "value" "Ljava/lang/Object;" .null) (E1 : Exa Z h0 a1 "java/util/Optional") (g1 : n0 ≤ a1) :
    MetFree l (⟨"java/util/Optional", "<init>", "(Ljava/lang/Object;)V"⟩ : MethodName) (head1 (Jvm.Cond.code (⟨"java/util/Optional", "<init>", "(Ljava/lang/Object;)V"⟩ : MethodName) jdk_32_method_2_code 2 none :: ws) ({ frames := 1, cells := 0, slots := 0, locals := 12 } : Room)) (fun a U => a = #[(.ref a1), (.ref a2)] ∧ Z.Warmed39 U.vm ∧ U.heap = h0) (fun _ _ _ _ _ => True) (fun _ U o U' => ∃ v L, o = .returned v ∧ Q14 Z a1 a2 h0 n0 v U'.heap L ∧ FrameEnd U o U' L ({ frames := 1, cells := 0, slots := 0, locals := 12 } : Room).cells ({ frames := 1, cells := 0, slots := 0, locals := 12 } : Room).slots) := by
  refine MetFree.of_bodySF (plainFor_of_name pn_14) hisR ?_
  intro p e s m args below meth c s₁ Bd hml0 hP hK
  obtain ⟨rfl, hZ, hh⟩ := hP
  have hx := Bd.exec
  have hby := Bd.bytes
  have hml : c.maxLocals = 2 := hml0
  have hown : s.vm.findClass "java/util/Optional" = some m.cls := findClass_of_methodNamed Bd.named
  have hnm := (name_of_methodNamed Bd.named Bd.method).1
  have X0 : Stand p l e ({ frames := 1, cells := 0, slots := 0, locals := 12 } : Room) s m #[(.ref a1), (.ref a2)] below meth c s₁ [] 0 0 := Stand.of_body Bd
  have e0 : s₁.heap = h0 := by rw [← hh, Bd.state]; rfl
  have N0 := Fr.nil n0
  have pre0 : ∀ t, Steps p.tables e below (s₁.setTop (mkF m 0 #[.val (.ref a1), .val (.ref a2)] [])) t → Steps p.tables e below (s₁.setTop (entryFrame m #[(.ref a1), (.ref a2)] 2)) t := fun t k => castTop (ef_14 m a1 a2) k
  have KK0 := Keep.refl h0 [a1]
  obtain ⟨T1, X1, e1, st1⟩ := initO X0 hx hZ hown (hw _ (List.mem_of_getElem? (i := 80) rfl)) (hw _ (List.mem_of_getElem? (i := 19) rfl)) (hw _ (List.mem_of_getElem? (i := 20) rfl)) e0 (g := (mkF m 1 #[.val (.ref a1), .val (.ref a2)] [(.ref a1)])) rfl (by rw [hml]; rfl) rfl (hb hby d14_1) (by decide) (W := 0) (by show 2 * 0 + _ ≤ _; exact Nat.le_of_eq rfl) (by decide)
  obtain ⟨T2, h2, X2, e2, W2, st2⟩ := putF X1 hx hZ hown (host := "") (Or.inl (hw _ (List.mem_of_getElem? (i := 81) rfl))) Via.refl e1 F1 E1 (Or.inr ⟨(hw _ (List.mem_of_getElem? (i := 82) rfl)), rfl, hnm⟩) (hw _ (List.mem_of_getElem? (i := 75) rfl)) (ty := (.object "java/lang/Object")) (by decide) rfl rfl (g := (mkF m 6 #[.val (.ref a1), .val (.ref a2)] [(.ref a2), (.ref a1)])) rfl rfl (hb hby d14_6)
  have N2 := Fr.snoc X2 N0 g1
  have Fw2 := Fld.same W2 F1
  have E_a1_2 := E1.wr W2
  have Zs3 := Nat.le_trans Z0 (Keep.of_wr W2).1
  have Kk2 := KK0.wr W2 (Or.inl (List.mem_of_getElem? (i := 0) rfl))
  obtain ⟨fs, hr, hrun, hended, hW, hsame⟩ := X2.leave (v := none) (fun _ => rfl)
  refine ⟨_, _, pre0 _ ?_, hrun, hended, _, _, rfl, ?_, ⟨_, rfl⟩, hW, hsame.mono (by decide) (by decide)⟩
  · show Steps p.tables e below (s₁.setTop (mkF m 0 #[.val (.ref a1), .val (.ref a2)] [])) _
    refine XS.aloadN X0.here hx rfl (hb hby d14_0) rfl rfl ?_
    show Steps p.tables e below (s₁.setTop (mkF m 1 #[.val (.ref a1), .val (.ref a2)] [(.ref a1)])) _
    refine st1 _ ?_
    show Steps p.tables e below (T1.setTop (mkF m 4 #[.val (.ref a1), .val (.ref a2)] [])) _
    refine XS.aloadN X1.here hx rfl (hb hby d14_4) rfl rfl ?_
    show Steps p.tables e below (T1.setTop (mkF m 5 #[.val (.ref a1), .val (.ref a2)] [(.ref a1)])) _
    refine XS.aloadN X1.here hx rfl (hb hby d14_5) rfl rfl ?_
    show Steps p.tables e below (T1.setTop (mkF m 6 #[.val (.ref a1), .val (.ref a2)] [(.ref a2), (.ref a1)])) _
    refine st2 _ ?_
    show Steps p.tables e below (T2.setTop (mkF m 9 #[.val (.ref a1), .val (.ref a2)] [])) _
    exact X2.returnOut hx Bd.returns (hb hby d14_9) hr
  · show Q14 Z a1 a2 h0 n0 _ T2.heap _
    rw [e2]
    exact ⟨rfl, N2, Kk2, E_a1_2, Fw2⟩
def Q13n (Z : State) (em : Addr) (h0 : Heap) (n0 : Nat) (v : Option Value) (h : Heap) (L : List Loc) : Prop := v = some (.ref em) ∧ Fr n0 L ∧ h = h0
set_option maxRecDepth 65536 in
set_option maxHeartbeats 40000000 in
theorem rm13n (l : Launch) (Z : State) (a0 : Array Value) (hw : ∀ d ∈ tables_1, d.before a0 Z = true) (ws : List Jvm.Cond) (em : Addr) (h0 : Heap) (n0 : Nat) (Z0 : n0 ≤ h0.size) (S1 : Sta Z h0 "java/util/Optional" "EMPTY" "Ljava/util/Optional;" (.ref em)) :
    MetFree l (⟨"java/util/Optional", "ofNullable", "(Ljava/lang/Object;)Ljava/util/Optional;"⟩ : MethodName) (head1 (Jvm.Cond.code (⟨"java/util/Optional", "ofNullable", "(Ljava/lang/Object;)Ljava/util/Optional;"⟩ : MethodName) jdk_32_method_4_code 1 (some (.object "java/util/Optional")) :: ws) ({ frames := 0, cells := 0, slots := 0, locals := 0 } : Room)) (fun a U => a = #[.null] ∧ Z.Warmed39 U.vm ∧ U.heap = h0) (fun _ _ _ _ _ => True) (fun _ U o U' => ∃ v L, o = .returned v ∧ Q13n Z em h0 n0 v U'.heap L ∧ FrameEnd U o U' L ({ frames := 0, cells := 0, slots := 0, locals := 0 } : Room).cells ({ frames := 0, cells := 0, slots := 0, locals := 0 } : Room).slots) := by
  refine MetFree.of_bodySF (plainFor_of_name pn_13) hisR ?_
  intro p e s m args below meth c s₁ Bd hml0 hP hK
  obtain ⟨rfl, hZ, hh⟩ := hP
  have hx := Bd.exec
  have hby := Bd.bytes
  have hml : c.maxLocals = 1 := hml0
  have hown : s.vm.findClass "java/util/Optional" = some m.cls := findClass_of_methodNamed Bd.named
  have hnm := (name_of_methodNamed Bd.named Bd.method).1
  have X0 : Stand p l e ({ frames := 0, cells := 0, slots := 0, locals := 0 } : Room) s m #[.null] below meth c s₁ [] 0 0 := Stand.of_body Bd
  have e0 : s₁.heap = h0 := by rw [← hh, Bd.state]; rfl
  have N0 := Fr.nil n0
  have pre0 : ∀ t, Steps p.tables e below (s₁.setTop (mkF m 0 #[.val .null] [])) t → Steps p.tables e below (s₁.setTop (entryFrame m #[.null] 1)) t := fun t k => castTop (ef_13n m ) k
  obtain ⟨T1, X1, e1, st1⟩ := getS2 X0 hx hZ hown (host := "") (Or.inl (hw _ (List.mem_of_getElem? (i := 100) rfl))) Via.refl e0 S1 (g := (mkF m 4 #[.val .null] [])) rfl (hb hby d13_4)
  obtain ⟨fs, hr, hrun, hended, hW, hsame⟩ := X1.leave (v := some (.ref em)) (fun h => by rw [Bd.returns] at h; cases h)
  refine ⟨_, _, pre0 _ ?_, hrun, hended, _, _, rfl, ?_, ⟨_, rfl⟩, hW, hsame.mono (by decide) (by decide)⟩
  · show Steps p.tables e below (s₁.setTop (mkF m 0 #[.val .null] [])) _
    refine XS.aloadN X0.here hx rfl (hb hby d13_0) rfl rfl ?_
    show Steps p.tables e below (s₁.setTop (mkF m 1 #[.val .null] [.null])) _
    refine XS.ifnonnullNo X0.here hx rfl (hb hby d13_1) rfl ?_
    show Steps p.tables e below (s₁.setTop (mkF m 4 #[.val .null] [])) _
    refine st1 _ ?_
    show Steps p.tables e below (T1.setTop (mkF m 7 #[.val .null] [(.ref em)])) _
    refine XS.goto X1.here hx rfl (pc0 := 7) (pc' := 18) rfl (hb hby d13_7) (by decide) (by decide) ?_
    show Steps p.tables e below (T1.setTop (mkF m 18 #[.val .null] [(.ref em)])) _
    exact retOut X1 hx Bd.returns rfl (Or.inr (Or.inr (Or.inr (Or.inr ⟨rfl, rfl, rfl⟩)))) (hb hby d13_18) hr
  · show Q13n Z em h0 n0 _ T1.heap _
    rw [e1]
    exact ⟨rfl, N0, rfl⟩
def Q13r (Z : State) (a1 : Addr) (h0 : Heap) (n0 : Nat) (v : Option Value) (h : Heap) (L : List Loc) : Prop := ∃ o : Addr, v = some (.ref o) ∧ Fr n0 L ∧ Keep h0 h [] ∧ Exa Z h o "java/util/Optional" ∧ Fld Z h o "java/util/Optional" "value" "Ljava/lang/Object;" (.ref a1)
set_option maxRecDepth 65536 in
set_option maxHeartbeats 40000000 in
theorem rm13r (l : Launch) (Z : State) (a0 : Array Value) (hw : ∀ d ∈ tables_1, d.before a0 Z = true) (ws : List Jvm.Cond) (a1 : Addr) (h0 : Heap) (n0 : Nat) (Z0 : n0 ≤ h0.size) :
    MetFree l (⟨"java/util/Optional", "ofNullable", "(Ljava/lang/Object;)Ljava/util/Optional;"⟩ : MethodName) (head1 (Jvm.Cond.code (⟨"java/util/Optional", "ofNullable", "(Ljava/lang/Object;)Ljava/util/Optional;"⟩ : MethodName) jdk_32_method_4_code 1 (some (.object "java/util/Optional")) :: ws) ({ frames := 2, cells := 1, slots := 1, locals := 26 } : Room)) (fun a U => a = #[(.ref a1)] ∧ Z.Warmed39 U.vm ∧ U.heap = h0) (fun _ _ _ _ _ => True) (fun _ U o U' => ∃ v L, o = .returned v ∧ Q13r Z a1 h0 n0 v U'.heap L ∧ FrameEnd U o U' L ({ frames := 2, cells := 1, slots := 1, locals := 26 } : Room).cells ({ frames := 2, cells := 1, slots := 1, locals := 26 } : Room).slots) := by
  refine MetFree.of_bodySF (plainFor_of_name pn_13) hisR ?_
  intro p e s m args below meth c s₁ Bd hml0 hP hK
  obtain ⟨rfl, hZ, hh⟩ := hP
  have hx := Bd.exec
  have hby := Bd.bytes
  have hml : c.maxLocals = 1 := hml0
  have hown : s.vm.findClass "java/util/Optional" = some m.cls := findClass_of_methodNamed Bd.named
  have hnm := (name_of_methodNamed Bd.named Bd.method).1
  have X0 : Stand p l e ({ frames := 2, cells := 1, slots := 1, locals := 26 } : Room) s m #[(.ref a1)] below meth c s₁ [] 0 0 := Stand.of_body Bd
  have e0 : s₁.heap = h0 := by rw [← hh, Bd.state]; rfl
  have N0 := Fr.nil n0
  have pre0 : ∀ t, Steps p.tables e below (s₁.setTop (mkF m 0 #[.val (.ref a1)] [])) t → Steps p.tables e below (s₁.setTop (entryFrame m #[(.ref a1)] 1)) t := fun t k => castTop (ef_13 m a1) k
  have KK0 := Keep.refl h0 []
  obtain ⟨T1, h1, X1, e1, E1, A1, D1, -, st1⟩ := newO X0 hx hZ hown (hw _ (List.mem_of_getElem? (i := 74) rfl)) (hw _ (List.mem_of_getElem? (i := 75) rfl)) (hw _ (List.mem_of_getElem? (i := 72) rfl)) e0 (g := (mkF m 10 #[.val (.ref a1)] [])) rfl (hb hby d13_10) (by decide) (by decide)
  obtain ⟨b1, g1⟩ : ∃ z, z = h0.size := ⟨_, rfl⟩
  rw [← g1] at A1 D1 st1
  have g_b1 : n0 ≤ b1 := Nat.le_trans Z0 (Nat.le_of_eq g1.symm)
  have sz_b1 := Nat.le_trans KK0.1 (Nat.le_of_eq g1.symm)
  have Zs2 := Nat.le_trans Z0 E1.1
  have Kk1 := KK0.ext E1
  have F_value_b1 : Fld Z h1 b1 "java/util/Optional" "value" "Ljava/lang/Object;" .null := D1 (Or.inr (hw _ (List.mem_of_getElem? (i := 82) rfl))) (ty := (.object "java/lang/Object")) (by decide)
  obtain ⟨_, _, ⟨T3, L3, k3, n3⟩, -, X3, ⟨Lc3, hQ3, l3, y3, z3⟩, st3⟩ := X1.specialBack hx (y := (⟨"java/util/Optional", "<init>", "(Ljava/lang/Object;)V"⟩ : MethodName)) rfl hown (mvT hZ (hw _ (List.mem_of_getElem? (i := 76) rfl))) (mvT hZ (hw _ (List.mem_of_getElem? (i := 77) rfl))) (mvT hZ (hw _ (List.mem_of_getElem? (i := 79) rfl))) (by decide) (backOf (W := 1) (rm14 l Z a0 hw [] b1 a1 h1 n0 Zs2 F_value_b1 A1 g_b1) hZ (hw _ (List.mem_of_getElem? (i := 79) rfl)) (hw _ (List.mem_of_getElem? (i := 72) rfl)) (by decide) (by decide)) (g := (mkF m 15 #[.val (.ref a1)] [(.ref a1), (.ref b1), (.ref b1)])) rfl (by rw [hml]; rfl) (Steps.refl _) (a := b1) (argsL := [(.ref a1)]) (rest := [(.ref b1)]) (lenOf pd_0 rfl) rfl (by show 2 * 0 + _ ≤ _; exact Nat.le_of_eq rfl) (hb hby d13_15) (fun _ _ => ⟨rfl, e1, (by decide : 1 + 0 ≤ _), (by decide : 1 + 0 ≤ _)⟩)
  dsimp only [Pt.U, Pt.locs, Pt.cells, Pt.slots] at X3 l3 y3 z3 st3 hQ3
  subst l3 y3 z3
  obtain ⟨rfl, N3q, K3q, E3q, Fv3q⟩ := hQ3
  have N3 := Fr.app N0 N3q
  have E_b1_3 := A1.keep K3q
  have Zs4 := Nat.le_trans Zs2 K3q.1
  have Kk3 := Kk1.trans K3q (allS (Or.inr sz_b1) all0)
  obtain ⟨fs, hr, hrun, hended, hW, hsame⟩ := X3.leave (v := some (.ref b1)) (fun h => by rw [Bd.returns] at h; cases h)
  refine ⟨_, _, pre0 _ ?_, hrun, hended, _, _, rfl, ?_, ⟨_, rfl⟩, hW, hsame.mono (by decide) (by decide)⟩
  · show Steps p.tables e below (s₁.setTop (mkF m 0 #[.val (.ref a1)] [])) _
    refine XS.aloadN X0.here hx rfl (hb hby d13_0) rfl rfl ?_
    show Steps p.tables e below (s₁.setTop (mkF m 1 #[.val (.ref a1)] [(.ref a1)])) _
    refine XS.ifnonnullYes X0.here hx rfl (pc0 := 1) (pc' := 10) rfl (hb hby d13_1) rfl (by decide) (by decide) ?_
    show Steps p.tables e below (s₁.setTop (mkF m 10 #[.val (.ref a1)] [])) _
    refine st1 _ ?_
    show Steps p.tables e below (T1.setTop (mkF m 13 #[.val (.ref a1)] [(.ref b1)])) _
    refine XS.dup X1.here hx rfl (hb hby d13_13) rfl rfl ?_
    show Steps p.tables e below (T1.setTop (mkF m 14 #[.val (.ref a1)] [(.ref b1), (.ref b1)])) _
    refine XS.aloadN X1.here hx rfl (hb hby d13_14) rfl rfl ?_
    show Steps p.tables e below (T1.setTop (mkF m 15 #[.val (.ref a1)] [(.ref a1), (.ref b1), (.ref b1)])) _
    refine st3.trans ?_
    show Steps p.tables e below (T3.setTop (mkF m 18 #[.val (.ref a1)] [(.ref b1)])) _
    exact retOut X3 hx Bd.returns rfl (Or.inr (Or.inr (Or.inr (Or.inr ⟨rfl, rfl, rfl⟩)))) (hb hby d13_18) hr
  · show Q13r Z a1 h0 n0 _ T3.heap _
    exact ⟨_, rfl, N3, Kk3, E3q, Fv3q⟩
def Q15n (Z : State) (a1 : Addr) (h0 : Heap) (n0 : Nat) (v : Option Value) (h : Heap) (L : List Loc) : Prop := v = some .null ∧ Fr n0 L ∧ h = h0
set_option maxRecDepth 65536 in
set_option maxHeartbeats 40000000 in
theorem rm15n (l : Launch) (Z : State) (a0 : Array Value) (hw : ∀ d ∈ tables_1, d.before a0 Z = true) (ws : List Jvm.Cond) (a1 : Addr) (h0 : Heap) (n0 : Nat) (Z0 : n0 ≤ h0.size) (F1 : Fld Z h0 a1 "java/util/Optional" "value" "Ljava/lang/Object;" .null) :
    MetFree l (⟨"java/util/Optional", "orElse", "(Ljava/lang/Object;)Ljava/lang/Object;"⟩ : MethodName) (head1 (Jvm.Cond.code (⟨"java/util/Optional", "orElse", "(Ljava/lang/Object;)Ljava/lang/Object;"⟩ : MethodName) jdk_32_method_15_code 2 (some (.object "java/lang/Object")) :: ws) ({ frames := 0, cells := 0, slots := 0, locals := 0 } : Room)) (fun a U => a = #[(.ref a1), .null] ∧ Z.Warmed39 U.vm ∧ U.heap = h0) (fun _ _ _ _ _ => True) (fun _ U o U' => ∃ v L, o = .returned v ∧ Q15n Z a1 h0 n0 v U'.heap L ∧ FrameEnd U o U' L ({ frames := 0, cells := 0, slots := 0, locals := 0 } : Room).cells ({ frames := 0, cells := 0, slots := 0, locals := 0 } : Room).slots) := by
  refine MetFree.of_bodySF (plainFor_of_name pn_15) hisR ?_
  intro p e s m args below meth c s₁ Bd hml0 hP hK
  obtain ⟨rfl, hZ, hh⟩ := hP
  have hx := Bd.exec
  have hby := Bd.bytes
  have hml : c.maxLocals = 2 := hml0
  have hown : s.vm.findClass "java/util/Optional" = some m.cls := findClass_of_methodNamed Bd.named
  have hnm := (name_of_methodNamed Bd.named Bd.method).1
  have X0 : Stand p l e ({ frames := 0, cells := 0, slots := 0, locals := 0 } : Room) s m #[(.ref a1), .null] below meth c s₁ [] 0 0 := Stand.of_body Bd
  have e0 : s₁.heap = h0 := by rw [← hh, Bd.state]; rfl
  have N0 := Fr.nil n0
  have pre0 : ∀ t, Steps p.tables e below (s₁.setTop (mkF m 0 #[.val (.ref a1), .val .null] [])) t → Steps p.tables e below (s₁.setTop (entryFrame m #[(.ref a1), .null] 2)) t := fun t k => castTop (ef_15n m a1) k
  obtain ⟨T1, X1, e1, st1⟩ := getF X0 hx hZ hown (host := "") (Or.inl (hw _ (List.mem_of_getElem? (i := 81) rfl))) Via.refl e0 F1 (g := (mkF m 1 #[.val (.ref a1), .val .null] [(.ref a1)])) rfl rfl (hb hby d15_1)
  obtain ⟨fs, hr, hrun, hended, hW, hsame⟩ := X1.leave (v := some .null) (fun h => by rw [Bd.returns] at h; cases h)
  refine ⟨_, _, pre0 _ ?_, hrun, hended, _, _, rfl, ?_, ⟨_, rfl⟩, hW, hsame.mono (by decide) (by decide)⟩
  · show Steps p.tables e below (s₁.setTop (mkF m 0 #[.val (.ref a1), .val .null] [])) _
    refine XS.aloadN X0.here hx rfl (hb hby d15_0) rfl rfl ?_
    show Steps p.tables e below (s₁.setTop (mkF m 1 #[.val (.ref a1), .val .null] [(.ref a1)])) _
    refine st1 _ ?_
    show Steps p.tables e below (T1.setTop (mkF m 4 #[.val (.ref a1), .val .null] [.null])) _
    refine XS.ifnullYes X1.here hx rfl (pc0 := 4) (pc' := 14) rfl (hb hby d15_4) rfl (by decide) (by decide) ?_
    show Steps p.tables e below (T1.setTop (mkF m 14 #[.val (.ref a1), .val .null] [])) _
    refine XS.aloadN X1.here hx rfl (hb hby d15_14) rfl rfl ?_
    show Steps p.tables e below (T1.setTop (mkF m 15 #[.val (.ref a1), .val .null] [.null])) _
    exact retOut X1 hx Bd.returns rfl (Or.inr (Or.inr (Or.inr (Or.inr ⟨rfl, rfl, rfl⟩)))) (hb hby d15_15) hr
  · show Q15n Z a1 h0 n0 _ T1.heap _
    rw [e1]
    exact ⟨rfl, N0, rfl⟩
def Q15r (Z : State) (a1 a2 : Addr) (h0 : Heap) (n0 : Nat) (v : Option Value) (h : Heap) (L : List Loc) : Prop := v = some (.ref a2) ∧ Fr n0 L ∧ h = h0
set_option maxRecDepth 65536 in
set_option maxHeartbeats 40000000 in
theorem rm15r (l : Launch) (Z : State) (a0 : Array Value) (hw : ∀ d ∈ tables_1, d.before a0 Z = true) (ws : List Jvm.Cond) (a1 a2 : Addr) (h0 : Heap) (n0 : Nat) (Z0 : n0 ≤ h0.size) (F1 : Fld Z h0 a1 "java/util/Optional" "value" "Ljava/lang/Object;" (.ref a2)) :
    MetFree l (⟨"java/util/Optional", "orElse", "(Ljava/lang/Object;)Ljava/lang/Object;"⟩ : MethodName) (head1 (Jvm.Cond.code (⟨"java/util/Optional", "orElse", "(Ljava/lang/Object;)Ljava/lang/Object;"⟩ : MethodName) jdk_32_method_15_code 2 (some (.object "java/lang/Object")) :: ws) ({ frames := 0, cells := 0, slots := 0, locals := 0 } : Room)) (fun a U => a = #[(.ref a1), .null] ∧ Z.Warmed39 U.vm ∧ U.heap = h0) (fun _ _ _ _ _ => True) (fun _ U o U' => ∃ v L, o = .returned v ∧ Q15r Z a1 a2 h0 n0 v U'.heap L ∧ FrameEnd U o U' L ({ frames := 0, cells := 0, slots := 0, locals := 0 } : Room).cells ({ frames := 0, cells := 0, slots := 0, locals := 0 } : Room).slots) := by
  refine MetFree.of_bodySF (plainFor_of_name pn_15) hisR ?_
  intro p e s m args below meth c s₁ Bd hml0 hP hK
  obtain ⟨rfl, hZ, hh⟩ := hP
  have hx := Bd.exec
  have hby := Bd.bytes
  have hml : c.maxLocals = 2 := hml0
  have hown : s.vm.findClass "java/util/Optional" = some m.cls := findClass_of_methodNamed Bd.named
  have hnm := (name_of_methodNamed Bd.named Bd.method).1
  have X0 : Stand p l e ({ frames := 0, cells := 0, slots := 0, locals := 0 } : Room) s m #[(.ref a1), .null] below meth c s₁ [] 0 0 := Stand.of_body Bd
  have e0 : s₁.heap = h0 := by rw [← hh, Bd.state]; rfl
  have N0 := Fr.nil n0
  have pre0 : ∀ t, Steps p.tables e below (s₁.setTop (mkF m 0 #[.val (.ref a1), .val .null] [])) t → Steps p.tables e below (s₁.setTop (entryFrame m #[(.ref a1), .null] 2)) t := fun t k => castTop (ef_15n m a1) k
  obtain ⟨T1, X1, e1, st1⟩ := getF X0 hx hZ hown (host := "") (Or.inl (hw _ (List.mem_of_getElem? (i := 81) rfl))) Via.refl e0 F1 (g := (mkF m 1 #[.val (.ref a1), .val .null] [(.ref a1)])) rfl rfl (hb hby d15_1)
  obtain ⟨T2, X2, e2, st2⟩ := getF X1 hx hZ hown (host := "") (Or.inl (hw _ (List.mem_of_getElem? (i := 81) rfl))) Via.refl e1 F1 (g := (mkF m 8 #[.val (.ref a1), .val .null] [(.ref a1)])) rfl rfl (hb hby d15_8)
  obtain ⟨fs, hr, hrun, hended, hW, hsame⟩ := X2.leave (v := some (.ref a2)) (fun h => by rw [Bd.returns] at h; cases h)
  refine ⟨_, _, pre0 _ ?_, hrun, hended, _, _, rfl, ?_, ⟨_, rfl⟩, hW, hsame.mono (by decide) (by decide)⟩
  · show Steps p.tables e below (s₁.setTop (mkF m 0 #[.val (.ref a1), .val .null] [])) _
    refine XS.aloadN X0.here hx rfl (hb hby d15_0) rfl rfl ?_
    show Steps p.tables e below (s₁.setTop (mkF m 1 #[.val (.ref a1), .val .null] [(.ref a1)])) _
    refine st1 _ ?_
    show Steps p.tables e below (T1.setTop (mkF m 4 #[.val (.ref a1), .val .null] [(.ref a2)])) _
    refine XS.ifnullNo X1.here hx rfl (hb hby d15_4) rfl ?_
    show Steps p.tables e below (T1.setTop (mkF m 7 #[.val (.ref a1), .val .null] [])) _
    refine XS.aloadN X1.here hx rfl (hb hby d15_7) rfl rfl ?_
    show Steps p.tables e below (T1.setTop (mkF m 8 #[.val (.ref a1), .val .null] [(.ref a1)])) _
    refine st2 _ ?_
    show Steps p.tables e below (T2.setTop (mkF m 11 #[.val (.ref a1), .val .null] [(.ref a2)])) _
    refine XS.goto X2.here hx rfl (pc0 := 11) (pc' := 15) rfl (hb hby d15_11) (by decide) (by decide) ?_
    show Steps p.tables e below (T2.setTop (mkF m 15 #[.val (.ref a1), .val .null] [(.ref a2)])) _
    exact retOut X2 hx Bd.returns rfl (Or.inr (Or.inr (Or.inr (Or.inr ⟨rfl, rfl, rfl⟩)))) (hb hby d15_15) hr
  · show Q15r Z a1 a2 h0 n0 _ T2.heap _
    rw [e2]
    exact ⟨rfl, N0, rfl⟩
def Q9x0 (Z : State) (a1 : Addr) (va : Addr) (cl : Cell) (t0 t1 k0 k1 : Addr) (em : Addr) (G1 : Int32) (cs : List Int32) (h0 : Heap) (n0 : Nat) (v : Option Value) (h : Heap) (L : List Loc) : Prop := ∃ o : Addr, v = some (.ref o) ∧ Fr n0 L ∧ Keep h0 h [] ∧ Exa Z h o "java/util/Optional" ∧ Fld Z h o "java/util/Optional" "value" "Ljava/lang/Object;" (.ref t0)
set_option maxRecDepth 65536 in
set_option maxHeartbeats 40000000 in
theorem rm9x0 (l : Launch) (Z : State) (a0 : Array Value) (hw : ∀ d ∈ tables_1, d.before a0 Z = true) (ws : List Jvm.Cond) (a1 : Addr) (va : Addr) (cl : Cell) (t0 t1 k0 k1 : Addr) (em : Addr) (G1 : Int32) (cs : List Int32) (h0 : Heap) (n0 : Nat) (Z0 : n0 ≤ h0.size) (SV : Sta Z h0 "com/example/sekisho/sekisho/registration/Factor" "$VALUES" "[Lcom/example/sekisho/sekisho/registration/Factor;" (.ref va)) (Ar : Arr Z h0 va cl (.object "com/example/sekisho/sekisho/registration/Factor")) (Eva : Exa Z h0 va "[Lcom/example/sekisho/sekisho/registration/Factor;") (Fc : FitC Z cl) (Sz : cl.slots.size = 2) (hs0 : cl.slots[0]? = some (.ref t0)) (hs1 : cl.slots[1]? = some (.ref t1)) (Fk0 : Fld Z h0 t0 "com/example/sekisho/sekisho/registration/Factor" "key" "Ljava/lang/String;" (.ref k0)) (Fk1 : Fld Z h0 t1 "com/example/sekisho/sekisho/registration/Factor" "key" "Ljava/lang/String;" (.ref k1)) (Y0 : own_str Z h0 k0 own_k0) (Y1 : own_str Z h0 k1 own_k1) (SE : Sta Z h0 "java/util/Optional" "EMPTY" "Ljava/util/Optional;" (.ref em)) (EE : Exa Z h0 em "java/util/Optional") (FE : Fld Z h0 em "java/util/Optional" "value" "Ljava/lang/Object;" .null) (S1 : Sta Z h0 "java/lang/String" "COMPACT_STRINGS" "Z" (.int G1)) (P5 : ¬ (G1 = (0 : Int32))) (Ys : own_str Z h0 a1 cs) (hy : own_k0 = cs) :
    MetFree l (⟨"com/example/sekisho/sekisho/registration/Factor", "ofKey", "(Ljava/lang/String;)Ljava/util/Optional;"⟩ : MethodName) (head1 (Jvm.Cond.code (⟨"com/example/sekisho/sekisho/registration/Factor", "ofKey", "(Ljava/lang/String;)Ljava/util/Optional;"⟩ : MethodName) prog_12_method_6_code 6 (some (.object "java/util/Optional")) :: ws) ({ frames := 4, cells := 2, slots := 3, locals := 60 } : Room)) (fun a U => a = #[(.ref a1)] ∧ Z.Warmed39 U.vm ∧ U.heap = h0) (fun _ _ _ _ _ => True) (fun _ U o U' => ∃ v L, o = .returned v ∧ Q9x0 Z a1 va cl t0 t1 k0 k1 em G1 cs h0 n0 v U'.heap L ∧ FrameEnd U o U' L ({ frames := 4, cells := 2, slots := 3, locals := 60 } : Room).cells ({ frames := 4, cells := 2, slots := 3, locals := 60 } : Room).slots) := by
  refine MetFree.of_bodySF (plainFor_of_name pn_9) hisR ?_
  intro p e s m args below meth c s₁ Bd hml0 hP hK
  obtain ⟨rfl, hZ, hh⟩ := hP
  have hx := Bd.exec
  have hby := Bd.bytes
  have hml : c.maxLocals = 6 := hml0
  have hown : s.vm.findClass "com/example/sekisho/sekisho/registration/Factor" = some m.cls := findClass_of_methodNamed Bd.named
  have hnm := (name_of_methodNamed Bd.named Bd.method).1
  have X0 : Stand p l e ({ frames := 4, cells := 2, slots := 3, locals := 60 } : Room) s m #[(.ref a1)] below meth c s₁ [] 0 0 := Stand.of_body Bd
  have e0 : s₁.heap = h0 := by rw [← hh, Bd.state]; rfl
  have N0 := Fr.nil n0
  have pre0 : ∀ t, Steps p.tables e below (s₁.setTop (mkF m 0 #[.val (.ref a1), .unset, .unset, .unset, .unset, .unset] [])) t → Steps p.tables e below (s₁.setTop (entryFrame m #[(.ref a1)] 6)) t := fun t k => castTop (ef_9 m a1) k
  have KK0 := Keep.refl h0 []
  have heq : ∀ d ∈ StrChars.Road.wordsEq, d.before a0 Z = true := fun d hd => hw d ((by decide +kernel : ∀ d ∈ StrChars.Road.wordsEq, d ∈ tables_1) d hd)
  obtain ⟨_, _, ⟨T1, L1, k1, n1⟩, -, X1, ⟨Lc1, hQ1, l1, y1, z1⟩, st1⟩ := Jvm.LawKit.callS X0 hx (y := (⟨"com/example/sekisho/sekisho/registration/Factor", "values", "()[Lcom/example/sekisho/sekisho/registration/Factor;"⟩ : MethodName)) hown (mvT hZ (hw _ (List.mem_of_getElem? (i := 41) rfl))) (mvT hZ (hw _ (List.mem_of_getElem? (i := 42) rfl))) (mvT hZ (hw _ (List.mem_of_getElem? (i := 39) rfl))) (mvT hZ (hw _ (List.mem_of_getElem? (i := 43) rfl))) (by decide) (backOf (W := 0) (rm10 l Z a0 hw [] va cl h0 n0 Z0 SV Ar Eva Fc Sz) hZ (hw _ (List.mem_of_getElem? (i := 43) rfl)) (hw _ (List.mem_of_getElem? (i := 39) rfl)) (by decide) (by decide)) (g := (mkF m 2 #[.val (.ref a1), .val .null, .unset, .unset, .unset, .unset] [])) rfl (by rw [hml]; rfl) (argsL := []) (rest := []) (lenOf pd_1 rfl) rfl (by show 2 * 0 + _ ≤ _; exact Nat.le_of_eq rfl) (hb hby d9_2) (fun _ _ => ⟨rfl, e0, (by decide : 0 + 1 ≤ _), (by decide : 0 + 2 ≤ _)⟩)
  dsimp only [Pt.U, Pt.locs, Pt.cells, Pt.slots] at X1 l1 y1 z1 st1 hQ1
  subst l1 y1 z1
  obtain ⟨bi, rfl, N1q, K1q, Ab1q⟩ := hQ1
  have N1 := Fr.app N0 N1q
  have S_com_example_sekisho_sekisho_registration_Factor__VALUES_1 := own_sta0 SV K1q
  have E_va_1 := Eva.keep K1q
  have F_t0_key_1 := Fk0.keep K1q nin0
  have Y_k0_1 := Y0.keep0 K1q
  have F_t1_key_1 := Fk1.keep K1q nin0
  have Y_k1_1 := Y1.keep0 K1q
  have S_java_util_Optional_EMPTY_1 := own_sta0 SE K1q
  have E_em_1 := EE.keep K1q
  have F_em_value_1 := FE.keep K1q nin0
  have S_java_lang_String_COMPACT_STRINGS_1 := own_sta0 S1 K1q
  have Y_a1_1 := Ys.keep0 K1q
  have Zs2 := Nat.le_trans Z0 K1q.1
  have Kk1 := KK0.trans K1q all0
  have Szb : (cloneOf cl).slots.size = (2 : Int32).toNatClampNeg := Sz
  have hin0 : ¬ ((0 : Int32) < 0 ∨ (cloneOf cl).slots.size ≤ ((0 : Int32)).toNatClampNeg) := inb_of Szb ⟨by decide, by decide⟩
  have hat0 : (cloneOf cl).slots[((0 : Int32)).toNatClampNeg]? = some (.ref t0) := hs0
  have hin1 : ¬ (((0 : Int32) + (1 : Int32)) < 0 ∨ (cloneOf cl).slots.size ≤ (((0 : Int32) + (1 : Int32))).toNatClampNeg) := inb_of Szb ⟨by decide, by decide⟩
  have hat1 : (cloneOf cl).slots[(((0 : Int32) + (1 : Int32))).toNatClampNeg]? = some (.ref t1) := hs1
  have pre1 : ∀ t, Steps p.tables e below (T1.setTop (mkF m 6 #[.val (.ref a1), .val .null, .val (.ref bi), .unset, .unset, .unset] [])) t → Steps p.tables e below (s₁.setTop (entryFrame m #[(.ref a1)] 6)) t := by
    intro t k
    refine pre0 t ?_
    show Steps p.tables e below (s₁.setTop (mkF m 0 #[.val (.ref a1), .unset, .unset, .unset, .unset, .unset] [])) _
    refine XS.aconstNull X0.here hx rfl (hb hby d9_0) ?_
    show Steps p.tables e below (s₁.setTop (mkF m 1 #[.val (.ref a1), .unset, .unset, .unset, .unset, .unset] [.null])) _
    refine XS.astoreN X0.here hx rfl (hb hby d9_1) rfl rfl (l' := #[.val (.ref a1), .val .null, .unset, .unset, .unset, .unset]) rfl ?_
    show Steps p.tables e below (s₁.setTop (mkF m 2 #[.val (.ref a1), .val .null, .unset, .unset, .unset, .unset] [])) _
    refine st1 _ ?_
    show Steps p.tables e below (T1.setTop (mkF m 5 #[.val (.ref a1), .val .null, .unset, .unset, .unset, .unset] [(.ref bi)])) _
    refine XS.astoreN X1.here hx rfl (hb hby d9_5) rfl rfl (l' := #[.val (.ref a1), .val .null, .val (.ref bi), .unset, .unset, .unset]) rfl ?_
    exact k
  have pre2 : ∀ t, Steps p.tables e below (T1.setTop (mkF m 12 #[.val (.ref a1), .val .null, .val (.ref bi), .val (.int (2 : Int32)), .val (.int (0 : Int32)), .unset] [])) t → Steps p.tables e below (s₁.setTop (entryFrame m #[(.ref a1)] 6)) t := by
    intro t k
    refine pre1 t ?_
    show Steps p.tables e below (T1.setTop (mkF m 6 #[.val (.ref a1), .val .null, .val (.ref bi), .unset, .unset, .unset] [])) _
    refine XS.aloadN X1.here hx rfl (hb hby d9_6) rfl rfl ?_
    show Steps p.tables e below (T1.setTop (mkF m 7 #[.val (.ref a1), .val .null, .val (.ref bi), .unset, .unset, .unset] [(.ref bi)])) _
    refine X1.arraylength hx (by exact Ab1q.1) (State.isArrayOf_alike hZ.alike Ab1q.2.1) (g := (mkF m 7 #[.val (.ref a1), .val .null, .val (.ref bi), .unset, .unset, .unset] [(.ref bi)])) rfl rfl (hb hby d9_7) _ ?_
    rw [len_of Szb (by decide)]
    show Steps p.tables e below (T1.setTop (mkF m 8 #[.val (.ref a1), .val .null, .val (.ref bi), .unset, .unset, .unset] [(.int (2 : Int32))])) _
    refine XS.istoreN X1.here hx rfl (hb hby d9_8) rfl (l' := #[.val (.ref a1), .val .null, .val (.ref bi), .val (.int (2 : Int32)), .unset, .unset]) rfl ?_
    show Steps p.tables e below (T1.setTop (mkF m 9 #[.val (.ref a1), .val .null, .val (.ref bi), .val (.int (2 : Int32)), .unset, .unset] [])) _
    refine XS.iconst X1.here hx rfl (hb hby d9_9) ?_
    show Steps p.tables e below (T1.setTop (mkF m 10 #[.val (.ref a1), .val .null, .val (.ref bi), .val (.int (2 : Int32)), .unset, .unset] [(.int (0 : Int32))])) _
    refine XS.istore X1.here hx rfl (hb hby d9_10) rfl (l' := #[.val (.ref a1), .val .null, .val (.ref bi), .val (.int (2 : Int32)), .val (.int (0 : Int32)), .unset]) rfl ?_
    exact k
  obtain ⟨T3, X3, e3, st3⟩ := getF X1 hx hZ hown (host := "") (Or.inl (hw _ (List.mem_of_getElem? (i := 58) rfl))) Via.refl rfl F_t0_key_1 (g := (mkF m 26 #[.val (.ref a1), .val .null, .val (.ref bi), .val (.int (2 : Int32)), .val (.int (0 : Int32)), .val (.ref t0)] [(.ref t0)])) rfl rfl (hb hby d9_26)
  obtain ⟨ta5, ka5, na5, Ea5, Va5, Ca5, Ka5, pa5, la5, ma5⟩ := id Y_k0_1
  obtain ⟨tb5, kb5, nb5, Eb5, Vb5, Cb5, Kb5, pb5, lb5, mb5⟩ := id Y_a1_1
  obtain ⟨cq4, kq4, q4a, q4b, q4c⟩ := isOf hZ e3 Ea5
  obtain ⟨_, _, ⟨T4, L4, k4, n4⟩, -, X4, ⟨Lc4, hQ4, l4, y4, z4⟩, st4⟩ := X3.virtualBack hx (y := (⟨"java/lang/String", "equals", "(Ljava/lang/Object;)Z"⟩ : MethodName)) (z := (⟨"java/lang/String", "equals", "(Ljava/lang/Object;)Z"⟩ : MethodName)) hown (mvT hZ (hw _ (List.mem_of_getElem? (i := 60) rfl))) (mvT hZ (hw _ (List.mem_of_getElem? (i := 61) rfl))) (notFace_of_selects (args := #[]) (mvT hZ (hw _ (List.mem_of_getElem? (i := 63) rfl)))) (mvT hZ (hw _ (List.mem_of_getElem? (i := 63) rfl))) (mvT hZ (hw _ (List.mem_of_getElem? (i := 62) rfl))) (by decide) (StrChars.Road.eqW (W := 0) hZ heq (kI := 4) (hw _ (List.mem_of_getElem? (i := 5) rfl)) Ea5 Va5 Ca5 Ka5 (StrChars.Road.codOf la5 (fun c hc => (pa5 c hc).2)) (own_up pa5) (la5 ▸ ma5) Eb5 Vb5 Cb5 Kb5 (StrChars.Road.codOf lb5 (fun c hc => (pb5 c hc).2)) (own_up pb5) (lb5 ▸ mb5) S_java_lang_String_COMPACT_STRINGS_1 P5 (by decide) (by decide)) q4a q4c (g := (mkF m 30 #[.val (.ref a1), .val .null, .val (.ref bi), .val (.int (2 : Int32)), .val (.int (0 : Int32)), .val (.ref t0)] [(.ref a1), (.ref k0)])) rfl (by rw [hml]; rfl) (Steps.refl _) (argsL := [(.ref a1)]) (rest := []) (lenOf pd_2 rfl) rfl (by show 2 * 0 + _ ≤ _; exact Nat.le_of_eq rfl) (hb hby d9_30) (fun _ _ => ⟨rfl, e3, (by decide : 1 + 0 ≤ _), (by decide : 2 + 0 ≤ _)⟩)
  dsimp only [Pt.U, Pt.locs, Pt.cells, Pt.slots] at X4 l4 y4 z4 st4 hQ4
  subst l4 y4 z4
  obtain ⟨hv4, rfl, e4q⟩ := hQ4
  obtain rfl := own_eqv hv4
  have N4q : Fr n0 ([] : List Loc) := Fr.nil n0
  have N4 := Fr.app N1 N4q
  have pre3 : ∀ t, Steps p.tables e below (T4.setTop (mkF m 33 #[.val (.ref a1), .val .null, .val (.ref bi), .val (.int (2 : Int32)), .val (.int (0 : Int32)), .val (.ref t0)] [(.int (own_eqs own_k0 cs))])) t → Steps p.tables e below (s₁.setTop (entryFrame m #[(.ref a1)] 6)) t := by
    intro t k
    refine pre2 t ?_
    show Steps p.tables e below (T1.setTop (mkF m 12 #[.val (.ref a1), .val .null, .val (.ref bi), .val (.int (2 : Int32)), .val (.int (0 : Int32)), .unset] [])) _
    refine XS.iload X1.here hx rfl (hb hby d9_12) rfl ?_
    show Steps p.tables e below (T1.setTop (mkF m 14 #[.val (.ref a1), .val .null, .val (.ref bi), .val (.int (2 : Int32)), .val (.int (0 : Int32)), .unset] [(.int (0 : Int32))])) _
    refine XS.iloadN X1.here hx rfl (hb hby d9_14) rfl ?_
    show Steps p.tables e below (T1.setTop (mkF m 15 #[.val (.ref a1), .val .null, .val (.ref bi), .val (.int (2 : Int32)), .val (.int (0 : Int32)), .unset] [(.int (2 : Int32)), (.int (0 : Int32))])) _
    refine XS.icmpNo X1.here hx rfl (hb hby d9_15) rfl (tlt (by decide : (0 : Int32) < (2 : Int32))).2.1 ?_
    show Steps p.tables e below (T1.setTop (mkF m 18 #[.val (.ref a1), .val .null, .val (.ref bi), .val (.int (2 : Int32)), .val (.int (0 : Int32)), .unset] [])) _
    refine XS.aloadN X1.here hx rfl (hb hby d9_18) rfl rfl ?_
    show Steps p.tables e below (T1.setTop (mkF m 19 #[.val (.ref a1), .val .null, .val (.ref bi), .val (.int (2 : Int32)), .val (.int (0 : Int32)), .unset] [(.ref bi)])) _
    refine XS.iload X1.here hx rfl (hb hby d9_19) rfl ?_
    show Steps p.tables e below (T1.setTop (mkF m 21 #[.val (.ref a1), .val .null, .val (.ref bi), .val (.int (2 : Int32)), .val (.int (0 : Int32)), .unset] [(.int (0 : Int32)), (.ref bi)])) _
    refine X1.aaload hx (j := (0 : Int32)) (v := (.ref t0)) (by exact Ab1q.1) (State.isArrayOf_alike hZ.alike Ab1q.2.1) rfl Ab1q.2.2 hin0 hat0 (g := (mkF m 21 #[.val (.ref a1), .val .null, .val (.ref bi), .val (.int (2 : Int32)), .val (.int (0 : Int32)), .unset] [(.int (0 : Int32)), (.ref bi)])) rfl rfl (hb hby d9_21) _ ?_
    show Steps p.tables e below (T1.setTop (mkF m 22 #[.val (.ref a1), .val .null, .val (.ref bi), .val (.int (2 : Int32)), .val (.int (0 : Int32)), .unset] [(.ref t0)])) _
    refine XS.astore X1.here hx rfl (hb hby d9_22) rfl rfl (l' := #[.val (.ref a1), .val .null, .val (.ref bi), .val (.int (2 : Int32)), .val (.int (0 : Int32)), .val (.ref t0)]) rfl ?_
    show Steps p.tables e below (T1.setTop (mkF m 24 #[.val (.ref a1), .val .null, .val (.ref bi), .val (.int (2 : Int32)), .val (.int (0 : Int32)), .val (.ref t0)] [])) _
    refine XS.aload X1.here hx rfl (hb hby d9_24) rfl rfl ?_
    show Steps p.tables e below (T1.setTop (mkF m 26 #[.val (.ref a1), .val .null, .val (.ref bi), .val (.int (2 : Int32)), .val (.int (0 : Int32)), .val (.ref t0)] [(.ref t0)])) _
    refine st3 _ ?_
    show Steps p.tables e below (T3.setTop (mkF m 29 #[.val (.ref a1), .val .null, .val (.ref bi), .val (.int (2 : Int32)), .val (.int (0 : Int32)), .val (.ref t0)] [(.ref k0)])) _
    refine XS.aloadN X3.here hx rfl (hb hby d9_29) rfl rfl ?_
    show Steps p.tables e below (T3.setTop (mkF m 30 #[.val (.ref a1), .val .null, .val (.ref bi), .val (.int (2 : Int32)), .val (.int (0 : Int32)), .val (.ref t0)] [(.ref a1), (.ref k0)])) _
    refine st4.trans ?_
    exact k
  have pre4 : ∀ t, Steps p.tables e below (T4.setTop (mkF m 48 #[.val (.ref a1), .val (.ref t0), .val (.ref bi), .val (.int (2 : Int32)), .val (.int (0 : Int32)), .val (.ref t0)] [])) t → Steps p.tables e below (s₁.setTop (entryFrame m #[(.ref a1)] 6)) t := by
    intro t k
    refine pre3 t ?_
    show Steps p.tables e below (T4.setTop (mkF m 33 #[.val (.ref a1), .val .null, .val (.ref bi), .val (.int (2 : Int32)), .val (.int (0 : Int32)), .val (.ref t0)] [(.int (own_eqs own_k0 cs))])) _
    refine XS.ifNo X4.here hx rfl (hb hby d9_33) rfl ((if0 _ _).trans (feq (own_eq1 hy)).1) ?_
    show Steps p.tables e below (T4.setTop (mkF m 36 #[.val (.ref a1), .val .null, .val (.ref bi), .val (.int (2 : Int32)), .val (.int (0 : Int32)), .val (.ref t0)] [])) _
    refine XS.aload X4.here hx rfl (hb hby d9_36) rfl rfl ?_
    show Steps p.tables e below (T4.setTop (mkF m 38 #[.val (.ref a1), .val .null, .val (.ref bi), .val (.int (2 : Int32)), .val (.int (0 : Int32)), .val (.ref t0)] [(.ref t0)])) _
    refine XS.astoreN X4.here hx rfl (hb hby d9_38) rfl rfl (l' := #[.val (.ref a1), .val (.ref t0), .val (.ref bi), .val (.int (2 : Int32)), .val (.int (0 : Int32)), .val (.ref t0)]) rfl ?_
    show Steps p.tables e below (T4.setTop (mkF m 39 #[.val (.ref a1), .val (.ref t0), .val (.ref bi), .val (.int (2 : Int32)), .val (.int (0 : Int32)), .val (.ref t0)] [])) _
    refine XS.goto X4.here hx rfl (pc0 := 39) (pc' := 48) rfl (hb hby d9_39) (by decide) (by decide) ?_
    exact k
  obtain ⟨_, _, ⟨T6, L6, k6, n6⟩, -, X6, ⟨Lc6, hQ6, l6, y6, z6⟩, st6⟩ := Jvm.LawKit.callS X4 hx (y := (⟨"java/util/Optional", "ofNullable", "(Ljava/lang/Object;)Ljava/util/Optional;"⟩ : MethodName)) hown (mvT hZ (hw _ (List.mem_of_getElem? (i := 70) rfl))) (mvT hZ (hw _ (List.mem_of_getElem? (i := 71) rfl))) (mvT hZ (hw _ (List.mem_of_getElem? (i := 72) rfl))) (mvT hZ (hw _ (List.mem_of_getElem? (i := 73) rfl))) (by decide) (backOf (W := 0) (rm13r l Z a0 hw [] t0 T1.heap n0 Zs2) hZ (hw _ (List.mem_of_getElem? (i := 73) rfl)) (hw _ (List.mem_of_getElem? (i := 72) rfl)) (by decide) (by decide)) (g := (mkF m 49 #[.val (.ref a1), .val (.ref t0), .val (.ref bi), .val (.int (2 : Int32)), .val (.int (0 : Int32)), .val (.ref t0)] [(.ref t0)])) rfl (by rw [hml]; rfl) (argsL := [(.ref t0)]) (rest := []) (lenOf pd_3 rfl) rfl (by show 2 * 0 + _ ≤ _; exact Nat.le_of_eq rfl) (hb hby d9_49) (fun _ _ => ⟨rfl, e4q, (by decide : 1 + 1 ≤ _), (by decide : 2 + 1 ≤ _)⟩)
  dsimp only [Pt.U, Pt.locs, Pt.cells, Pt.slots] at X6 l6 y6 z6 st6 hQ6
  subst l6 y6 z6
  obtain ⟨oo, rfl, N6q, K6q, Eo, Fo⟩ := hQ6
  have N6 := Fr.app N4 N6q
  have S_com_example_sekisho_sekisho_registration_Factor__VALUES_6 := own_sta0 S_com_example_sekisho_sekisho_registration_Factor__VALUES_1 K6q
  have E_va_6 := E_va_1.keep K6q
  have F_t0_key_6 := F_t0_key_1.keep K6q nin0
  have Y_k0_6 := Y_k0_1.keep0 K6q
  have F_t1_key_6 := F_t1_key_1.keep K6q nin0
  have Y_k1_6 := Y_k1_1.keep0 K6q
  have S_java_util_Optional_EMPTY_6 := own_sta0 S_java_util_Optional_EMPTY_1 K6q
  have E_em_6 := E_em_1.keep K6q
  have F_em_value_6 := F_em_value_1.keep K6q nin0
  have S_java_lang_String_COMPACT_STRINGS_6 := own_sta0 S_java_lang_String_COMPACT_STRINGS_1 K6q
  have Y_a1_6 := Y_a1_1.keep0 K6q
  have E_k0_6 := Ea5.keep K6q
  have Zs7 := Nat.le_trans Zs2 K6q.1
  have Kk6 := Kk1.trans K6q all0
  obtain ⟨fs, hr, hrun, hended, hW, hsame⟩ := X6.leave (v := some (.ref oo)) (fun h => by rw [Bd.returns] at h; cases h)
  refine ⟨_, _, pre4 _ ?_, hrun, hended, _, _, rfl, ?_, ⟨_, rfl⟩, hW, hsame.mono (by decide) (by decide)⟩
  · show Steps p.tables e below (T4.setTop (mkF m 48 #[.val (.ref a1), .val (.ref t0), .val (.ref bi), .val (.int (2 : Int32)), .val (.int (0 : Int32)), .val (.ref t0)] [])) _
    refine XS.aloadN X4.here hx rfl (hb hby d9_48) rfl rfl ?_
    show Steps p.tables e below (T4.setTop (mkF m 49 #[.val (.ref a1), .val (.ref t0), .val (.ref bi), .val (.int (2 : Int32)), .val (.int (0 : Int32)), .val (.ref t0)] [(.ref t0)])) _
    refine st6 _ ?_
    show Steps p.tables e below (T6.setTop (mkF m 52 #[.val (.ref a1), .val (.ref t0), .val (.ref bi), .val (.int (2 : Int32)), .val (.int (0 : Int32)), .val (.ref t0)] [(.ref oo)])) _
    exact retOut X6 hx Bd.returns rfl (Or.inr (Or.inr (Or.inr (Or.inr ⟨rfl, rfl, rfl⟩)))) (hb hby d9_52) hr
  · show Q9x0 Z a1 va cl t0 t1 k0 k1 em G1 cs h0 n0 _ T6.heap _
    exact ⟨_, rfl, N6, Kk6, Eo, Fo⟩
def Q9x1 (Z : State) (a1 : Addr) (va : Addr) (cl : Cell) (t0 t1 k0 k1 : Addr) (em : Addr) (G1 : Int32) (cs : List Int32) (h0 : Heap) (n0 : Nat) (v : Option Value) (h : Heap) (L : List Loc) : Prop := ∃ o : Addr, v = some (.ref o) ∧ Fr n0 L ∧ Keep h0 h [] ∧ Exa Z h o "java/util/Optional" ∧ Fld Z h o "java/util/Optional" "value" "Ljava/lang/Object;" (.ref t1)
set_option maxRecDepth 65536 in
set_option maxHeartbeats 40000000 in
theorem rm9x1 (l : Launch) (Z : State) (a0 : Array Value) (hw : ∀ d ∈ tables_1, d.before a0 Z = true) (ws : List Jvm.Cond) (a1 : Addr) (va : Addr) (cl : Cell) (t0 t1 k0 k1 : Addr) (em : Addr) (G1 : Int32) (cs : List Int32) (h0 : Heap) (n0 : Nat) (Z0 : n0 ≤ h0.size) (SV : Sta Z h0 "com/example/sekisho/sekisho/registration/Factor" "$VALUES" "[Lcom/example/sekisho/sekisho/registration/Factor;" (.ref va)) (Ar : Arr Z h0 va cl (.object "com/example/sekisho/sekisho/registration/Factor")) (Eva : Exa Z h0 va "[Lcom/example/sekisho/sekisho/registration/Factor;") (Fc : FitC Z cl) (Sz : cl.slots.size = 2) (hs0 : cl.slots[0]? = some (.ref t0)) (hs1 : cl.slots[1]? = some (.ref t1)) (Fk0 : Fld Z h0 t0 "com/example/sekisho/sekisho/registration/Factor" "key" "Ljava/lang/String;" (.ref k0)) (Fk1 : Fld Z h0 t1 "com/example/sekisho/sekisho/registration/Factor" "key" "Ljava/lang/String;" (.ref k1)) (Y0 : own_str Z h0 k0 own_k0) (Y1 : own_str Z h0 k1 own_k1) (SE : Sta Z h0 "java/util/Optional" "EMPTY" "Ljava/util/Optional;" (.ref em)) (EE : Exa Z h0 em "java/util/Optional") (FE : Fld Z h0 em "java/util/Optional" "value" "Ljava/lang/Object;" .null) (S1 : Sta Z h0 "java/lang/String" "COMPACT_STRINGS" "Z" (.int G1)) (P5 : ¬ (G1 = (0 : Int32))) (Ys : own_str Z h0 a1 cs) (hn0 : ¬ own_k0 = cs) (hy : own_k1 = cs) :
    MetFree l (⟨"com/example/sekisho/sekisho/registration/Factor", "ofKey", "(Ljava/lang/String;)Ljava/util/Optional;"⟩ : MethodName) (head1 (Jvm.Cond.code (⟨"com/example/sekisho/sekisho/registration/Factor", "ofKey", "(Ljava/lang/String;)Ljava/util/Optional;"⟩ : MethodName) prog_12_method_6_code 6 (some (.object "java/util/Optional")) :: ws) ({ frames := 4, cells := 2, slots := 3, locals := 60 } : Room)) (fun a U => a = #[(.ref a1)] ∧ Z.Warmed39 U.vm ∧ U.heap = h0) (fun _ _ _ _ _ => True) (fun _ U o U' => ∃ v L, o = .returned v ∧ Q9x1 Z a1 va cl t0 t1 k0 k1 em G1 cs h0 n0 v U'.heap L ∧ FrameEnd U o U' L ({ frames := 4, cells := 2, slots := 3, locals := 60 } : Room).cells ({ frames := 4, cells := 2, slots := 3, locals := 60 } : Room).slots) := by
  refine MetFree.of_bodySF (plainFor_of_name pn_9) hisR ?_
  intro p e s m args below meth c s₁ Bd hml0 hP hK
  obtain ⟨rfl, hZ, hh⟩ := hP
  have hx := Bd.exec
  have hby := Bd.bytes
  have hml : c.maxLocals = 6 := hml0
  have hown : s.vm.findClass "com/example/sekisho/sekisho/registration/Factor" = some m.cls := findClass_of_methodNamed Bd.named
  have hnm := (name_of_methodNamed Bd.named Bd.method).1
  have X0 : Stand p l e ({ frames := 4, cells := 2, slots := 3, locals := 60 } : Room) s m #[(.ref a1)] below meth c s₁ [] 0 0 := Stand.of_body Bd
  have e0 : s₁.heap = h0 := by rw [← hh, Bd.state]; rfl
  have N0 := Fr.nil n0
  have pre0 : ∀ t, Steps p.tables e below (s₁.setTop (mkF m 0 #[.val (.ref a1), .unset, .unset, .unset, .unset, .unset] [])) t → Steps p.tables e below (s₁.setTop (entryFrame m #[(.ref a1)] 6)) t := fun t k => castTop (ef_9 m a1) k
  have KK0 := Keep.refl h0 []
  have heq : ∀ d ∈ StrChars.Road.wordsEq, d.before a0 Z = true := fun d hd => hw d ((by decide +kernel : ∀ d ∈ StrChars.Road.wordsEq, d ∈ tables_1) d hd)
  obtain ⟨_, _, ⟨T1, L1, k1, n1⟩, -, X1, ⟨Lc1, hQ1, l1, y1, z1⟩, st1⟩ := Jvm.LawKit.callS X0 hx (y := (⟨"com/example/sekisho/sekisho/registration/Factor", "values", "()[Lcom/example/sekisho/sekisho/registration/Factor;"⟩ : MethodName)) hown (mvT hZ (hw _ (List.mem_of_getElem? (i := 41) rfl))) (mvT hZ (hw _ (List.mem_of_getElem? (i := 42) rfl))) (mvT hZ (hw _ (List.mem_of_getElem? (i := 39) rfl))) (mvT hZ (hw _ (List.mem_of_getElem? (i := 43) rfl))) (by decide) (backOf (W := 0) (rm10 l Z a0 hw [] va cl h0 n0 Z0 SV Ar Eva Fc Sz) hZ (hw _ (List.mem_of_getElem? (i := 43) rfl)) (hw _ (List.mem_of_getElem? (i := 39) rfl)) (by decide) (by decide)) (g := (mkF m 2 #[.val (.ref a1), .val .null, .unset, .unset, .unset, .unset] [])) rfl (by rw [hml]; rfl) (argsL := []) (rest := []) (lenOf pd_1 rfl) rfl (by show 2 * 0 + _ ≤ _; exact Nat.le_of_eq rfl) (hb hby d9_2) (fun _ _ => ⟨rfl, e0, (by decide : 0 + 1 ≤ _), (by decide : 0 + 2 ≤ _)⟩)
  dsimp only [Pt.U, Pt.locs, Pt.cells, Pt.slots] at X1 l1 y1 z1 st1 hQ1
  subst l1 y1 z1
  obtain ⟨bi, rfl, N1q, K1q, Ab1q⟩ := hQ1
  have N1 := Fr.app N0 N1q
  have S_com_example_sekisho_sekisho_registration_Factor__VALUES_1 := own_sta0 SV K1q
  have E_va_1 := Eva.keep K1q
  have F_t0_key_1 := Fk0.keep K1q nin0
  have Y_k0_1 := Y0.keep0 K1q
  have F_t1_key_1 := Fk1.keep K1q nin0
  have Y_k1_1 := Y1.keep0 K1q
  have S_java_util_Optional_EMPTY_1 := own_sta0 SE K1q
  have E_em_1 := EE.keep K1q
  have F_em_value_1 := FE.keep K1q nin0
  have S_java_lang_String_COMPACT_STRINGS_1 := own_sta0 S1 K1q
  have Y_a1_1 := Ys.keep0 K1q
  have Zs2 := Nat.le_trans Z0 K1q.1
  have Kk1 := KK0.trans K1q all0
  have Szb : (cloneOf cl).slots.size = (2 : Int32).toNatClampNeg := Sz
  have hin0 : ¬ ((0 : Int32) < 0 ∨ (cloneOf cl).slots.size ≤ ((0 : Int32)).toNatClampNeg) := inb_of Szb ⟨by decide, by decide⟩
  have hat0 : (cloneOf cl).slots[((0 : Int32)).toNatClampNeg]? = some (.ref t0) := hs0
  have hin1 : ¬ (((0 : Int32) + (1 : Int32)) < 0 ∨ (cloneOf cl).slots.size ≤ (((0 : Int32) + (1 : Int32))).toNatClampNeg) := inb_of Szb ⟨by decide, by decide⟩
  have hat1 : (cloneOf cl).slots[(((0 : Int32) + (1 : Int32))).toNatClampNeg]? = some (.ref t1) := hs1
  have pre1 : ∀ t, Steps p.tables e below (T1.setTop (mkF m 6 #[.val (.ref a1), .val .null, .val (.ref bi), .unset, .unset, .unset] [])) t → Steps p.tables e below (s₁.setTop (entryFrame m #[(.ref a1)] 6)) t := by
    intro t k
    refine pre0 t ?_
    show Steps p.tables e below (s₁.setTop (mkF m 0 #[.val (.ref a1), .unset, .unset, .unset, .unset, .unset] [])) _
    refine XS.aconstNull X0.here hx rfl (hb hby d9_0) ?_
    show Steps p.tables e below (s₁.setTop (mkF m 1 #[.val (.ref a1), .unset, .unset, .unset, .unset, .unset] [.null])) _
    refine XS.astoreN X0.here hx rfl (hb hby d9_1) rfl rfl (l' := #[.val (.ref a1), .val .null, .unset, .unset, .unset, .unset]) rfl ?_
    show Steps p.tables e below (s₁.setTop (mkF m 2 #[.val (.ref a1), .val .null, .unset, .unset, .unset, .unset] [])) _
    refine st1 _ ?_
    show Steps p.tables e below (T1.setTop (mkF m 5 #[.val (.ref a1), .val .null, .unset, .unset, .unset, .unset] [(.ref bi)])) _
    refine XS.astoreN X1.here hx rfl (hb hby d9_5) rfl rfl (l' := #[.val (.ref a1), .val .null, .val (.ref bi), .unset, .unset, .unset]) rfl ?_
    exact k
  have pre2 : ∀ t, Steps p.tables e below (T1.setTop (mkF m 12 #[.val (.ref a1), .val .null, .val (.ref bi), .val (.int (2 : Int32)), .val (.int (0 : Int32)), .unset] [])) t → Steps p.tables e below (s₁.setTop (entryFrame m #[(.ref a1)] 6)) t := by
    intro t k
    refine pre1 t ?_
    show Steps p.tables e below (T1.setTop (mkF m 6 #[.val (.ref a1), .val .null, .val (.ref bi), .unset, .unset, .unset] [])) _
    refine XS.aloadN X1.here hx rfl (hb hby d9_6) rfl rfl ?_
    show Steps p.tables e below (T1.setTop (mkF m 7 #[.val (.ref a1), .val .null, .val (.ref bi), .unset, .unset, .unset] [(.ref bi)])) _
    refine X1.arraylength hx (by exact Ab1q.1) (State.isArrayOf_alike hZ.alike Ab1q.2.1) (g := (mkF m 7 #[.val (.ref a1), .val .null, .val (.ref bi), .unset, .unset, .unset] [(.ref bi)])) rfl rfl (hb hby d9_7) _ ?_
    rw [len_of Szb (by decide)]
    show Steps p.tables e below (T1.setTop (mkF m 8 #[.val (.ref a1), .val .null, .val (.ref bi), .unset, .unset, .unset] [(.int (2 : Int32))])) _
    refine XS.istoreN X1.here hx rfl (hb hby d9_8) rfl (l' := #[.val (.ref a1), .val .null, .val (.ref bi), .val (.int (2 : Int32)), .unset, .unset]) rfl ?_
    show Steps p.tables e below (T1.setTop (mkF m 9 #[.val (.ref a1), .val .null, .val (.ref bi), .val (.int (2 : Int32)), .unset, .unset] [])) _
    refine XS.iconst X1.here hx rfl (hb hby d9_9) ?_
    show Steps p.tables e below (T1.setTop (mkF m 10 #[.val (.ref a1), .val .null, .val (.ref bi), .val (.int (2 : Int32)), .unset, .unset] [(.int (0 : Int32))])) _
    refine XS.istore X1.here hx rfl (hb hby d9_10) rfl (l' := #[.val (.ref a1), .val .null, .val (.ref bi), .val (.int (2 : Int32)), .val (.int (0 : Int32)), .unset]) rfl ?_
    exact k
  obtain ⟨T3, X3, e3, st3⟩ := getF X1 hx hZ hown (host := "") (Or.inl (hw _ (List.mem_of_getElem? (i := 58) rfl))) Via.refl rfl F_t0_key_1 (g := (mkF m 26 #[.val (.ref a1), .val .null, .val (.ref bi), .val (.int (2 : Int32)), .val (.int (0 : Int32)), .val (.ref t0)] [(.ref t0)])) rfl rfl (hb hby d9_26)
  obtain ⟨ta5, ka5, na5, Ea5, Va5, Ca5, Ka5, pa5, la5, ma5⟩ := id Y_k0_1
  obtain ⟨tb5, kb5, nb5, Eb5, Vb5, Cb5, Kb5, pb5, lb5, mb5⟩ := id Y_a1_1
  obtain ⟨cq4, kq4, q4a, q4b, q4c⟩ := isOf hZ e3 Ea5
  obtain ⟨_, _, ⟨T4, L4, k4, n4⟩, -, X4, ⟨Lc4, hQ4, l4, y4, z4⟩, st4⟩ := X3.virtualBack hx (y := (⟨"java/lang/String", "equals", "(Ljava/lang/Object;)Z"⟩ : MethodName)) (z := (⟨"java/lang/String", "equals", "(Ljava/lang/Object;)Z"⟩ : MethodName)) hown (mvT hZ (hw _ (List.mem_of_getElem? (i := 60) rfl))) (mvT hZ (hw _ (List.mem_of_getElem? (i := 61) rfl))) (notFace_of_selects (args := #[]) (mvT hZ (hw _ (List.mem_of_getElem? (i := 63) rfl)))) (mvT hZ (hw _ (List.mem_of_getElem? (i := 63) rfl))) (mvT hZ (hw _ (List.mem_of_getElem? (i := 62) rfl))) (by decide) (StrChars.Road.eqW (W := 0) hZ heq (kI := 4) (hw _ (List.mem_of_getElem? (i := 5) rfl)) Ea5 Va5 Ca5 Ka5 (StrChars.Road.codOf la5 (fun c hc => (pa5 c hc).2)) (own_up pa5) (la5 ▸ ma5) Eb5 Vb5 Cb5 Kb5 (StrChars.Road.codOf lb5 (fun c hc => (pb5 c hc).2)) (own_up pb5) (lb5 ▸ mb5) S_java_lang_String_COMPACT_STRINGS_1 P5 (by decide) (by decide)) q4a q4c (g := (mkF m 30 #[.val (.ref a1), .val .null, .val (.ref bi), .val (.int (2 : Int32)), .val (.int (0 : Int32)), .val (.ref t0)] [(.ref a1), (.ref k0)])) rfl (by rw [hml]; rfl) (Steps.refl _) (argsL := [(.ref a1)]) (rest := []) (lenOf pd_2 rfl) rfl (by show 2 * 0 + _ ≤ _; exact Nat.le_of_eq rfl) (hb hby d9_30) (fun _ _ => ⟨rfl, e3, (by decide : 1 + 0 ≤ _), (by decide : 2 + 0 ≤ _)⟩)
  dsimp only [Pt.U, Pt.locs, Pt.cells, Pt.slots] at X4 l4 y4 z4 st4 hQ4
  subst l4 y4 z4
  obtain ⟨hv4, rfl, e4q⟩ := hQ4
  obtain rfl := own_eqv hv4
  have N4q : Fr n0 ([] : List Loc) := Fr.nil n0
  have N4 := Fr.app N1 N4q
  have pre3 : ∀ t, Steps p.tables e below (T4.setTop (mkF m 33 #[.val (.ref a1), .val .null, .val (.ref bi), .val (.int (2 : Int32)), .val (.int (0 : Int32)), .val (.ref t0)] [(.int (own_eqs own_k0 cs))])) t → Steps p.tables e below (s₁.setTop (entryFrame m #[(.ref a1)] 6)) t := by
    intro t k
    refine pre2 t ?_
    show Steps p.tables e below (T1.setTop (mkF m 12 #[.val (.ref a1), .val .null, .val (.ref bi), .val (.int (2 : Int32)), .val (.int (0 : Int32)), .unset] [])) _
    refine XS.iload X1.here hx rfl (hb hby d9_12) rfl ?_
    show Steps p.tables e below (T1.setTop (mkF m 14 #[.val (.ref a1), .val .null, .val (.ref bi), .val (.int (2 : Int32)), .val (.int (0 : Int32)), .unset] [(.int (0 : Int32))])) _
    refine XS.iloadN X1.here hx rfl (hb hby d9_14) rfl ?_
    show Steps p.tables e below (T1.setTop (mkF m 15 #[.val (.ref a1), .val .null, .val (.ref bi), .val (.int (2 : Int32)), .val (.int (0 : Int32)), .unset] [(.int (2 : Int32)), (.int (0 : Int32))])) _
    refine XS.icmpNo X1.here hx rfl (hb hby d9_15) rfl (tlt (by decide : (0 : Int32) < (2 : Int32))).2.1 ?_
    show Steps p.tables e below (T1.setTop (mkF m 18 #[.val (.ref a1), .val .null, .val (.ref bi), .val (.int (2 : Int32)), .val (.int (0 : Int32)), .unset] [])) _
    refine XS.aloadN X1.here hx rfl (hb hby d9_18) rfl rfl ?_
    show Steps p.tables e below (T1.setTop (mkF m 19 #[.val (.ref a1), .val .null, .val (.ref bi), .val (.int (2 : Int32)), .val (.int (0 : Int32)), .unset] [(.ref bi)])) _
    refine XS.iload X1.here hx rfl (hb hby d9_19) rfl ?_
    show Steps p.tables e below (T1.setTop (mkF m 21 #[.val (.ref a1), .val .null, .val (.ref bi), .val (.int (2 : Int32)), .val (.int (0 : Int32)), .unset] [(.int (0 : Int32)), (.ref bi)])) _
    refine X1.aaload hx (j := (0 : Int32)) (v := (.ref t0)) (by exact Ab1q.1) (State.isArrayOf_alike hZ.alike Ab1q.2.1) rfl Ab1q.2.2 hin0 hat0 (g := (mkF m 21 #[.val (.ref a1), .val .null, .val (.ref bi), .val (.int (2 : Int32)), .val (.int (0 : Int32)), .unset] [(.int (0 : Int32)), (.ref bi)])) rfl rfl (hb hby d9_21) _ ?_
    show Steps p.tables e below (T1.setTop (mkF m 22 #[.val (.ref a1), .val .null, .val (.ref bi), .val (.int (2 : Int32)), .val (.int (0 : Int32)), .unset] [(.ref t0)])) _
    refine XS.astore X1.here hx rfl (hb hby d9_22) rfl rfl (l' := #[.val (.ref a1), .val .null, .val (.ref bi), .val (.int (2 : Int32)), .val (.int (0 : Int32)), .val (.ref t0)]) rfl ?_
    show Steps p.tables e below (T1.setTop (mkF m 24 #[.val (.ref a1), .val .null, .val (.ref bi), .val (.int (2 : Int32)), .val (.int (0 : Int32)), .val (.ref t0)] [])) _
    refine XS.aload X1.here hx rfl (hb hby d9_24) rfl rfl ?_
    show Steps p.tables e below (T1.setTop (mkF m 26 #[.val (.ref a1), .val .null, .val (.ref bi), .val (.int (2 : Int32)), .val (.int (0 : Int32)), .val (.ref t0)] [(.ref t0)])) _
    refine st3 _ ?_
    show Steps p.tables e below (T3.setTop (mkF m 29 #[.val (.ref a1), .val .null, .val (.ref bi), .val (.int (2 : Int32)), .val (.int (0 : Int32)), .val (.ref t0)] [(.ref k0)])) _
    refine XS.aloadN X3.here hx rfl (hb hby d9_29) rfl rfl ?_
    show Steps p.tables e below (T3.setTop (mkF m 30 #[.val (.ref a1), .val .null, .val (.ref bi), .val (.int (2 : Int32)), .val (.int (0 : Int32)), .val (.ref t0)] [(.ref a1), (.ref k0)])) _
    refine st4.trans ?_
    exact k
  have pre4 : ∀ t, Steps p.tables e below (T4.setTop (mkF m 12 #[.val (.ref a1), .val .null, .val (.ref bi), .val (.int (2 : Int32)), .val (.int ((0 : Int32) + (1 : Int32))), .val (.ref t0)] [])) t → Steps p.tables e below (s₁.setTop (entryFrame m #[(.ref a1)] 6)) t := by
    intro t k
    refine pre3 t ?_
    show Steps p.tables e below (T4.setTop (mkF m 33 #[.val (.ref a1), .val .null, .val (.ref bi), .val (.int (2 : Int32)), .val (.int (0 : Int32)), .val (.ref t0)] [(.int (own_eqs own_k0 cs))])) _
    refine XS.ifYes X4.here hx rfl (pc0 := 33) (pc' := 42) rfl (hb hby d9_33) rfl ((if0 _ _).trans (teq (own_eq0 hn0)).1) (by decide) (by decide) ?_
    show Steps p.tables e below (T4.setTop (mkF m 42 #[.val (.ref a1), .val .null, .val (.ref bi), .val (.int (2 : Int32)), .val (.int (0 : Int32)), .val (.ref t0)] [])) _
    refine XS.iinc X4.here hx rfl (hb hby d9_42) rfl (l' := #[.val (.ref a1), .val .null, .val (.ref bi), .val (.int (2 : Int32)), .val (.int ((0 : Int32) + (1 : Int32))), .val (.ref t0)]) rfl ?_
    show Steps p.tables e below (T4.setTop (mkF m 45 #[.val (.ref a1), .val .null, .val (.ref bi), .val (.int (2 : Int32)), .val (.int ((0 : Int32) + (1 : Int32))), .val (.ref t0)] [])) _
    refine XS.goto X4.here hx rfl (pc0 := 45) (pc' := 12) rfl (hb hby d9_45) (by decide) (by decide) ?_
    exact k
  obtain ⟨T6, X6, e6, st6⟩ := getF X4 hx hZ hown (host := "") (Or.inl (hw _ (List.mem_of_getElem? (i := 58) rfl))) Via.refl e4q F_t1_key_1 (g := (mkF m 26 #[.val (.ref a1), .val .null, .val (.ref bi), .val (.int (2 : Int32)), .val (.int ((0 : Int32) + (1 : Int32))), .val (.ref t1)] [(.ref t1)])) rfl rfl (hb hby d9_26)
  obtain ⟨ta8, ka8, na8, Ea8, Va8, Ca8, Ka8, pa8, la8, ma8⟩ := id Y_k1_1
  obtain ⟨tb8, kb8, nb8, Eb8, Vb8, Cb8, Kb8, pb8, lb8, mb8⟩ := id Y_a1_1
  obtain ⟨cq7, kq7, q7a, q7b, q7c⟩ := isOf hZ e6 Ea8
  obtain ⟨_, _, ⟨T7, L7, k7, n7⟩, -, X7, ⟨Lc7, hQ7, l7, y7, z7⟩, st7⟩ := X6.virtualBack hx (y := (⟨"java/lang/String", "equals", "(Ljava/lang/Object;)Z"⟩ : MethodName)) (z := (⟨"java/lang/String", "equals", "(Ljava/lang/Object;)Z"⟩ : MethodName)) hown (mvT hZ (hw _ (List.mem_of_getElem? (i := 60) rfl))) (mvT hZ (hw _ (List.mem_of_getElem? (i := 61) rfl))) (notFace_of_selects (args := #[]) (mvT hZ (hw _ (List.mem_of_getElem? (i := 63) rfl)))) (mvT hZ (hw _ (List.mem_of_getElem? (i := 63) rfl))) (mvT hZ (hw _ (List.mem_of_getElem? (i := 62) rfl))) (by decide) (StrChars.Road.eqW (W := 0) hZ heq (kI := 4) (hw _ (List.mem_of_getElem? (i := 5) rfl)) Ea8 Va8 Ca8 Ka8 (StrChars.Road.codOf la8 (fun c hc => (pa8 c hc).2)) (own_up pa8) (la8 ▸ ma8) Eb8 Vb8 Cb8 Kb8 (StrChars.Road.codOf lb8 (fun c hc => (pb8 c hc).2)) (own_up pb8) (lb8 ▸ mb8) S_java_lang_String_COMPACT_STRINGS_1 P5 (by decide) (by decide)) q7a q7c (g := (mkF m 30 #[.val (.ref a1), .val .null, .val (.ref bi), .val (.int (2 : Int32)), .val (.int ((0 : Int32) + (1 : Int32))), .val (.ref t1)] [(.ref a1), (.ref k1)])) rfl (by rw [hml]; rfl) (Steps.refl _) (argsL := [(.ref a1)]) (rest := []) (lenOf pd_2 rfl) rfl (by show 2 * 0 + _ ≤ _; exact Nat.le_of_eq rfl) (hb hby d9_30) (fun _ _ => ⟨rfl, e6, (by decide : 1 + 0 ≤ _), (by decide : 2 + 0 ≤ _)⟩)
  dsimp only [Pt.U, Pt.locs, Pt.cells, Pt.slots] at X7 l7 y7 z7 st7 hQ7
  subst l7 y7 z7
  obtain ⟨hv7, rfl, e7q⟩ := hQ7
  obtain rfl := own_eqv hv7
  have N7q : Fr n0 ([] : List Loc) := Fr.nil n0
  have N7 := Fr.app N4 N7q
  have pre5 : ∀ t, Steps p.tables e below (T7.setTop (mkF m 33 #[.val (.ref a1), .val .null, .val (.ref bi), .val (.int (2 : Int32)), .val (.int ((0 : Int32) + (1 : Int32))), .val (.ref t1)] [(.int (own_eqs own_k1 cs))])) t → Steps p.tables e below (s₁.setTop (entryFrame m #[(.ref a1)] 6)) t := by
    intro t k
    refine pre4 t ?_
    show Steps p.tables e below (T4.setTop (mkF m 12 #[.val (.ref a1), .val .null, .val (.ref bi), .val (.int (2 : Int32)), .val (.int ((0 : Int32) + (1 : Int32))), .val (.ref t0)] [])) _
    refine XS.iload X4.here hx rfl (hb hby d9_12) rfl ?_
    show Steps p.tables e below (T4.setTop (mkF m 14 #[.val (.ref a1), .val .null, .val (.ref bi), .val (.int (2 : Int32)), .val (.int ((0 : Int32) + (1 : Int32))), .val (.ref t0)] [(.int ((0 : Int32) + (1 : Int32)))])) _
    refine XS.iloadN X4.here hx rfl (hb hby d9_14) rfl ?_
    show Steps p.tables e below (T4.setTop (mkF m 15 #[.val (.ref a1), .val .null, .val (.ref bi), .val (.int (2 : Int32)), .val (.int ((0 : Int32) + (1 : Int32))), .val (.ref t0)] [(.int (2 : Int32)), (.int ((0 : Int32) + (1 : Int32)))])) _
    refine XS.icmpNo X4.here hx rfl (hb hby d9_15) rfl (tlt (by decide : ((0 : Int32) + (1 : Int32)) < (2 : Int32))).2.1 ?_
    show Steps p.tables e below (T4.setTop (mkF m 18 #[.val (.ref a1), .val .null, .val (.ref bi), .val (.int (2 : Int32)), .val (.int ((0 : Int32) + (1 : Int32))), .val (.ref t0)] [])) _
    refine XS.aloadN X4.here hx rfl (hb hby d9_18) rfl rfl ?_
    show Steps p.tables e below (T4.setTop (mkF m 19 #[.val (.ref a1), .val .null, .val (.ref bi), .val (.int (2 : Int32)), .val (.int ((0 : Int32) + (1 : Int32))), .val (.ref t0)] [(.ref bi)])) _
    refine XS.iload X4.here hx rfl (hb hby d9_19) rfl ?_
    show Steps p.tables e below (T4.setTop (mkF m 21 #[.val (.ref a1), .val .null, .val (.ref bi), .val (.int (2 : Int32)), .val (.int ((0 : Int32) + (1 : Int32))), .val (.ref t0)] [(.int ((0 : Int32) + (1 : Int32))), (.ref bi)])) _
    refine X4.aaload hx (j := ((0 : Int32) + (1 : Int32))) (v := (.ref t1)) (by rw [e4q]; exact Ab1q.1) (State.isArrayOf_alike hZ.alike Ab1q.2.1) rfl Ab1q.2.2 hin1 hat1 (g := (mkF m 21 #[.val (.ref a1), .val .null, .val (.ref bi), .val (.int (2 : Int32)), .val (.int ((0 : Int32) + (1 : Int32))), .val (.ref t0)] [(.int ((0 : Int32) + (1 : Int32))), (.ref bi)])) rfl rfl (hb hby d9_21) _ ?_
    show Steps p.tables e below (T4.setTop (mkF m 22 #[.val (.ref a1), .val .null, .val (.ref bi), .val (.int (2 : Int32)), .val (.int ((0 : Int32) + (1 : Int32))), .val (.ref t0)] [(.ref t1)])) _
    refine XS.astore X4.here hx rfl (hb hby d9_22) rfl rfl (l' := #[.val (.ref a1), .val .null, .val (.ref bi), .val (.int (2 : Int32)), .val (.int ((0 : Int32) + (1 : Int32))), .val (.ref t1)]) rfl ?_
    show Steps p.tables e below (T4.setTop (mkF m 24 #[.val (.ref a1), .val .null, .val (.ref bi), .val (.int (2 : Int32)), .val (.int ((0 : Int32) + (1 : Int32))), .val (.ref t1)] [])) _
    refine XS.aload X4.here hx rfl (hb hby d9_24) rfl rfl ?_
    show Steps p.tables e below (T4.setTop (mkF m 26 #[.val (.ref a1), .val .null, .val (.ref bi), .val (.int (2 : Int32)), .val (.int ((0 : Int32) + (1 : Int32))), .val (.ref t1)] [(.ref t1)])) _
    refine st6 _ ?_
    show Steps p.tables e below (T6.setTop (mkF m 29 #[.val (.ref a1), .val .null, .val (.ref bi), .val (.int (2 : Int32)), .val (.int ((0 : Int32) + (1 : Int32))), .val (.ref t1)] [(.ref k1)])) _
    refine XS.aloadN X6.here hx rfl (hb hby d9_29) rfl rfl ?_
    show Steps p.tables e below (T6.setTop (mkF m 30 #[.val (.ref a1), .val .null, .val (.ref bi), .val (.int (2 : Int32)), .val (.int ((0 : Int32) + (1 : Int32))), .val (.ref t1)] [(.ref a1), (.ref k1)])) _
    refine st7.trans ?_
    exact k
  have pre6 : ∀ t, Steps p.tables e below (T7.setTop (mkF m 48 #[.val (.ref a1), .val (.ref t1), .val (.ref bi), .val (.int (2 : Int32)), .val (.int ((0 : Int32) + (1 : Int32))), .val (.ref t1)] [])) t → Steps p.tables e below (s₁.setTop (entryFrame m #[(.ref a1)] 6)) t := by
    intro t k
    refine pre5 t ?_
    show Steps p.tables e below (T7.setTop (mkF m 33 #[.val (.ref a1), .val .null, .val (.ref bi), .val (.int (2 : Int32)), .val (.int ((0 : Int32) + (1 : Int32))), .val (.ref t1)] [(.int (own_eqs own_k1 cs))])) _
    refine XS.ifNo X7.here hx rfl (hb hby d9_33) rfl ((if0 _ _).trans (feq (own_eq1 hy)).1) ?_
    show Steps p.tables e below (T7.setTop (mkF m 36 #[.val (.ref a1), .val .null, .val (.ref bi), .val (.int (2 : Int32)), .val (.int ((0 : Int32) + (1 : Int32))), .val (.ref t1)] [])) _
    refine XS.aload X7.here hx rfl (hb hby d9_36) rfl rfl ?_
    show Steps p.tables e below (T7.setTop (mkF m 38 #[.val (.ref a1), .val .null, .val (.ref bi), .val (.int (2 : Int32)), .val (.int ((0 : Int32) + (1 : Int32))), .val (.ref t1)] [(.ref t1)])) _
    refine XS.astoreN X7.here hx rfl (hb hby d9_38) rfl rfl (l' := #[.val (.ref a1), .val (.ref t1), .val (.ref bi), .val (.int (2 : Int32)), .val (.int ((0 : Int32) + (1 : Int32))), .val (.ref t1)]) rfl ?_
    show Steps p.tables e below (T7.setTop (mkF m 39 #[.val (.ref a1), .val (.ref t1), .val (.ref bi), .val (.int (2 : Int32)), .val (.int ((0 : Int32) + (1 : Int32))), .val (.ref t1)] [])) _
    refine XS.goto X7.here hx rfl (pc0 := 39) (pc' := 48) rfl (hb hby d9_39) (by decide) (by decide) ?_
    exact k
  obtain ⟨_, _, ⟨T9, L9, k9, n9⟩, -, X9, ⟨Lc9, hQ9, l9, y9, z9⟩, st9⟩ := Jvm.LawKit.callS X7 hx (y := (⟨"java/util/Optional", "ofNullable", "(Ljava/lang/Object;)Ljava/util/Optional;"⟩ : MethodName)) hown (mvT hZ (hw _ (List.mem_of_getElem? (i := 70) rfl))) (mvT hZ (hw _ (List.mem_of_getElem? (i := 71) rfl))) (mvT hZ (hw _ (List.mem_of_getElem? (i := 72) rfl))) (mvT hZ (hw _ (List.mem_of_getElem? (i := 73) rfl))) (by decide) (backOf (W := 0) (rm13r l Z a0 hw [] t1 T1.heap n0 Zs2) hZ (hw _ (List.mem_of_getElem? (i := 73) rfl)) (hw _ (List.mem_of_getElem? (i := 72) rfl)) (by decide) (by decide)) (g := (mkF m 49 #[.val (.ref a1), .val (.ref t1), .val (.ref bi), .val (.int (2 : Int32)), .val (.int ((0 : Int32) + (1 : Int32))), .val (.ref t1)] [(.ref t1)])) rfl (by rw [hml]; rfl) (argsL := [(.ref t1)]) (rest := []) (lenOf pd_3 rfl) rfl (by show 2 * 0 + _ ≤ _; exact Nat.le_of_eq rfl) (hb hby d9_49) (fun _ _ => ⟨rfl, e7q, (by decide : 1 + 1 ≤ _), (by decide : 2 + 1 ≤ _)⟩)
  dsimp only [Pt.U, Pt.locs, Pt.cells, Pt.slots] at X9 l9 y9 z9 st9 hQ9
  subst l9 y9 z9
  obtain ⟨oo, rfl, N9q, K9q, Eo, Fo⟩ := hQ9
  have N9 := Fr.app N7 N9q
  have S_com_example_sekisho_sekisho_registration_Factor__VALUES_9 := own_sta0 S_com_example_sekisho_sekisho_registration_Factor__VALUES_1 K9q
  have E_va_9 := E_va_1.keep K9q
  have F_t0_key_9 := F_t0_key_1.keep K9q nin0
  have Y_k0_9 := Y_k0_1.keep0 K9q
  have F_t1_key_9 := F_t1_key_1.keep K9q nin0
  have Y_k1_9 := Y_k1_1.keep0 K9q
  have S_java_util_Optional_EMPTY_9 := own_sta0 S_java_util_Optional_EMPTY_1 K9q
  have E_em_9 := E_em_1.keep K9q
  have F_em_value_9 := F_em_value_1.keep K9q nin0
  have S_java_lang_String_COMPACT_STRINGS_9 := own_sta0 S_java_lang_String_COMPACT_STRINGS_1 K9q
  have Y_a1_9 := Y_a1_1.keep0 K9q
  have E_k0_9 := Ea5.keep K9q
  have E_k1_9 := Ea8.keep K9q
  have Zs10 := Nat.le_trans Zs2 K9q.1
  have Kk9 := Kk1.trans K9q all0
  obtain ⟨fs, hr, hrun, hended, hW, hsame⟩ := X9.leave (v := some (.ref oo)) (fun h => by rw [Bd.returns] at h; cases h)
  refine ⟨_, _, pre6 _ ?_, hrun, hended, _, _, rfl, ?_, ⟨_, rfl⟩, hW, hsame.mono (by decide) (by decide)⟩
  · show Steps p.tables e below (T7.setTop (mkF m 48 #[.val (.ref a1), .val (.ref t1), .val (.ref bi), .val (.int (2 : Int32)), .val (.int ((0 : Int32) + (1 : Int32))), .val (.ref t1)] [])) _
    refine XS.aloadN X7.here hx rfl (hb hby d9_48) rfl rfl ?_
    show Steps p.tables e below (T7.setTop (mkF m 49 #[.val (.ref a1), .val (.ref t1), .val (.ref bi), .val (.int (2 : Int32)), .val (.int ((0 : Int32) + (1 : Int32))), .val (.ref t1)] [(.ref t1)])) _
    refine st9 _ ?_
    show Steps p.tables e below (T9.setTop (mkF m 52 #[.val (.ref a1), .val (.ref t1), .val (.ref bi), .val (.int (2 : Int32)), .val (.int ((0 : Int32) + (1 : Int32))), .val (.ref t1)] [(.ref oo)])) _
    exact retOut X9 hx Bd.returns rfl (Or.inr (Or.inr (Or.inr (Or.inr ⟨rfl, rfl, rfl⟩)))) (hb hby d9_52) hr
  · show Q9x1 Z a1 va cl t0 t1 k0 k1 em G1 cs h0 n0 _ T9.heap _
    exact ⟨_, rfl, N9, Kk9, Eo, Fo⟩
def Q9x2 (Z : State) (a1 : Addr) (va : Addr) (cl : Cell) (t0 t1 k0 k1 : Addr) (em : Addr) (G1 : Int32) (cs : List Int32) (h0 : Heap) (n0 : Nat) (v : Option Value) (h : Heap) (L : List Loc) : Prop := ∃ o : Addr, v = some (.ref o) ∧ Fr n0 L ∧ Keep h0 h [] ∧ Exa Z h o "java/util/Optional" ∧ Fld Z h o "java/util/Optional" "value" "Ljava/lang/Object;" .null
set_option maxRecDepth 65536 in
set_option maxHeartbeats 40000000 in
theorem rm9x2 (l : Launch) (Z : State) (a0 : Array Value) (hw : ∀ d ∈ tables_1, d.before a0 Z = true) (ws : List Jvm.Cond) (a1 : Addr) (va : Addr) (cl : Cell) (t0 t1 k0 k1 : Addr) (em : Addr) (G1 : Int32) (cs : List Int32) (h0 : Heap) (n0 : Nat) (Z0 : n0 ≤ h0.size) (SV : Sta Z h0 "com/example/sekisho/sekisho/registration/Factor" "$VALUES" "[Lcom/example/sekisho/sekisho/registration/Factor;" (.ref va)) (Ar : Arr Z h0 va cl (.object "com/example/sekisho/sekisho/registration/Factor")) (Eva : Exa Z h0 va "[Lcom/example/sekisho/sekisho/registration/Factor;") (Fc : FitC Z cl) (Sz : cl.slots.size = 2) (hs0 : cl.slots[0]? = some (.ref t0)) (hs1 : cl.slots[1]? = some (.ref t1)) (Fk0 : Fld Z h0 t0 "com/example/sekisho/sekisho/registration/Factor" "key" "Ljava/lang/String;" (.ref k0)) (Fk1 : Fld Z h0 t1 "com/example/sekisho/sekisho/registration/Factor" "key" "Ljava/lang/String;" (.ref k1)) (Y0 : own_str Z h0 k0 own_k0) (Y1 : own_str Z h0 k1 own_k1) (SE : Sta Z h0 "java/util/Optional" "EMPTY" "Ljava/util/Optional;" (.ref em)) (EE : Exa Z h0 em "java/util/Optional") (FE : Fld Z h0 em "java/util/Optional" "value" "Ljava/lang/Object;" .null) (S1 : Sta Z h0 "java/lang/String" "COMPACT_STRINGS" "Z" (.int G1)) (P5 : ¬ (G1 = (0 : Int32))) (Ys : own_str Z h0 a1 cs) (hn0 : ¬ own_k0 = cs) (hn1 : ¬ own_k1 = cs) :
    MetFree l (⟨"com/example/sekisho/sekisho/registration/Factor", "ofKey", "(Ljava/lang/String;)Ljava/util/Optional;"⟩ : MethodName) (head1 (Jvm.Cond.code (⟨"com/example/sekisho/sekisho/registration/Factor", "ofKey", "(Ljava/lang/String;)Ljava/util/Optional;"⟩ : MethodName) prog_12_method_6_code 6 (some (.object "java/util/Optional")) :: ws) ({ frames := 4, cells := 2, slots := 3, locals := 60 } : Room)) (fun a U => a = #[(.ref a1)] ∧ Z.Warmed39 U.vm ∧ U.heap = h0) (fun _ _ _ _ _ => True) (fun _ U o U' => ∃ v L, o = .returned v ∧ Q9x2 Z a1 va cl t0 t1 k0 k1 em G1 cs h0 n0 v U'.heap L ∧ FrameEnd U o U' L ({ frames := 4, cells := 2, slots := 3, locals := 60 } : Room).cells ({ frames := 4, cells := 2, slots := 3, locals := 60 } : Room).slots) := by
  refine MetFree.of_bodySF (plainFor_of_name pn_9) hisR ?_
  intro p e s m args below meth c s₁ Bd hml0 hP hK
  obtain ⟨rfl, hZ, hh⟩ := hP
  have hx := Bd.exec
  have hby := Bd.bytes
  have hml : c.maxLocals = 6 := hml0
  have hown : s.vm.findClass "com/example/sekisho/sekisho/registration/Factor" = some m.cls := findClass_of_methodNamed Bd.named
  have hnm := (name_of_methodNamed Bd.named Bd.method).1
  have X0 : Stand p l e ({ frames := 4, cells := 2, slots := 3, locals := 60 } : Room) s m #[(.ref a1)] below meth c s₁ [] 0 0 := Stand.of_body Bd
  have e0 : s₁.heap = h0 := by rw [← hh, Bd.state]; rfl
  have N0 := Fr.nil n0
  have pre0 : ∀ t, Steps p.tables e below (s₁.setTop (mkF m 0 #[.val (.ref a1), .unset, .unset, .unset, .unset, .unset] [])) t → Steps p.tables e below (s₁.setTop (entryFrame m #[(.ref a1)] 6)) t := fun t k => castTop (ef_9 m a1) k
  have KK0 := Keep.refl h0 []
  have heq : ∀ d ∈ StrChars.Road.wordsEq, d.before a0 Z = true := fun d hd => hw d ((by decide +kernel : ∀ d ∈ StrChars.Road.wordsEq, d ∈ tables_1) d hd)
  obtain ⟨_, _, ⟨T1, L1, k1, n1⟩, -, X1, ⟨Lc1, hQ1, l1, y1, z1⟩, st1⟩ := Jvm.LawKit.callS X0 hx (y := (⟨"com/example/sekisho/sekisho/registration/Factor", "values", "()[Lcom/example/sekisho/sekisho/registration/Factor;"⟩ : MethodName)) hown (mvT hZ (hw _ (List.mem_of_getElem? (i := 41) rfl))) (mvT hZ (hw _ (List.mem_of_getElem? (i := 42) rfl))) (mvT hZ (hw _ (List.mem_of_getElem? (i := 39) rfl))) (mvT hZ (hw _ (List.mem_of_getElem? (i := 43) rfl))) (by decide) (backOf (W := 0) (rm10 l Z a0 hw [] va cl h0 n0 Z0 SV Ar Eva Fc Sz) hZ (hw _ (List.mem_of_getElem? (i := 43) rfl)) (hw _ (List.mem_of_getElem? (i := 39) rfl)) (by decide) (by decide)) (g := (mkF m 2 #[.val (.ref a1), .val .null, .unset, .unset, .unset, .unset] [])) rfl (by rw [hml]; rfl) (argsL := []) (rest := []) (lenOf pd_1 rfl) rfl (by show 2 * 0 + _ ≤ _; exact Nat.le_of_eq rfl) (hb hby d9_2) (fun _ _ => ⟨rfl, e0, (by decide : 0 + 1 ≤ _), (by decide : 0 + 2 ≤ _)⟩)
  dsimp only [Pt.U, Pt.locs, Pt.cells, Pt.slots] at X1 l1 y1 z1 st1 hQ1
  subst l1 y1 z1
  obtain ⟨bi, rfl, N1q, K1q, Ab1q⟩ := hQ1
  have N1 := Fr.app N0 N1q
  have S_com_example_sekisho_sekisho_registration_Factor__VALUES_1 := own_sta0 SV K1q
  have E_va_1 := Eva.keep K1q
  have F_t0_key_1 := Fk0.keep K1q nin0
  have Y_k0_1 := Y0.keep0 K1q
  have F_t1_key_1 := Fk1.keep K1q nin0
  have Y_k1_1 := Y1.keep0 K1q
  have S_java_util_Optional_EMPTY_1 := own_sta0 SE K1q
  have E_em_1 := EE.keep K1q
  have F_em_value_1 := FE.keep K1q nin0
  have S_java_lang_String_COMPACT_STRINGS_1 := own_sta0 S1 K1q
  have Y_a1_1 := Ys.keep0 K1q
  have Zs2 := Nat.le_trans Z0 K1q.1
  have Kk1 := KK0.trans K1q all0
  have Szb : (cloneOf cl).slots.size = (2 : Int32).toNatClampNeg := Sz
  have hin0 : ¬ ((0 : Int32) < 0 ∨ (cloneOf cl).slots.size ≤ ((0 : Int32)).toNatClampNeg) := inb_of Szb ⟨by decide, by decide⟩
  have hat0 : (cloneOf cl).slots[((0 : Int32)).toNatClampNeg]? = some (.ref t0) := hs0
  have hin1 : ¬ (((0 : Int32) + (1 : Int32)) < 0 ∨ (cloneOf cl).slots.size ≤ (((0 : Int32) + (1 : Int32))).toNatClampNeg) := inb_of Szb ⟨by decide, by decide⟩
  have hat1 : (cloneOf cl).slots[(((0 : Int32) + (1 : Int32))).toNatClampNeg]? = some (.ref t1) := hs1
  have pre1 : ∀ t, Steps p.tables e below (T1.setTop (mkF m 6 #[.val (.ref a1), .val .null, .val (.ref bi), .unset, .unset, .unset] [])) t → Steps p.tables e below (s₁.setTop (entryFrame m #[(.ref a1)] 6)) t := by
    intro t k
    refine pre0 t ?_
    show Steps p.tables e below (s₁.setTop (mkF m 0 #[.val (.ref a1), .unset, .unset, .unset, .unset, .unset] [])) _
    refine XS.aconstNull X0.here hx rfl (hb hby d9_0) ?_
    show Steps p.tables e below (s₁.setTop (mkF m 1 #[.val (.ref a1), .unset, .unset, .unset, .unset, .unset] [.null])) _
    refine XS.astoreN X0.here hx rfl (hb hby d9_1) rfl rfl (l' := #[.val (.ref a1), .val .null, .unset, .unset, .unset, .unset]) rfl ?_
    show Steps p.tables e below (s₁.setTop (mkF m 2 #[.val (.ref a1), .val .null, .unset, .unset, .unset, .unset] [])) _
    refine st1 _ ?_
    show Steps p.tables e below (T1.setTop (mkF m 5 #[.val (.ref a1), .val .null, .unset, .unset, .unset, .unset] [(.ref bi)])) _
    refine XS.astoreN X1.here hx rfl (hb hby d9_5) rfl rfl (l' := #[.val (.ref a1), .val .null, .val (.ref bi), .unset, .unset, .unset]) rfl ?_
    exact k
  have pre2 : ∀ t, Steps p.tables e below (T1.setTop (mkF m 12 #[.val (.ref a1), .val .null, .val (.ref bi), .val (.int (2 : Int32)), .val (.int (0 : Int32)), .unset] [])) t → Steps p.tables e below (s₁.setTop (entryFrame m #[(.ref a1)] 6)) t := by
    intro t k
    refine pre1 t ?_
    show Steps p.tables e below (T1.setTop (mkF m 6 #[.val (.ref a1), .val .null, .val (.ref bi), .unset, .unset, .unset] [])) _
    refine XS.aloadN X1.here hx rfl (hb hby d9_6) rfl rfl ?_
    show Steps p.tables e below (T1.setTop (mkF m 7 #[.val (.ref a1), .val .null, .val (.ref bi), .unset, .unset, .unset] [(.ref bi)])) _
    refine X1.arraylength hx (by exact Ab1q.1) (State.isArrayOf_alike hZ.alike Ab1q.2.1) (g := (mkF m 7 #[.val (.ref a1), .val .null, .val (.ref bi), .unset, .unset, .unset] [(.ref bi)])) rfl rfl (hb hby d9_7) _ ?_
    rw [len_of Szb (by decide)]
    show Steps p.tables e below (T1.setTop (mkF m 8 #[.val (.ref a1), .val .null, .val (.ref bi), .unset, .unset, .unset] [(.int (2 : Int32))])) _
    refine XS.istoreN X1.here hx rfl (hb hby d9_8) rfl (l' := #[.val (.ref a1), .val .null, .val (.ref bi), .val (.int (2 : Int32)), .unset, .unset]) rfl ?_
    show Steps p.tables e below (T1.setTop (mkF m 9 #[.val (.ref a1), .val .null, .val (.ref bi), .val (.int (2 : Int32)), .unset, .unset] [])) _
    refine XS.iconst X1.here hx rfl (hb hby d9_9) ?_
    show Steps p.tables e below (T1.setTop (mkF m 10 #[.val (.ref a1), .val .null, .val (.ref bi), .val (.int (2 : Int32)), .unset, .unset] [(.int (0 : Int32))])) _
    refine XS.istore X1.here hx rfl (hb hby d9_10) rfl (l' := #[.val (.ref a1), .val .null, .val (.ref bi), .val (.int (2 : Int32)), .val (.int (0 : Int32)), .unset]) rfl ?_
    exact k
  obtain ⟨T3, X3, e3, st3⟩ := getF X1 hx hZ hown (host := "") (Or.inl (hw _ (List.mem_of_getElem? (i := 58) rfl))) Via.refl rfl F_t0_key_1 (g := (mkF m 26 #[.val (.ref a1), .val .null, .val (.ref bi), .val (.int (2 : Int32)), .val (.int (0 : Int32)), .val (.ref t0)] [(.ref t0)])) rfl rfl (hb hby d9_26)
  obtain ⟨ta5, ka5, na5, Ea5, Va5, Ca5, Ka5, pa5, la5, ma5⟩ := id Y_k0_1
  obtain ⟨tb5, kb5, nb5, Eb5, Vb5, Cb5, Kb5, pb5, lb5, mb5⟩ := id Y_a1_1
  obtain ⟨cq4, kq4, q4a, q4b, q4c⟩ := isOf hZ e3 Ea5
  obtain ⟨_, _, ⟨T4, L4, k4, n4⟩, -, X4, ⟨Lc4, hQ4, l4, y4, z4⟩, st4⟩ := X3.virtualBack hx (y := (⟨"java/lang/String", "equals", "(Ljava/lang/Object;)Z"⟩ : MethodName)) (z := (⟨"java/lang/String", "equals", "(Ljava/lang/Object;)Z"⟩ : MethodName)) hown (mvT hZ (hw _ (List.mem_of_getElem? (i := 60) rfl))) (mvT hZ (hw _ (List.mem_of_getElem? (i := 61) rfl))) (notFace_of_selects (args := #[]) (mvT hZ (hw _ (List.mem_of_getElem? (i := 63) rfl)))) (mvT hZ (hw _ (List.mem_of_getElem? (i := 63) rfl))) (mvT hZ (hw _ (List.mem_of_getElem? (i := 62) rfl))) (by decide) (StrChars.Road.eqW (W := 0) hZ heq (kI := 4) (hw _ (List.mem_of_getElem? (i := 5) rfl)) Ea5 Va5 Ca5 Ka5 (StrChars.Road.codOf la5 (fun c hc => (pa5 c hc).2)) (own_up pa5) (la5 ▸ ma5) Eb5 Vb5 Cb5 Kb5 (StrChars.Road.codOf lb5 (fun c hc => (pb5 c hc).2)) (own_up pb5) (lb5 ▸ mb5) S_java_lang_String_COMPACT_STRINGS_1 P5 (by decide) (by decide)) q4a q4c (g := (mkF m 30 #[.val (.ref a1), .val .null, .val (.ref bi), .val (.int (2 : Int32)), .val (.int (0 : Int32)), .val (.ref t0)] [(.ref a1), (.ref k0)])) rfl (by rw [hml]; rfl) (Steps.refl _) (argsL := [(.ref a1)]) (rest := []) (lenOf pd_2 rfl) rfl (by show 2 * 0 + _ ≤ _; exact Nat.le_of_eq rfl) (hb hby d9_30) (fun _ _ => ⟨rfl, e3, (by decide : 1 + 0 ≤ _), (by decide : 2 + 0 ≤ _)⟩)
  dsimp only [Pt.U, Pt.locs, Pt.cells, Pt.slots] at X4 l4 y4 z4 st4 hQ4
  subst l4 y4 z4
  obtain ⟨hv4, rfl, e4q⟩ := hQ4
  obtain rfl := own_eqv hv4
  have N4q : Fr n0 ([] : List Loc) := Fr.nil n0
  have N4 := Fr.app N1 N4q
  have pre3 : ∀ t, Steps p.tables e below (T4.setTop (mkF m 33 #[.val (.ref a1), .val .null, .val (.ref bi), .val (.int (2 : Int32)), .val (.int (0 : Int32)), .val (.ref t0)] [(.int (own_eqs own_k0 cs))])) t → Steps p.tables e below (s₁.setTop (entryFrame m #[(.ref a1)] 6)) t := by
    intro t k
    refine pre2 t ?_
    show Steps p.tables e below (T1.setTop (mkF m 12 #[.val (.ref a1), .val .null, .val (.ref bi), .val (.int (2 : Int32)), .val (.int (0 : Int32)), .unset] [])) _
    refine XS.iload X1.here hx rfl (hb hby d9_12) rfl ?_
    show Steps p.tables e below (T1.setTop (mkF m 14 #[.val (.ref a1), .val .null, .val (.ref bi), .val (.int (2 : Int32)), .val (.int (0 : Int32)), .unset] [(.int (0 : Int32))])) _
    refine XS.iloadN X1.here hx rfl (hb hby d9_14) rfl ?_
    show Steps p.tables e below (T1.setTop (mkF m 15 #[.val (.ref a1), .val .null, .val (.ref bi), .val (.int (2 : Int32)), .val (.int (0 : Int32)), .unset] [(.int (2 : Int32)), (.int (0 : Int32))])) _
    refine XS.icmpNo X1.here hx rfl (hb hby d9_15) rfl (tlt (by decide : (0 : Int32) < (2 : Int32))).2.1 ?_
    show Steps p.tables e below (T1.setTop (mkF m 18 #[.val (.ref a1), .val .null, .val (.ref bi), .val (.int (2 : Int32)), .val (.int (0 : Int32)), .unset] [])) _
    refine XS.aloadN X1.here hx rfl (hb hby d9_18) rfl rfl ?_
    show Steps p.tables e below (T1.setTop (mkF m 19 #[.val (.ref a1), .val .null, .val (.ref bi), .val (.int (2 : Int32)), .val (.int (0 : Int32)), .unset] [(.ref bi)])) _
    refine XS.iload X1.here hx rfl (hb hby d9_19) rfl ?_
    show Steps p.tables e below (T1.setTop (mkF m 21 #[.val (.ref a1), .val .null, .val (.ref bi), .val (.int (2 : Int32)), .val (.int (0 : Int32)), .unset] [(.int (0 : Int32)), (.ref bi)])) _
    refine X1.aaload hx (j := (0 : Int32)) (v := (.ref t0)) (by exact Ab1q.1) (State.isArrayOf_alike hZ.alike Ab1q.2.1) rfl Ab1q.2.2 hin0 hat0 (g := (mkF m 21 #[.val (.ref a1), .val .null, .val (.ref bi), .val (.int (2 : Int32)), .val (.int (0 : Int32)), .unset] [(.int (0 : Int32)), (.ref bi)])) rfl rfl (hb hby d9_21) _ ?_
    show Steps p.tables e below (T1.setTop (mkF m 22 #[.val (.ref a1), .val .null, .val (.ref bi), .val (.int (2 : Int32)), .val (.int (0 : Int32)), .unset] [(.ref t0)])) _
    refine XS.astore X1.here hx rfl (hb hby d9_22) rfl rfl (l' := #[.val (.ref a1), .val .null, .val (.ref bi), .val (.int (2 : Int32)), .val (.int (0 : Int32)), .val (.ref t0)]) rfl ?_
    show Steps p.tables e below (T1.setTop (mkF m 24 #[.val (.ref a1), .val .null, .val (.ref bi), .val (.int (2 : Int32)), .val (.int (0 : Int32)), .val (.ref t0)] [])) _
    refine XS.aload X1.here hx rfl (hb hby d9_24) rfl rfl ?_
    show Steps p.tables e below (T1.setTop (mkF m 26 #[.val (.ref a1), .val .null, .val (.ref bi), .val (.int (2 : Int32)), .val (.int (0 : Int32)), .val (.ref t0)] [(.ref t0)])) _
    refine st3 _ ?_
    show Steps p.tables e below (T3.setTop (mkF m 29 #[.val (.ref a1), .val .null, .val (.ref bi), .val (.int (2 : Int32)), .val (.int (0 : Int32)), .val (.ref t0)] [(.ref k0)])) _
    refine XS.aloadN X3.here hx rfl (hb hby d9_29) rfl rfl ?_
    show Steps p.tables e below (T3.setTop (mkF m 30 #[.val (.ref a1), .val .null, .val (.ref bi), .val (.int (2 : Int32)), .val (.int (0 : Int32)), .val (.ref t0)] [(.ref a1), (.ref k0)])) _
    refine st4.trans ?_
    exact k
  have pre4 : ∀ t, Steps p.tables e below (T4.setTop (mkF m 12 #[.val (.ref a1), .val .null, .val (.ref bi), .val (.int (2 : Int32)), .val (.int ((0 : Int32) + (1 : Int32))), .val (.ref t0)] [])) t → Steps p.tables e below (s₁.setTop (entryFrame m #[(.ref a1)] 6)) t := by
    intro t k
    refine pre3 t ?_
    show Steps p.tables e below (T4.setTop (mkF m 33 #[.val (.ref a1), .val .null, .val (.ref bi), .val (.int (2 : Int32)), .val (.int (0 : Int32)), .val (.ref t0)] [(.int (own_eqs own_k0 cs))])) _
    refine XS.ifYes X4.here hx rfl (pc0 := 33) (pc' := 42) rfl (hb hby d9_33) rfl ((if0 _ _).trans (teq (own_eq0 hn0)).1) (by decide) (by decide) ?_
    show Steps p.tables e below (T4.setTop (mkF m 42 #[.val (.ref a1), .val .null, .val (.ref bi), .val (.int (2 : Int32)), .val (.int (0 : Int32)), .val (.ref t0)] [])) _
    refine XS.iinc X4.here hx rfl (hb hby d9_42) rfl (l' := #[.val (.ref a1), .val .null, .val (.ref bi), .val (.int (2 : Int32)), .val (.int ((0 : Int32) + (1 : Int32))), .val (.ref t0)]) rfl ?_
    show Steps p.tables e below (T4.setTop (mkF m 45 #[.val (.ref a1), .val .null, .val (.ref bi), .val (.int (2 : Int32)), .val (.int ((0 : Int32) + (1 : Int32))), .val (.ref t0)] [])) _
    refine XS.goto X4.here hx rfl (pc0 := 45) (pc' := 12) rfl (hb hby d9_45) (by decide) (by decide) ?_
    exact k
  obtain ⟨T6, X6, e6, st6⟩ := getF X4 hx hZ hown (host := "") (Or.inl (hw _ (List.mem_of_getElem? (i := 58) rfl))) Via.refl e4q F_t1_key_1 (g := (mkF m 26 #[.val (.ref a1), .val .null, .val (.ref bi), .val (.int (2 : Int32)), .val (.int ((0 : Int32) + (1 : Int32))), .val (.ref t1)] [(.ref t1)])) rfl rfl (hb hby d9_26)
  obtain ⟨ta8, ka8, na8, Ea8, Va8, Ca8, Ka8, pa8, la8, ma8⟩ := id Y_k1_1
  obtain ⟨tb8, kb8, nb8, Eb8, Vb8, Cb8, Kb8, pb8, lb8, mb8⟩ := id Y_a1_1
  obtain ⟨cq7, kq7, q7a, q7b, q7c⟩ := isOf hZ e6 Ea8
  obtain ⟨_, _, ⟨T7, L7, k7, n7⟩, -, X7, ⟨Lc7, hQ7, l7, y7, z7⟩, st7⟩ := X6.virtualBack hx (y := (⟨"java/lang/String", "equals", "(Ljava/lang/Object;)Z"⟩ : MethodName)) (z := (⟨"java/lang/String", "equals", "(Ljava/lang/Object;)Z"⟩ : MethodName)) hown (mvT hZ (hw _ (List.mem_of_getElem? (i := 60) rfl))) (mvT hZ (hw _ (List.mem_of_getElem? (i := 61) rfl))) (notFace_of_selects (args := #[]) (mvT hZ (hw _ (List.mem_of_getElem? (i := 63) rfl)))) (mvT hZ (hw _ (List.mem_of_getElem? (i := 63) rfl))) (mvT hZ (hw _ (List.mem_of_getElem? (i := 62) rfl))) (by decide) (StrChars.Road.eqW (W := 0) hZ heq (kI := 4) (hw _ (List.mem_of_getElem? (i := 5) rfl)) Ea8 Va8 Ca8 Ka8 (StrChars.Road.codOf la8 (fun c hc => (pa8 c hc).2)) (own_up pa8) (la8 ▸ ma8) Eb8 Vb8 Cb8 Kb8 (StrChars.Road.codOf lb8 (fun c hc => (pb8 c hc).2)) (own_up pb8) (lb8 ▸ mb8) S_java_lang_String_COMPACT_STRINGS_1 P5 (by decide) (by decide)) q7a q7c (g := (mkF m 30 #[.val (.ref a1), .val .null, .val (.ref bi), .val (.int (2 : Int32)), .val (.int ((0 : Int32) + (1 : Int32))), .val (.ref t1)] [(.ref a1), (.ref k1)])) rfl (by rw [hml]; rfl) (Steps.refl _) (argsL := [(.ref a1)]) (rest := []) (lenOf pd_2 rfl) rfl (by show 2 * 0 + _ ≤ _; exact Nat.le_of_eq rfl) (hb hby d9_30) (fun _ _ => ⟨rfl, e6, (by decide : 1 + 0 ≤ _), (by decide : 2 + 0 ≤ _)⟩)
  dsimp only [Pt.U, Pt.locs, Pt.cells, Pt.slots] at X7 l7 y7 z7 st7 hQ7
  subst l7 y7 z7
  obtain ⟨hv7, rfl, e7q⟩ := hQ7
  obtain rfl := own_eqv hv7
  have N7q : Fr n0 ([] : List Loc) := Fr.nil n0
  have N7 := Fr.app N4 N7q
  have pre5 : ∀ t, Steps p.tables e below (T7.setTop (mkF m 33 #[.val (.ref a1), .val .null, .val (.ref bi), .val (.int (2 : Int32)), .val (.int ((0 : Int32) + (1 : Int32))), .val (.ref t1)] [(.int (own_eqs own_k1 cs))])) t → Steps p.tables e below (s₁.setTop (entryFrame m #[(.ref a1)] 6)) t := by
    intro t k
    refine pre4 t ?_
    show Steps p.tables e below (T4.setTop (mkF m 12 #[.val (.ref a1), .val .null, .val (.ref bi), .val (.int (2 : Int32)), .val (.int ((0 : Int32) + (1 : Int32))), .val (.ref t0)] [])) _
    refine XS.iload X4.here hx rfl (hb hby d9_12) rfl ?_
    show Steps p.tables e below (T4.setTop (mkF m 14 #[.val (.ref a1), .val .null, .val (.ref bi), .val (.int (2 : Int32)), .val (.int ((0 : Int32) + (1 : Int32))), .val (.ref t0)] [(.int ((0 : Int32) + (1 : Int32)))])) _
    refine XS.iloadN X4.here hx rfl (hb hby d9_14) rfl ?_
    show Steps p.tables e below (T4.setTop (mkF m 15 #[.val (.ref a1), .val .null, .val (.ref bi), .val (.int (2 : Int32)), .val (.int ((0 : Int32) + (1 : Int32))), .val (.ref t0)] [(.int (2 : Int32)), (.int ((0 : Int32) + (1 : Int32)))])) _
    refine XS.icmpNo X4.here hx rfl (hb hby d9_15) rfl (tlt (by decide : ((0 : Int32) + (1 : Int32)) < (2 : Int32))).2.1 ?_
    show Steps p.tables e below (T4.setTop (mkF m 18 #[.val (.ref a1), .val .null, .val (.ref bi), .val (.int (2 : Int32)), .val (.int ((0 : Int32) + (1 : Int32))), .val (.ref t0)] [])) _
    refine XS.aloadN X4.here hx rfl (hb hby d9_18) rfl rfl ?_
    show Steps p.tables e below (T4.setTop (mkF m 19 #[.val (.ref a1), .val .null, .val (.ref bi), .val (.int (2 : Int32)), .val (.int ((0 : Int32) + (1 : Int32))), .val (.ref t0)] [(.ref bi)])) _
    refine XS.iload X4.here hx rfl (hb hby d9_19) rfl ?_
    show Steps p.tables e below (T4.setTop (mkF m 21 #[.val (.ref a1), .val .null, .val (.ref bi), .val (.int (2 : Int32)), .val (.int ((0 : Int32) + (1 : Int32))), .val (.ref t0)] [(.int ((0 : Int32) + (1 : Int32))), (.ref bi)])) _
    refine X4.aaload hx (j := ((0 : Int32) + (1 : Int32))) (v := (.ref t1)) (by rw [e4q]; exact Ab1q.1) (State.isArrayOf_alike hZ.alike Ab1q.2.1) rfl Ab1q.2.2 hin1 hat1 (g := (mkF m 21 #[.val (.ref a1), .val .null, .val (.ref bi), .val (.int (2 : Int32)), .val (.int ((0 : Int32) + (1 : Int32))), .val (.ref t0)] [(.int ((0 : Int32) + (1 : Int32))), (.ref bi)])) rfl rfl (hb hby d9_21) _ ?_
    show Steps p.tables e below (T4.setTop (mkF m 22 #[.val (.ref a1), .val .null, .val (.ref bi), .val (.int (2 : Int32)), .val (.int ((0 : Int32) + (1 : Int32))), .val (.ref t0)] [(.ref t1)])) _
    refine XS.astore X4.here hx rfl (hb hby d9_22) rfl rfl (l' := #[.val (.ref a1), .val .null, .val (.ref bi), .val (.int (2 : Int32)), .val (.int ((0 : Int32) + (1 : Int32))), .val (.ref t1)]) rfl ?_
    show Steps p.tables e below (T4.setTop (mkF m 24 #[.val (.ref a1), .val .null, .val (.ref bi), .val (.int (2 : Int32)), .val (.int ((0 : Int32) + (1 : Int32))), .val (.ref t1)] [])) _
    refine XS.aload X4.here hx rfl (hb hby d9_24) rfl rfl ?_
    show Steps p.tables e below (T4.setTop (mkF m 26 #[.val (.ref a1), .val .null, .val (.ref bi), .val (.int (2 : Int32)), .val (.int ((0 : Int32) + (1 : Int32))), .val (.ref t1)] [(.ref t1)])) _
    refine st6 _ ?_
    show Steps p.tables e below (T6.setTop (mkF m 29 #[.val (.ref a1), .val .null, .val (.ref bi), .val (.int (2 : Int32)), .val (.int ((0 : Int32) + (1 : Int32))), .val (.ref t1)] [(.ref k1)])) _
    refine XS.aloadN X6.here hx rfl (hb hby d9_29) rfl rfl ?_
    show Steps p.tables e below (T6.setTop (mkF m 30 #[.val (.ref a1), .val .null, .val (.ref bi), .val (.int (2 : Int32)), .val (.int ((0 : Int32) + (1 : Int32))), .val (.ref t1)] [(.ref a1), (.ref k1)])) _
    refine st7.trans ?_
    exact k
  have pre6 : ∀ t, Steps p.tables e below (T7.setTop (mkF m 12 #[.val (.ref a1), .val .null, .val (.ref bi), .val (.int (2 : Int32)), .val (.int (((0 : Int32) + (1 : Int32)) + (1 : Int32))), .val (.ref t1)] [])) t → Steps p.tables e below (s₁.setTop (entryFrame m #[(.ref a1)] 6)) t := by
    intro t k
    refine pre5 t ?_
    show Steps p.tables e below (T7.setTop (mkF m 33 #[.val (.ref a1), .val .null, .val (.ref bi), .val (.int (2 : Int32)), .val (.int ((0 : Int32) + (1 : Int32))), .val (.ref t1)] [(.int (own_eqs own_k1 cs))])) _
    refine XS.ifYes X7.here hx rfl (pc0 := 33) (pc' := 42) rfl (hb hby d9_33) rfl ((if0 _ _).trans (teq (own_eq0 hn1)).1) (by decide) (by decide) ?_
    show Steps p.tables e below (T7.setTop (mkF m 42 #[.val (.ref a1), .val .null, .val (.ref bi), .val (.int (2 : Int32)), .val (.int ((0 : Int32) + (1 : Int32))), .val (.ref t1)] [])) _
    refine XS.iinc X7.here hx rfl (hb hby d9_42) rfl (l' := #[.val (.ref a1), .val .null, .val (.ref bi), .val (.int (2 : Int32)), .val (.int (((0 : Int32) + (1 : Int32)) + (1 : Int32))), .val (.ref t1)]) rfl ?_
    show Steps p.tables e below (T7.setTop (mkF m 45 #[.val (.ref a1), .val .null, .val (.ref bi), .val (.int (2 : Int32)), .val (.int (((0 : Int32) + (1 : Int32)) + (1 : Int32))), .val (.ref t1)] [])) _
    refine XS.goto X7.here hx rfl (pc0 := 45) (pc' := 12) rfl (hb hby d9_45) (by decide) (by decide) ?_
    exact k
  have pre7 : ∀ t, Steps p.tables e below (T7.setTop (mkF m 48 #[.val (.ref a1), .val .null, .val (.ref bi), .val (.int (2 : Int32)), .val (.int (((0 : Int32) + (1 : Int32)) + (1 : Int32))), .val (.ref t1)] [])) t → Steps p.tables e below (s₁.setTop (entryFrame m #[(.ref a1)] 6)) t := by
    intro t k
    refine pre6 t ?_
    show Steps p.tables e below (T7.setTop (mkF m 12 #[.val (.ref a1), .val .null, .val (.ref bi), .val (.int (2 : Int32)), .val (.int (((0 : Int32) + (1 : Int32)) + (1 : Int32))), .val (.ref t1)] [])) _
    refine XS.iload X7.here hx rfl (hb hby d9_12) rfl ?_
    show Steps p.tables e below (T7.setTop (mkF m 14 #[.val (.ref a1), .val .null, .val (.ref bi), .val (.int (2 : Int32)), .val (.int (((0 : Int32) + (1 : Int32)) + (1 : Int32))), .val (.ref t1)] [(.int (((0 : Int32) + (1 : Int32)) + (1 : Int32)))])) _
    refine XS.iloadN X7.here hx rfl (hb hby d9_14) rfl ?_
    show Steps p.tables e below (T7.setTop (mkF m 15 #[.val (.ref a1), .val .null, .val (.ref bi), .val (.int (2 : Int32)), .val (.int (((0 : Int32) + (1 : Int32)) + (1 : Int32))), .val (.ref t1)] [(.int (2 : Int32)), (.int (((0 : Int32) + (1 : Int32)) + (1 : Int32)))])) _
    refine XS.icmpYes X7.here hx rfl (pc0 := 15) (pc' := 48) rfl (hb hby d9_15) rfl (flt (by decide : ¬ ((((0 : Int32) + (1 : Int32)) + (1 : Int32)) < (2 : Int32)))).2.1 (by decide) (by decide) ?_
    exact k
  obtain ⟨_, _, ⟨T9, L9, k9, n9⟩, -, X9, ⟨Lc9, hQ9, l9, y9, z9⟩, st9⟩ := Jvm.LawKit.callS X7 hx (y := (⟨"java/util/Optional", "ofNullable", "(Ljava/lang/Object;)Ljava/util/Optional;"⟩ : MethodName)) hown (mvT hZ (hw _ (List.mem_of_getElem? (i := 70) rfl))) (mvT hZ (hw _ (List.mem_of_getElem? (i := 71) rfl))) (mvT hZ (hw _ (List.mem_of_getElem? (i := 72) rfl))) (mvT hZ (hw _ (List.mem_of_getElem? (i := 73) rfl))) (by decide) (backOf (W := 0) (rm13n l Z a0 hw [] em T1.heap n0 Zs2 S_java_util_Optional_EMPTY_1) hZ (hw _ (List.mem_of_getElem? (i := 73) rfl)) (hw _ (List.mem_of_getElem? (i := 72) rfl)) (by decide) (by decide)) (g := (mkF m 49 #[.val (.ref a1), .val .null, .val (.ref bi), .val (.int (2 : Int32)), .val (.int (((0 : Int32) + (1 : Int32)) + (1 : Int32))), .val (.ref t1)] [.null])) rfl (by rw [hml]; rfl) (argsL := [.null]) (rest := []) (lenOf pd_3 rfl) rfl (by show 2 * 0 + _ ≤ _; exact Nat.le_of_eq rfl) (hb hby d9_49) (fun _ _ => ⟨rfl, e7q, (by decide : 1 + 0 ≤ _), (by decide : 2 + 0 ≤ _)⟩)
  dsimp only [Pt.U, Pt.locs, Pt.cells, Pt.slots] at X9 l9 y9 z9 st9 hQ9
  subst l9 y9 z9
  obtain ⟨rfl, N9q, e9q⟩ := hQ9
  have N9 := Fr.app N7 N9q
  obtain ⟨fs, hr, hrun, hended, hW, hsame⟩ := X9.leave (v := some (.ref em)) (fun h => by rw [Bd.returns] at h; cases h)
  refine ⟨_, _, pre7 _ ?_, hrun, hended, _, _, rfl, ?_, ⟨_, rfl⟩, hW, hsame.mono (by decide) (by decide)⟩
  · show Steps p.tables e below (T7.setTop (mkF m 48 #[.val (.ref a1), .val .null, .val (.ref bi), .val (.int (2 : Int32)), .val (.int (((0 : Int32) + (1 : Int32)) + (1 : Int32))), .val (.ref t1)] [])) _
    refine XS.aloadN X7.here hx rfl (hb hby d9_48) rfl rfl ?_
    show Steps p.tables e below (T7.setTop (mkF m 49 #[.val (.ref a1), .val .null, .val (.ref bi), .val (.int (2 : Int32)), .val (.int (((0 : Int32) + (1 : Int32)) + (1 : Int32))), .val (.ref t1)] [.null])) _
    refine st9 _ ?_
    show Steps p.tables e below (T9.setTop (mkF m 52 #[.val (.ref a1), .val .null, .val (.ref bi), .val (.int (2 : Int32)), .val (.int (((0 : Int32) + (1 : Int32)) + (1 : Int32))), .val (.ref t1)] [(.ref em)])) _
    exact retOut X9 hx Bd.returns rfl (Or.inr (Or.inr (Or.inr (Or.inr ⟨rfl, rfl, rfl⟩)))) (hb hby d9_52) hr
  · show Q9x2 Z a1 va cl t0 t1 k0 k1 em G1 cs h0 n0 _ T9.heap _
    rw [e9q]
    exact ⟨_, rfl, N9, Kk1, E_em_1, F_em_value_1⟩
def Q2k0 (Z : State) (p1 : Int32) (h0 : Heap) (n0 : Nat) (v : Option Value) (h : Heap) (L : List Loc) : Prop := ∃ (b : Addr) (kc : ClassId), v = some (.ref b) ∧ Fr n0 L ∧ Keep h0 h [] ∧ h0.size ≤ b ∧ Arv Z h b kc .char (16 : Int32) (own_c0.map Value.int) (.int (0 : Int32))
set_option maxRecDepth 65536 in
set_option maxHeartbeats 40000000 in
theorem rm2k0 (l : Launch) (Z : State) (a0 : Array Value) (hw : ∀ d ∈ tables_1, d.before a0 Z = true) (ws : List Jvm.Cond) (p1 : Int32) (h0 : Heap) (n0 : Nat) (Z0 : n0 ≤ h0.size) (c1 : p1 = 0) :
    MetFree l (⟨"com/example/sekisho/sekisho/registration/FactorOfKeyPinLaw", "keyChars", "(Z)[C"⟩ : MethodName) (head1 (Jvm.Cond.code (⟨"com/example/sekisho/sekisho/registration/FactorOfKeyPinLaw", "keyChars", "(Z)[C"⟩ : MethodName) method_4_code 1 (some (.array .char)) :: ws) ({ frames := 0, cells := 1, slots := 16, locals := 0 } : Room)) (fun a U => a = #[(.int p1)] ∧ Z.Warmed39 U.vm ∧ U.heap = h0) (fun _ _ _ _ _ => True) (fun _ U o U' => ∃ v L, o = .returned v ∧ Q2k0 Z p1 h0 n0 v U'.heap L ∧ FrameEnd U o U' L ({ frames := 0, cells := 1, slots := 16, locals := 0 } : Room).cells ({ frames := 0, cells := 1, slots := 16, locals := 0 } : Room).slots) := by
  refine MetFree.of_bodySF (plainFor_of_name pn_2) hisR ?_
  intro p e s m args below meth c s₁ Bd hml0 hP hK
  obtain ⟨rfl, hZ, hh⟩ := hP
  have hx := Bd.exec
  have hby := Bd.bytes
  have hml : c.maxLocals = 1 := hml0
  have hown : s.vm.findClass "com/example/sekisho/sekisho/registration/FactorOfKeyPinLaw" = some m.cls := findClass_of_methodNamed Bd.named
  have hnm := (name_of_methodNamed Bd.named Bd.method).1
  have X0 : Stand p l e ({ frames := 0, cells := 1, slots := 16, locals := 0 } : Room) s m #[(.int p1)] below meth c s₁ [] 0 0 := Stand.of_body Bd
  have e0 : s₁.heap = h0 := by rw [← hh, Bd.state]; rfl
  have N0 := Fr.nil n0
  have pre0 : ∀ t, Steps p.tables e below (s₁.setTop (mkF m 0 #[.val (.int p1)] [])) t → Steps p.tables e below (s₁.setTop (entryFrame m #[(.int p1)] 1)) t := fun t k => castTop (ef_2 m p1) k
  have KK0 := Keep.refl h0 []
  have pre1 : ∀ t, Steps p.tables e below (s₁.setTop (mkF m 87 #[.val (.int p1)] [])) t → Steps p.tables e below (s₁.setTop (entryFrame m #[(.int p1)] 1)) t := by
    intro t k
    refine pre0 t ?_
    show Steps p.tables e below (s₁.setTop (mkF m 0 #[.val (.int p1)] [])) _
    refine XS.iloadN X0.here hx rfl (hb hby d2_0) rfl ?_
    show Steps p.tables e below (s₁.setTop (mkF m 1 #[.val (.int p1)] [(.int p1)])) _
    refine XS.ifYes X0.here hx rfl (pc0 := 1) (pc' := 87) rfl (hb hby d2_1) rfl ((if0 _ _).trans (teq c1).1) (by decide) (by decide) ?_
    exact k
  obtain ⟨T1, h1, k1, X1, e1, E1, A1, st1⟩ := newP X0 hx hZ (hw _ (List.mem_of_getElem? (i := 10) rfl)) e0 (g := (mkF m 89 #[.val (.int p1)] [(.int (16 : Int32))])) rfl (hb hby d2_89) rfl (by decide) (cap := 16) (by decide) (by decide) (by decide) (by decide)
  obtain ⟨b1, g1⟩ : ∃ z, z = h0.size := ⟨_, rfl⟩
  rw [← g1] at A1 st1
  have g_b1 : n0 ≤ b1 := Nat.le_trans Z0 (Nat.le_of_eq g1.symm)
  have sz_b1 := Nat.le_trans KK0.1 (Nat.le_of_eq g1.symm)
  have Zs2 := Nat.le_trans Z0 E1.1
  have Kk1 := KK0.ext E1
  have V_b1 : Arv Z h1 b1 k1 .char (16 : Int32) [(.int (0 : Int32)), (.int (0 : Int32)), (.int (0 : Int32)), (.int (0 : Int32)), (.int (0 : Int32)), (.int (0 : Int32)), (.int (0 : Int32)), (.int (0 : Int32)), (.int (0 : Int32)), (.int (0 : Int32)), (.int (0 : Int32)), (.int (0 : Int32)), (.int (0 : Int32)), (.int (0 : Int32)), (.int (0 : Int32)), (.int (0 : Int32))] (.int (0 : Int32)) := (Arv.new A1 (by decide)).pad (pad_rep [] (.int (0 : Int32)) 16)
  obtain ⟨cl3, Ar3, q3, S3, N3m, H3, G3⟩ := id V_b1
  have hin3 : ¬ ((0 : Int32) < 0 ∨ cl3.slots.size ≤ ((0 : Int32)).toNatClampNeg) := inb_of S3 ⟨by decide, by decide⟩
  obtain ⟨T3, h3, X3, e3, W3, st3⟩ := stC X1 hx hZ e1 Ar3 (j := (0 : Int32)) hin3 (g := (mkF m 95 #[.val (.int p1)] [(.int (67 : Int32)), (.int (0 : Int32)), (.ref b1), (.ref b1)])) rfl rfl (hb hby d2_95)
  have V3_b1 : Arv Z h3 b1 k1 .char (16 : Int32) [(.int (nar .char (67 : Int32))), (.int (0 : Int32)), (.int (0 : Int32)), (.int (0 : Int32)), (.int (0 : Int32)), (.int (0 : Int32)), (.int (0 : Int32)), (.int (0 : Int32)), (.int (0 : Int32)), (.int (0 : Int32)), (.int (0 : Int32)), (.int (0 : Int32)), (.int (0 : Int32)), (.int (0 : Int32)), (.int (0 : Int32)), (.int (0 : Int32))] (.int (0 : Int32)) := Arv.set Ar3 q3 S3 N3m H3 G3 (fits_nar_char _) W3 0 rfl (Nat.le_of_ble_eq_true rfl)
  have Zs4 := Nat.le_trans Zs2 (Keep.of_wr W3).1
  have Kk3 := Kk1.wr W3 (Or.inr sz_b1)
  have N3 := Fr.snoc X3 N0 g_b1
  obtain ⟨cl5, Ar5, q5, S5, N5m, H5, G5⟩ := id V3_b1
  have hin5 : ¬ ((1 : Int32) < 0 ∨ cl5.slots.size ≤ ((1 : Int32)).toNatClampNeg) := inb_of S5 ⟨by decide, by decide⟩
  obtain ⟨T5, h5, X5, e5, W5, st5⟩ := stC X3 hx hZ e3 Ar5 (j := (1 : Int32)) hin5 (g := (mkF m 100 #[.val (.int p1)] [(.int (104 : Int32)), (.int (1 : Int32)), (.ref b1), (.ref b1)])) rfl rfl (hb hby d2_100)
  have V5_b1 : Arv Z h5 b1 k1 .char (16 : Int32) [(.int (nar .char (67 : Int32))), (.int (nar .char (104 : Int32))), (.int (0 : Int32)), (.int (0 : Int32)), (.int (0 : Int32)), (.int (0 : Int32)), (.int (0 : Int32)), (.int (0 : Int32)), (.int (0 : Int32)), (.int (0 : Int32)), (.int (0 : Int32)), (.int (0 : Int32)), (.int (0 : Int32)), (.int (0 : Int32)), (.int (0 : Int32)), (.int (0 : Int32))] (.int (0 : Int32)) := Arv.set Ar5 q5 S5 N5m H5 G5 (fits_nar_char _) W5 1 rfl (Nat.le_of_ble_eq_true rfl)
  have Zs6 := Nat.le_trans Zs4 (Keep.of_wr W5).1
  have Kk5 := Kk3.wr W5 (Or.inr sz_b1)
  have N5 := Fr.snoc X5 N3 g_b1
  obtain ⟨cl7, Ar7, q7, S7, N7m, H7, G7⟩ := id V5_b1
  have hin7 : ¬ ((2 : Int32) < 0 ∨ cl7.slots.size ≤ ((2 : Int32)).toNatClampNeg) := inb_of S7 ⟨by decide, by decide⟩
  obtain ⟨T7, h7, X7, e7, W7, st7⟩ := stC X5 hx hZ e5 Ar7 (j := (2 : Int32)) hin7 (g := (mkF m 105 #[.val (.int p1)] [(.int (97 : Int32)), (.int (2 : Int32)), (.ref b1), (.ref b1)])) rfl rfl (hb hby d2_105)
  have V7_b1 : Arv Z h7 b1 k1 .char (16 : Int32) [(.int (nar .char (67 : Int32))), (.int (nar .char (104 : Int32))), (.int (nar .char (97 : Int32))), (.int (0 : Int32)), (.int (0 : Int32)), (.int (0 : Int32)), (.int (0 : Int32)), (.int (0 : Int32)), (.int (0 : Int32)), (.int (0 : Int32)), (.int (0 : Int32)), (.int (0 : Int32)), (.int (0 : Int32)), (.int (0 : Int32)), (.int (0 : Int32)), (.int (0 : Int32))] (.int (0 : Int32)) := Arv.set Ar7 q7 S7 N7m H7 G7 (fits_nar_char _) W7 2 rfl (Nat.le_of_ble_eq_true rfl)
  have Zs8 := Nat.le_trans Zs6 (Keep.of_wr W7).1
  have Kk7 := Kk5.wr W7 (Or.inr sz_b1)
  have N7 := Fr.snoc X7 N5 g_b1
  obtain ⟨cl9, Ar9, q9, S9, N9m, H9, G9⟩ := id V7_b1
  have hin9 : ¬ ((3 : Int32) < 0 ∨ cl9.slots.size ≤ ((3 : Int32)).toNatClampNeg) := inb_of S9 ⟨by decide, by decide⟩
  obtain ⟨T9, h9, X9, e9, W9, st9⟩ := stC X7 hx hZ e7 Ar9 (j := (3 : Int32)) hin9 (g := (mkF m 110 #[.val (.int p1)] [(.int (108 : Int32)), (.int (3 : Int32)), (.ref b1), (.ref b1)])) rfl rfl (hb hby d2_110)
  have V9_b1 : Arv Z h9 b1 k1 .char (16 : Int32) [(.int (nar .char (67 : Int32))), (.int (nar .char (104 : Int32))), (.int (nar .char (97 : Int32))), (.int (nar .char (108 : Int32))), (.int (0 : Int32)), (.int (0 : Int32)), (.int (0 : Int32)), (.int (0 : Int32)), (.int (0 : Int32)), (.int (0 : Int32)), (.int (0 : Int32)), (.int (0 : Int32)), (.int (0 : Int32)), (.int (0 : Int32)), (.int (0 : Int32)), (.int (0 : Int32))] (.int (0 : Int32)) := Arv.set Ar9 q9 S9 N9m H9 G9 (fits_nar_char _) W9 3 rfl (Nat.le_of_ble_eq_true rfl)
  have Zs10 := Nat.le_trans Zs8 (Keep.of_wr W9).1
  have Kk9 := Kk7.wr W9 (Or.inr sz_b1)
  have N9 := Fr.snoc X9 N7 g_b1
  obtain ⟨cl11, Ar11, q11, S11, N11m, H11, G11⟩ := id V9_b1
  have hin11 : ¬ ((4 : Int32) < 0 ∨ cl11.slots.size ≤ ((4 : Int32)).toNatClampNeg) := inb_of S11 ⟨by decide, by decide⟩
  obtain ⟨T11, h11, X11, e11, W11, st11⟩ := stC X9 hx hZ e9 Ar11 (j := (4 : Int32)) hin11 (g := (mkF m 115 #[.val (.int p1)] [(.int (108 : Int32)), (.int (4 : Int32)), (.ref b1), (.ref b1)])) rfl rfl (hb hby d2_115)
  have V11_b1 : Arv Z h11 b1 k1 .char (16 : Int32) [(.int (nar .char (67 : Int32))), (.int (nar .char (104 : Int32))), (.int (nar .char (97 : Int32))), (.int (nar .char (108 : Int32))), (.int (nar .char (108 : Int32))), (.int (0 : Int32)), (.int (0 : Int32)), (.int (0 : Int32)), (.int (0 : Int32)), (.int (0 : Int32)), (.int (0 : Int32)), (.int (0 : Int32)), (.int (0 : Int32)), (.int (0 : Int32)), (.int (0 : Int32)), (.int (0 : Int32))] (.int (0 : Int32)) := Arv.set Ar11 q11 S11 N11m H11 G11 (fits_nar_char _) W11 4 rfl (Nat.le_of_ble_eq_true rfl)
  have Zs12 := Nat.le_trans Zs10 (Keep.of_wr W11).1
  have Kk11 := Kk9.wr W11 (Or.inr sz_b1)
  have N11 := Fr.snoc X11 N9 g_b1
  obtain ⟨cl13, Ar13, q13, S13, N13m, H13, G13⟩ := id V11_b1
  have hin13 : ¬ ((5 : Int32) < 0 ∨ cl13.slots.size ≤ ((5 : Int32)).toNatClampNeg) := inb_of S13 ⟨by decide, by decide⟩
  obtain ⟨T13, h13, X13, e13, W13, st13⟩ := stC X11 hx hZ e11 Ar13 (j := (5 : Int32)) hin13 (g := (mkF m 120 #[.val (.int p1)] [(.int (101 : Int32)), (.int (5 : Int32)), (.ref b1), (.ref b1)])) rfl rfl (hb hby d2_120)
  have V13_b1 : Arv Z h13 b1 k1 .char (16 : Int32) [(.int (nar .char (67 : Int32))), (.int (nar .char (104 : Int32))), (.int (nar .char (97 : Int32))), (.int (nar .char (108 : Int32))), (.int (nar .char (108 : Int32))), (.int (nar .char (101 : Int32))), (.int (0 : Int32)), (.int (0 : Int32)), (.int (0 : Int32)), (.int (0 : Int32)), (.int (0 : Int32)), (.int (0 : Int32)), (.int (0 : Int32)), (.int (0 : Int32)), (.int (0 : Int32)), (.int (0 : Int32))] (.int (0 : Int32)) := Arv.set Ar13 q13 S13 N13m H13 G13 (fits_nar_char _) W13 5 rfl (Nat.le_of_ble_eq_true rfl)
  have Zs14 := Nat.le_trans Zs12 (Keep.of_wr W13).1
  have Kk13 := Kk11.wr W13 (Or.inr sz_b1)
  have N13 := Fr.snoc X13 N11 g_b1
  obtain ⟨cl15, Ar15, q15, S15, N15m, H15, G15⟩ := id V13_b1
  have hin15 : ¬ ((6 : Int32) < 0 ∨ cl15.slots.size ≤ ((6 : Int32)).toNatClampNeg) := inb_of S15 ⟨by decide, by decide⟩
  obtain ⟨T15, h15, X15, e15, W15, st15⟩ := stC X13 hx hZ e13 Ar15 (j := (6 : Int32)) hin15 (g := (mkF m 126 #[.val (.int p1)] [(.int (110 : Int32)), (.int (6 : Int32)), (.ref b1), (.ref b1)])) rfl rfl (hb hby d2_126)
  have V15_b1 : Arv Z h15 b1 k1 .char (16 : Int32) [(.int (nar .char (67 : Int32))), (.int (nar .char (104 : Int32))), (.int (nar .char (97 : Int32))), (.int (nar .char (108 : Int32))), (.int (nar .char (108 : Int32))), (.int (nar .char (101 : Int32))), (.int (nar .char (110 : Int32))), (.int (0 : Int32)), (.int (0 : Int32)), (.int (0 : Int32)), (.int (0 : Int32)), (.int (0 : Int32)), (.int (0 : Int32)), (.int (0 : Int32)), (.int (0 : Int32)), (.int (0 : Int32))] (.int (0 : Int32)) := Arv.set Ar15 q15 S15 N15m H15 G15 (fits_nar_char _) W15 6 rfl (Nat.le_of_ble_eq_true rfl)
  have Zs16 := Nat.le_trans Zs14 (Keep.of_wr W15).1
  have Kk15 := Kk13.wr W15 (Or.inr sz_b1)
  have N15 := Fr.snoc X15 N13 g_b1
  obtain ⟨cl17, Ar17, q17, S17, N17m, H17, G17⟩ := id V15_b1
  have hin17 : ¬ ((7 : Int32) < 0 ∨ cl17.slots.size ≤ ((7 : Int32)).toNatClampNeg) := inb_of S17 ⟨by decide, by decide⟩
  obtain ⟨T17, h17, X17, e17, W17, st17⟩ := stC X15 hx hZ e15 Ar17 (j := (7 : Int32)) hin17 (g := (mkF m 132 #[.val (.int p1)] [(.int (103 : Int32)), (.int (7 : Int32)), (.ref b1), (.ref b1)])) rfl rfl (hb hby d2_132)
  have V17_b1 : Arv Z h17 b1 k1 .char (16 : Int32) [(.int (nar .char (67 : Int32))), (.int (nar .char (104 : Int32))), (.int (nar .char (97 : Int32))), (.int (nar .char (108 : Int32))), (.int (nar .char (108 : Int32))), (.int (nar .char (101 : Int32))), (.int (nar .char (110 : Int32))), (.int (nar .char (103 : Int32))), (.int (0 : Int32)), (.int (0 : Int32)), (.int (0 : Int32)), (.int (0 : Int32)), (.int (0 : Int32)), (.int (0 : Int32)), (.int (0 : Int32)), (.int (0 : Int32))] (.int (0 : Int32)) := Arv.set Ar17 q17 S17 N17m H17 G17 (fits_nar_char _) W17 7 rfl (Nat.le_of_ble_eq_true rfl)
  have Zs18 := Nat.le_trans Zs16 (Keep.of_wr W17).1
  have Kk17 := Kk15.wr W17 (Or.inr sz_b1)
  have N17 := Fr.snoc X17 N15 g_b1
  obtain ⟨cl19, Ar19, q19, S19, N19m, H19, G19⟩ := id V17_b1
  have hin19 : ¬ ((8 : Int32) < 0 ∨ cl19.slots.size ≤ ((8 : Int32)).toNatClampNeg) := inb_of S19 ⟨by decide, by decide⟩
  obtain ⟨T19, h19, X19, e19, W19, st19⟩ := stC X17 hx hZ e17 Ar19 (j := (8 : Int32)) hin19 (g := (mkF m 138 #[.val (.int p1)] [(.int (101 : Int32)), (.int (8 : Int32)), (.ref b1), (.ref b1)])) rfl rfl (hb hby d2_138)
  have V19_b1 : Arv Z h19 b1 k1 .char (16 : Int32) [(.int (nar .char (67 : Int32))), (.int (nar .char (104 : Int32))), (.int (nar .char (97 : Int32))), (.int (nar .char (108 : Int32))), (.int (nar .char (108 : Int32))), (.int (nar .char (101 : Int32))), (.int (nar .char (110 : Int32))), (.int (nar .char (103 : Int32))), (.int (nar .char (101 : Int32))), (.int (0 : Int32)), (.int (0 : Int32)), (.int (0 : Int32)), (.int (0 : Int32)), (.int (0 : Int32)), (.int (0 : Int32)), (.int (0 : Int32))] (.int (0 : Int32)) := Arv.set Ar19 q19 S19 N19m H19 G19 (fits_nar_char _) W19 8 rfl (Nat.le_of_ble_eq_true rfl)
  have Zs20 := Nat.le_trans Zs18 (Keep.of_wr W19).1
  have Kk19 := Kk17.wr W19 (Or.inr sz_b1)
  have N19 := Fr.snoc X19 N17 g_b1
  obtain ⟨cl21, Ar21, q21, S21, N21m, H21, G21⟩ := id V19_b1
  have hin21 : ¬ ((9 : Int32) < 0 ∨ cl21.slots.size ≤ ((9 : Int32)).toNatClampNeg) := inb_of S21 ⟨by decide, by decide⟩
  obtain ⟨T21, h21, X21, e21, W21, st21⟩ := stC X19 hx hZ e19 Ar21 (j := (9 : Int32)) hin21 (g := (mkF m 144 #[.val (.int p1)] [(.int (79 : Int32)), (.int (9 : Int32)), (.ref b1), (.ref b1)])) rfl rfl (hb hby d2_144)
  have V21_b1 : Arv Z h21 b1 k1 .char (16 : Int32) [(.int (nar .char (67 : Int32))), (.int (nar .char (104 : Int32))), (.int (nar .char (97 : Int32))), (.int (nar .char (108 : Int32))), (.int (nar .char (108 : Int32))), (.int (nar .char (101 : Int32))), (.int (nar .char (110 : Int32))), (.int (nar .char (103 : Int32))), (.int (nar .char (101 : Int32))), (.int (nar .char (79 : Int32))), (.int (0 : Int32)), (.int (0 : Int32)), (.int (0 : Int32)), (.int (0 : Int32)), (.int (0 : Int32)), (.int (0 : Int32))] (.int (0 : Int32)) := Arv.set Ar21 q21 S21 N21m H21 G21 (fits_nar_char _) W21 9 rfl (Nat.le_of_ble_eq_true rfl)
  have Zs22 := Nat.le_trans Zs20 (Keep.of_wr W21).1
  have Kk21 := Kk19.wr W21 (Or.inr sz_b1)
  have N21 := Fr.snoc X21 N19 g_b1
  obtain ⟨cl23, Ar23, q23, S23, N23m, H23, G23⟩ := id V21_b1
  have hin23 : ¬ ((10 : Int32) < 0 ∨ cl23.slots.size ≤ ((10 : Int32)).toNatClampNeg) := inb_of S23 ⟨by decide, by decide⟩
  obtain ⟨T23, h23, X23, e23, W23, st23⟩ := stC X21 hx hZ e21 Ar23 (j := (10 : Int32)) hin23 (g := (mkF m 150 #[.val (.int p1)] [(.int (77 : Int32)), (.int (10 : Int32)), (.ref b1), (.ref b1)])) rfl rfl (hb hby d2_150)
  have V23_b1 : Arv Z h23 b1 k1 .char (16 : Int32) [(.int (nar .char (67 : Int32))), (.int (nar .char (104 : Int32))), (.int (nar .char (97 : Int32))), (.int (nar .char (108 : Int32))), (.int (nar .char (108 : Int32))), (.int (nar .char (101 : Int32))), (.int (nar .char (110 : Int32))), (.int (nar .char (103 : Int32))), (.int (nar .char (101 : Int32))), (.int (nar .char (79 : Int32))), (.int (nar .char (77 : Int32))), (.int (0 : Int32)), (.int (0 : Int32)), (.int (0 : Int32)), (.int (0 : Int32)), (.int (0 : Int32))] (.int (0 : Int32)) := Arv.set Ar23 q23 S23 N23m H23 G23 (fits_nar_char _) W23 10 rfl (Nat.le_of_ble_eq_true rfl)
  have Zs24 := Nat.le_trans Zs22 (Keep.of_wr W23).1
  have Kk23 := Kk21.wr W23 (Or.inr sz_b1)
  have N23 := Fr.snoc X23 N21 g_b1
  obtain ⟨cl25, Ar25, q25, S25, N25m, H25, G25⟩ := id V23_b1
  have hin25 : ¬ ((11 : Int32) < 0 ∨ cl25.slots.size ≤ ((11 : Int32)).toNatClampNeg) := inb_of S25 ⟨by decide, by decide⟩
  obtain ⟨T25, h25, X25, e25, W25, st25⟩ := stC X23 hx hZ e23 Ar25 (j := (11 : Int32)) hin25 (g := (mkF m 156 #[.val (.int p1)] [(.int (65 : Int32)), (.int (11 : Int32)), (.ref b1), (.ref b1)])) rfl rfl (hb hby d2_156)
  have V25_b1 : Arv Z h25 b1 k1 .char (16 : Int32) [(.int (nar .char (67 : Int32))), (.int (nar .char (104 : Int32))), (.int (nar .char (97 : Int32))), (.int (nar .char (108 : Int32))), (.int (nar .char (108 : Int32))), (.int (nar .char (101 : Int32))), (.int (nar .char (110 : Int32))), (.int (nar .char (103 : Int32))), (.int (nar .char (101 : Int32))), (.int (nar .char (79 : Int32))), (.int (nar .char (77 : Int32))), (.int (nar .char (65 : Int32))), (.int (0 : Int32)), (.int (0 : Int32)), (.int (0 : Int32)), (.int (0 : Int32))] (.int (0 : Int32)) := Arv.set Ar25 q25 S25 N25m H25 G25 (fits_nar_char _) W25 11 rfl (Nat.le_of_ble_eq_true rfl)
  have Zs26 := Nat.le_trans Zs24 (Keep.of_wr W25).1
  have Kk25 := Kk23.wr W25 (Or.inr sz_b1)
  have N25 := Fr.snoc X25 N23 g_b1
  obtain ⟨cl27, Ar27, q27, S27, N27m, H27, G27⟩ := id V25_b1
  have hin27 : ¬ ((12 : Int32) < 0 ∨ cl27.slots.size ≤ ((12 : Int32)).toNatClampNeg) := inb_of S27 ⟨by decide, by decide⟩
  obtain ⟨T27, h27, X27, e27, W27, st27⟩ := stC X25 hx hZ e25 Ar27 (j := (12 : Int32)) hin27 (g := (mkF m 162 #[.val (.int p1)] [(.int (84 : Int32)), (.int (12 : Int32)), (.ref b1), (.ref b1)])) rfl rfl (hb hby d2_162)
  have V27_b1 : Arv Z h27 b1 k1 .char (16 : Int32) [(.int (nar .char (67 : Int32))), (.int (nar .char (104 : Int32))), (.int (nar .char (97 : Int32))), (.int (nar .char (108 : Int32))), (.int (nar .char (108 : Int32))), (.int (nar .char (101 : Int32))), (.int (nar .char (110 : Int32))), (.int (nar .char (103 : Int32))), (.int (nar .char (101 : Int32))), (.int (nar .char (79 : Int32))), (.int (nar .char (77 : Int32))), (.int (nar .char (65 : Int32))), (.int (nar .char (84 : Int32))), (.int (0 : Int32)), (.int (0 : Int32)), (.int (0 : Int32))] (.int (0 : Int32)) := Arv.set Ar27 q27 S27 N27m H27 G27 (fits_nar_char _) W27 12 rfl (Nat.le_of_ble_eq_true rfl)
  have Zs28 := Nat.le_trans Zs26 (Keep.of_wr W27).1
  have Kk27 := Kk25.wr W27 (Or.inr sz_b1)
  have N27 := Fr.snoc X27 N25 g_b1
  obtain ⟨cl29, Ar29, q29, S29, N29m, H29, G29⟩ := id V27_b1
  have hin29 : ¬ ((13 : Int32) < 0 ∨ cl29.slots.size ≤ ((13 : Int32)).toNatClampNeg) := inb_of S29 ⟨by decide, by decide⟩
  obtain ⟨T29, h29, X29, e29, W29, st29⟩ := stC X27 hx hZ e27 Ar29 (j := (13 : Int32)) hin29 (g := (mkF m 168 #[.val (.int p1)] [(.int (79 : Int32)), (.int (13 : Int32)), (.ref b1), (.ref b1)])) rfl rfl (hb hby d2_168)
  have V29_b1 : Arv Z h29 b1 k1 .char (16 : Int32) [(.int (nar .char (67 : Int32))), (.int (nar .char (104 : Int32))), (.int (nar .char (97 : Int32))), (.int (nar .char (108 : Int32))), (.int (nar .char (108 : Int32))), (.int (nar .char (101 : Int32))), (.int (nar .char (110 : Int32))), (.int (nar .char (103 : Int32))), (.int (nar .char (101 : Int32))), (.int (nar .char (79 : Int32))), (.int (nar .char (77 : Int32))), (.int (nar .char (65 : Int32))), (.int (nar .char (84 : Int32))), (.int (nar .char (79 : Int32))), (.int (0 : Int32)), (.int (0 : Int32))] (.int (0 : Int32)) := Arv.set Ar29 q29 S29 N29m H29 G29 (fits_nar_char _) W29 13 rfl (Nat.le_of_ble_eq_true rfl)
  have Zs30 := Nat.le_trans Zs28 (Keep.of_wr W29).1
  have Kk29 := Kk27.wr W29 (Or.inr sz_b1)
  have N29 := Fr.snoc X29 N27 g_b1
  obtain ⟨cl31, Ar31, q31, S31, N31m, H31, G31⟩ := id V29_b1
  have hin31 : ¬ ((14 : Int32) < 0 ∨ cl31.slots.size ≤ ((14 : Int32)).toNatClampNeg) := inb_of S31 ⟨by decide, by decide⟩
  obtain ⟨T31, h31, X31, e31, W31, st31⟩ := stC X29 hx hZ e29 Ar31 (j := (14 : Int32)) hin31 (g := (mkF m 174 #[.val (.int p1)] [(.int (84 : Int32)), (.int (14 : Int32)), (.ref b1), (.ref b1)])) rfl rfl (hb hby d2_174)
  have V31_b1 : Arv Z h31 b1 k1 .char (16 : Int32) [(.int (nar .char (67 : Int32))), (.int (nar .char (104 : Int32))), (.int (nar .char (97 : Int32))), (.int (nar .char (108 : Int32))), (.int (nar .char (108 : Int32))), (.int (nar .char (101 : Int32))), (.int (nar .char (110 : Int32))), (.int (nar .char (103 : Int32))), (.int (nar .char (101 : Int32))), (.int (nar .char (79 : Int32))), (.int (nar .char (77 : Int32))), (.int (nar .char (65 : Int32))), (.int (nar .char (84 : Int32))), (.int (nar .char (79 : Int32))), (.int (nar .char (84 : Int32))), (.int (0 : Int32))] (.int (0 : Int32)) := Arv.set Ar31 q31 S31 N31m H31 G31 (fits_nar_char _) W31 14 rfl (Nat.le_of_ble_eq_true rfl)
  have Zs32 := Nat.le_trans Zs30 (Keep.of_wr W31).1
  have Kk31 := Kk29.wr W31 (Or.inr sz_b1)
  have N31 := Fr.snoc X31 N29 g_b1
  obtain ⟨cl33, Ar33, q33, S33, N33m, H33, G33⟩ := id V31_b1
  have hin33 : ¬ ((15 : Int32) < 0 ∨ cl33.slots.size ≤ ((15 : Int32)).toNatClampNeg) := inb_of S33 ⟨by decide, by decide⟩
  obtain ⟨T33, h33, X33, e33, W33, st33⟩ := stC X31 hx hZ e31 Ar33 (j := (15 : Int32)) hin33 (g := (mkF m 180 #[.val (.int p1)] [(.int (80 : Int32)), (.int (15 : Int32)), (.ref b1), (.ref b1)])) rfl rfl (hb hby d2_180)
  have V33_b1 : Arv Z h33 b1 k1 .char (16 : Int32) [(.int (nar .char (67 : Int32))), (.int (nar .char (104 : Int32))), (.int (nar .char (97 : Int32))), (.int (nar .char (108 : Int32))), (.int (nar .char (108 : Int32))), (.int (nar .char (101 : Int32))), (.int (nar .char (110 : Int32))), (.int (nar .char (103 : Int32))), (.int (nar .char (101 : Int32))), (.int (nar .char (79 : Int32))), (.int (nar .char (77 : Int32))), (.int (nar .char (65 : Int32))), (.int (nar .char (84 : Int32))), (.int (nar .char (79 : Int32))), (.int (nar .char (84 : Int32))), (.int (nar .char (80 : Int32)))] (.int (0 : Int32)) := Arv.set Ar33 q33 S33 N33m H33 G33 (fits_nar_char _) W33 15 rfl (Nat.le_of_ble_eq_true rfl)
  have Zs34 := Nat.le_trans Zs32 (Keep.of_wr W33).1
  have Kk33 := Kk31.wr W33 (Or.inr sz_b1)
  have N33 := Fr.snoc X33 N31 g_b1
  obtain ⟨fs, hr, hrun, hended, hW, hsame⟩ := X33.leave (v := some (.ref b1)) (fun h => by rw [Bd.returns] at h; cases h)
  refine ⟨_, _, pre1 _ ?_, hrun, hended, _, _, rfl, ?_, ⟨_, rfl⟩, hW, hsame.mono (by decide) (by decide)⟩
  · show Steps p.tables e below (s₁.setTop (mkF m 87 #[.val (.int p1)] [])) _
    refine XS.bipush X0.here hx rfl (hb hby d2_87) ?_
    show Steps p.tables e below (s₁.setTop (mkF m 89 #[.val (.int p1)] [(.int (16 : Int32))])) _
    refine st1 _ ?_
    show Steps p.tables e below (T1.setTop (mkF m 91 #[.val (.int p1)] [(.ref b1)])) _
    refine XS.dup X1.here hx rfl (hb hby d2_91) rfl rfl ?_
    show Steps p.tables e below (T1.setTop (mkF m 92 #[.val (.int p1)] [(.ref b1), (.ref b1)])) _
    refine XS.iconst X1.here hx rfl (hb hby d2_92) ?_
    show Steps p.tables e below (T1.setTop (mkF m 93 #[.val (.int p1)] [(.int (0 : Int32)), (.ref b1), (.ref b1)])) _
    refine XS.bipush X1.here hx rfl (hb hby d2_93) ?_
    show Steps p.tables e below (T1.setTop (mkF m 95 #[.val (.int p1)] [(.int (67 : Int32)), (.int (0 : Int32)), (.ref b1), (.ref b1)])) _
    refine st3 _ ?_
    show Steps p.tables e below (T3.setTop (mkF m 96 #[.val (.int p1)] [(.ref b1)])) _
    refine XS.dup X3.here hx rfl (hb hby d2_96) rfl rfl ?_
    show Steps p.tables e below (T3.setTop (mkF m 97 #[.val (.int p1)] [(.ref b1), (.ref b1)])) _
    refine XS.iconst X3.here hx rfl (hb hby d2_97) ?_
    show Steps p.tables e below (T3.setTop (mkF m 98 #[.val (.int p1)] [(.int (1 : Int32)), (.ref b1), (.ref b1)])) _
    refine XS.bipush X3.here hx rfl (hb hby d2_98) ?_
    show Steps p.tables e below (T3.setTop (mkF m 100 #[.val (.int p1)] [(.int (104 : Int32)), (.int (1 : Int32)), (.ref b1), (.ref b1)])) _
    refine st5 _ ?_
    show Steps p.tables e below (T5.setTop (mkF m 101 #[.val (.int p1)] [(.ref b1)])) _
    refine XS.dup X5.here hx rfl (hb hby d2_101) rfl rfl ?_
    show Steps p.tables e below (T5.setTop (mkF m 102 #[.val (.int p1)] [(.ref b1), (.ref b1)])) _
    refine XS.iconst X5.here hx rfl (hb hby d2_102) ?_
    show Steps p.tables e below (T5.setTop (mkF m 103 #[.val (.int p1)] [(.int (2 : Int32)), (.ref b1), (.ref b1)])) _
    refine XS.bipush X5.here hx rfl (hb hby d2_103) ?_
    show Steps p.tables e below (T5.setTop (mkF m 105 #[.val (.int p1)] [(.int (97 : Int32)), (.int (2 : Int32)), (.ref b1), (.ref b1)])) _
    refine st7 _ ?_
    show Steps p.tables e below (T7.setTop (mkF m 106 #[.val (.int p1)] [(.ref b1)])) _
    refine XS.dup X7.here hx rfl (hb hby d2_106) rfl rfl ?_
    show Steps p.tables e below (T7.setTop (mkF m 107 #[.val (.int p1)] [(.ref b1), (.ref b1)])) _
    refine XS.iconst X7.here hx rfl (hb hby d2_107) ?_
    show Steps p.tables e below (T7.setTop (mkF m 108 #[.val (.int p1)] [(.int (3 : Int32)), (.ref b1), (.ref b1)])) _
    refine XS.bipush X7.here hx rfl (hb hby d2_108) ?_
    show Steps p.tables e below (T7.setTop (mkF m 110 #[.val (.int p1)] [(.int (108 : Int32)), (.int (3 : Int32)), (.ref b1), (.ref b1)])) _
    refine st9 _ ?_
    show Steps p.tables e below (T9.setTop (mkF m 111 #[.val (.int p1)] [(.ref b1)])) _
    refine XS.dup X9.here hx rfl (hb hby d2_111) rfl rfl ?_
    show Steps p.tables e below (T9.setTop (mkF m 112 #[.val (.int p1)] [(.ref b1), (.ref b1)])) _
    refine XS.iconst X9.here hx rfl (hb hby d2_112) ?_
    show Steps p.tables e below (T9.setTop (mkF m 113 #[.val (.int p1)] [(.int (4 : Int32)), (.ref b1), (.ref b1)])) _
    refine XS.bipush X9.here hx rfl (hb hby d2_113) ?_
    show Steps p.tables e below (T9.setTop (mkF m 115 #[.val (.int p1)] [(.int (108 : Int32)), (.int (4 : Int32)), (.ref b1), (.ref b1)])) _
    refine st11 _ ?_
    show Steps p.tables e below (T11.setTop (mkF m 116 #[.val (.int p1)] [(.ref b1)])) _
    refine XS.dup X11.here hx rfl (hb hby d2_116) rfl rfl ?_
    show Steps p.tables e below (T11.setTop (mkF m 117 #[.val (.int p1)] [(.ref b1), (.ref b1)])) _
    refine XS.iconst X11.here hx rfl (hb hby d2_117) ?_
    show Steps p.tables e below (T11.setTop (mkF m 118 #[.val (.int p1)] [(.int (5 : Int32)), (.ref b1), (.ref b1)])) _
    refine XS.bipush X11.here hx rfl (hb hby d2_118) ?_
    show Steps p.tables e below (T11.setTop (mkF m 120 #[.val (.int p1)] [(.int (101 : Int32)), (.int (5 : Int32)), (.ref b1), (.ref b1)])) _
    refine st13 _ ?_
    show Steps p.tables e below (T13.setTop (mkF m 121 #[.val (.int p1)] [(.ref b1)])) _
    refine XS.dup X13.here hx rfl (hb hby d2_121) rfl rfl ?_
    show Steps p.tables e below (T13.setTop (mkF m 122 #[.val (.int p1)] [(.ref b1), (.ref b1)])) _
    refine XS.bipush X13.here hx rfl (hb hby d2_122) ?_
    show Steps p.tables e below (T13.setTop (mkF m 124 #[.val (.int p1)] [(.int (6 : Int32)), (.ref b1), (.ref b1)])) _
    refine XS.bipush X13.here hx rfl (hb hby d2_124) ?_
    show Steps p.tables e below (T13.setTop (mkF m 126 #[.val (.int p1)] [(.int (110 : Int32)), (.int (6 : Int32)), (.ref b1), (.ref b1)])) _
    refine st15 _ ?_
    show Steps p.tables e below (T15.setTop (mkF m 127 #[.val (.int p1)] [(.ref b1)])) _
    refine XS.dup X15.here hx rfl (hb hby d2_127) rfl rfl ?_
    show Steps p.tables e below (T15.setTop (mkF m 128 #[.val (.int p1)] [(.ref b1), (.ref b1)])) _
    refine XS.bipush X15.here hx rfl (hb hby d2_128) ?_
    show Steps p.tables e below (T15.setTop (mkF m 130 #[.val (.int p1)] [(.int (7 : Int32)), (.ref b1), (.ref b1)])) _
    refine XS.bipush X15.here hx rfl (hb hby d2_130) ?_
    show Steps p.tables e below (T15.setTop (mkF m 132 #[.val (.int p1)] [(.int (103 : Int32)), (.int (7 : Int32)), (.ref b1), (.ref b1)])) _
    refine st17 _ ?_
    show Steps p.tables e below (T17.setTop (mkF m 133 #[.val (.int p1)] [(.ref b1)])) _
    refine XS.dup X17.here hx rfl (hb hby d2_133) rfl rfl ?_
    show Steps p.tables e below (T17.setTop (mkF m 134 #[.val (.int p1)] [(.ref b1), (.ref b1)])) _
    refine XS.bipush X17.here hx rfl (hb hby d2_134) ?_
    show Steps p.tables e below (T17.setTop (mkF m 136 #[.val (.int p1)] [(.int (8 : Int32)), (.ref b1), (.ref b1)])) _
    refine XS.bipush X17.here hx rfl (hb hby d2_136) ?_
    show Steps p.tables e below (T17.setTop (mkF m 138 #[.val (.int p1)] [(.int (101 : Int32)), (.int (8 : Int32)), (.ref b1), (.ref b1)])) _
    refine st19 _ ?_
    show Steps p.tables e below (T19.setTop (mkF m 139 #[.val (.int p1)] [(.ref b1)])) _
    refine XS.dup X19.here hx rfl (hb hby d2_139) rfl rfl ?_
    show Steps p.tables e below (T19.setTop (mkF m 140 #[.val (.int p1)] [(.ref b1), (.ref b1)])) _
    refine XS.bipush X19.here hx rfl (hb hby d2_140) ?_
    show Steps p.tables e below (T19.setTop (mkF m 142 #[.val (.int p1)] [(.int (9 : Int32)), (.ref b1), (.ref b1)])) _
    refine XS.bipush X19.here hx rfl (hb hby d2_142) ?_
    show Steps p.tables e below (T19.setTop (mkF m 144 #[.val (.int p1)] [(.int (79 : Int32)), (.int (9 : Int32)), (.ref b1), (.ref b1)])) _
    refine st21 _ ?_
    show Steps p.tables e below (T21.setTop (mkF m 145 #[.val (.int p1)] [(.ref b1)])) _
    refine XS.dup X21.here hx rfl (hb hby d2_145) rfl rfl ?_
    show Steps p.tables e below (T21.setTop (mkF m 146 #[.val (.int p1)] [(.ref b1), (.ref b1)])) _
    refine XS.bipush X21.here hx rfl (hb hby d2_146) ?_
    show Steps p.tables e below (T21.setTop (mkF m 148 #[.val (.int p1)] [(.int (10 : Int32)), (.ref b1), (.ref b1)])) _
    refine XS.bipush X21.here hx rfl (hb hby d2_148) ?_
    show Steps p.tables e below (T21.setTop (mkF m 150 #[.val (.int p1)] [(.int (77 : Int32)), (.int (10 : Int32)), (.ref b1), (.ref b1)])) _
    refine st23 _ ?_
    show Steps p.tables e below (T23.setTop (mkF m 151 #[.val (.int p1)] [(.ref b1)])) _
    refine XS.dup X23.here hx rfl (hb hby d2_151) rfl rfl ?_
    show Steps p.tables e below (T23.setTop (mkF m 152 #[.val (.int p1)] [(.ref b1), (.ref b1)])) _
    refine XS.bipush X23.here hx rfl (hb hby d2_152) ?_
    show Steps p.tables e below (T23.setTop (mkF m 154 #[.val (.int p1)] [(.int (11 : Int32)), (.ref b1), (.ref b1)])) _
    refine XS.bipush X23.here hx rfl (hb hby d2_154) ?_
    show Steps p.tables e below (T23.setTop (mkF m 156 #[.val (.int p1)] [(.int (65 : Int32)), (.int (11 : Int32)), (.ref b1), (.ref b1)])) _
    refine st25 _ ?_
    show Steps p.tables e below (T25.setTop (mkF m 157 #[.val (.int p1)] [(.ref b1)])) _
    refine XS.dup X25.here hx rfl (hb hby d2_157) rfl rfl ?_
    show Steps p.tables e below (T25.setTop (mkF m 158 #[.val (.int p1)] [(.ref b1), (.ref b1)])) _
    refine XS.bipush X25.here hx rfl (hb hby d2_158) ?_
    show Steps p.tables e below (T25.setTop (mkF m 160 #[.val (.int p1)] [(.int (12 : Int32)), (.ref b1), (.ref b1)])) _
    refine XS.bipush X25.here hx rfl (hb hby d2_160) ?_
    show Steps p.tables e below (T25.setTop (mkF m 162 #[.val (.int p1)] [(.int (84 : Int32)), (.int (12 : Int32)), (.ref b1), (.ref b1)])) _
    refine st27 _ ?_
    show Steps p.tables e below (T27.setTop (mkF m 163 #[.val (.int p1)] [(.ref b1)])) _
    refine XS.dup X27.here hx rfl (hb hby d2_163) rfl rfl ?_
    show Steps p.tables e below (T27.setTop (mkF m 164 #[.val (.int p1)] [(.ref b1), (.ref b1)])) _
    refine XS.bipush X27.here hx rfl (hb hby d2_164) ?_
    show Steps p.tables e below (T27.setTop (mkF m 166 #[.val (.int p1)] [(.int (13 : Int32)), (.ref b1), (.ref b1)])) _
    refine XS.bipush X27.here hx rfl (hb hby d2_166) ?_
    show Steps p.tables e below (T27.setTop (mkF m 168 #[.val (.int p1)] [(.int (79 : Int32)), (.int (13 : Int32)), (.ref b1), (.ref b1)])) _
    refine st29 _ ?_
    show Steps p.tables e below (T29.setTop (mkF m 169 #[.val (.int p1)] [(.ref b1)])) _
    refine XS.dup X29.here hx rfl (hb hby d2_169) rfl rfl ?_
    show Steps p.tables e below (T29.setTop (mkF m 170 #[.val (.int p1)] [(.ref b1), (.ref b1)])) _
    refine XS.bipush X29.here hx rfl (hb hby d2_170) ?_
    show Steps p.tables e below (T29.setTop (mkF m 172 #[.val (.int p1)] [(.int (14 : Int32)), (.ref b1), (.ref b1)])) _
    refine XS.bipush X29.here hx rfl (hb hby d2_172) ?_
    show Steps p.tables e below (T29.setTop (mkF m 174 #[.val (.int p1)] [(.int (84 : Int32)), (.int (14 : Int32)), (.ref b1), (.ref b1)])) _
    refine st31 _ ?_
    show Steps p.tables e below (T31.setTop (mkF m 175 #[.val (.int p1)] [(.ref b1)])) _
    refine XS.dup X31.here hx rfl (hb hby d2_175) rfl rfl ?_
    show Steps p.tables e below (T31.setTop (mkF m 176 #[.val (.int p1)] [(.ref b1), (.ref b1)])) _
    refine XS.bipush X31.here hx rfl (hb hby d2_176) ?_
    show Steps p.tables e below (T31.setTop (mkF m 178 #[.val (.int p1)] [(.int (15 : Int32)), (.ref b1), (.ref b1)])) _
    refine XS.bipush X31.here hx rfl (hb hby d2_178) ?_
    show Steps p.tables e below (T31.setTop (mkF m 180 #[.val (.int p1)] [(.int (80 : Int32)), (.int (15 : Int32)), (.ref b1), (.ref b1)])) _
    refine st33 _ ?_
    show Steps p.tables e below (T33.setTop (mkF m 181 #[.val (.int p1)] [(.ref b1)])) _
    exact retOut X33 hx Bd.returns rfl (Or.inr (Or.inr (Or.inr (Or.inr ⟨rfl, rfl, rfl⟩)))) (hb hby d2_181) hr
  · show Q2k0 Z p1 h0 n0 _ T33.heap _
    rw [e33]
    exact ⟨_, _, rfl, N33, Kk33, sz_b1, V33_b1⟩
def Q2k1 (Z : State) (p1 : Int32) (h0 : Heap) (n0 : Nat) (v : Option Value) (h : Heap) (L : List Loc) : Prop := ∃ (b : Addr) (kc : ClassId), v = some (.ref b) ∧ Fr n0 L ∧ Keep h0 h [] ∧ h0.size ≤ b ∧ Arv Z h b kc .char (14 : Int32) (own_c1.map Value.int) (.int (0 : Int32))
set_option maxRecDepth 65536 in
set_option maxHeartbeats 40000000 in
theorem rm2k1 (l : Launch) (Z : State) (a0 : Array Value) (hw : ∀ d ∈ tables_1, d.before a0 Z = true) (ws : List Jvm.Cond) (p1 : Int32) (h0 : Heap) (n0 : Nat) (Z0 : n0 ≤ h0.size) (c1 : ¬ p1 = 0) :
    MetFree l (⟨"com/example/sekisho/sekisho/registration/FactorOfKeyPinLaw", "keyChars", "(Z)[C"⟩ : MethodName) (head1 (Jvm.Cond.code (⟨"com/example/sekisho/sekisho/registration/FactorOfKeyPinLaw", "keyChars", "(Z)[C"⟩ : MethodName) method_4_code 1 (some (.array .char)) :: ws) ({ frames := 0, cells := 1, slots := 16, locals := 0 } : Room)) (fun a U => a = #[(.int p1)] ∧ Z.Warmed39 U.vm ∧ U.heap = h0) (fun _ _ _ _ _ => True) (fun _ U o U' => ∃ v L, o = .returned v ∧ Q2k1 Z p1 h0 n0 v U'.heap L ∧ FrameEnd U o U' L ({ frames := 0, cells := 1, slots := 16, locals := 0 } : Room).cells ({ frames := 0, cells := 1, slots := 16, locals := 0 } : Room).slots) := by
  refine MetFree.of_bodySF (plainFor_of_name pn_2) hisR ?_
  intro p e s m args below meth c s₁ Bd hml0 hP hK
  obtain ⟨rfl, hZ, hh⟩ := hP
  have hx := Bd.exec
  have hby := Bd.bytes
  have hml : c.maxLocals = 1 := hml0
  have hown : s.vm.findClass "com/example/sekisho/sekisho/registration/FactorOfKeyPinLaw" = some m.cls := findClass_of_methodNamed Bd.named
  have hnm := (name_of_methodNamed Bd.named Bd.method).1
  have X0 : Stand p l e ({ frames := 0, cells := 1, slots := 16, locals := 0 } : Room) s m #[(.int p1)] below meth c s₁ [] 0 0 := Stand.of_body Bd
  have e0 : s₁.heap = h0 := by rw [← hh, Bd.state]; rfl
  have N0 := Fr.nil n0
  have pre0 : ∀ t, Steps p.tables e below (s₁.setTop (mkF m 0 #[.val (.int p1)] [])) t → Steps p.tables e below (s₁.setTop (entryFrame m #[(.int p1)] 1)) t := fun t k => castTop (ef_2 m p1) k
  have KK0 := Keep.refl h0 []
  have pre1 : ∀ t, Steps p.tables e below (s₁.setTop (mkF m 4 #[.val (.int p1)] [])) t → Steps p.tables e below (s₁.setTop (entryFrame m #[(.int p1)] 1)) t := by
    intro t k
    refine pre0 t ?_
    show Steps p.tables e below (s₁.setTop (mkF m 0 #[.val (.int p1)] [])) _
    refine XS.iloadN X0.here hx rfl (hb hby d2_0) rfl ?_
    show Steps p.tables e below (s₁.setTop (mkF m 1 #[.val (.int p1)] [(.int p1)])) _
    refine XS.ifNo X0.here hx rfl (hb hby d2_1) rfl ((if0 _ _).trans (feq c1).1) ?_
    exact k
  obtain ⟨T1, h1, k1, X1, e1, E1, A1, st1⟩ := newP X0 hx hZ (hw _ (List.mem_of_getElem? (i := 10) rfl)) e0 (g := (mkF m 6 #[.val (.int p1)] [(.int (14 : Int32))])) rfl (hb hby d2_6) rfl (by decide) (cap := 14) (by decide) (by decide) (by decide) (by decide)
  obtain ⟨b1, g1⟩ : ∃ z, z = h0.size := ⟨_, rfl⟩
  rw [← g1] at A1 st1
  have g_b1 : n0 ≤ b1 := Nat.le_trans Z0 (Nat.le_of_eq g1.symm)
  have sz_b1 := Nat.le_trans KK0.1 (Nat.le_of_eq g1.symm)
  have Zs2 := Nat.le_trans Z0 E1.1
  have Kk1 := KK0.ext E1
  have V_b1 : Arv Z h1 b1 k1 .char (14 : Int32) [(.int (0 : Int32)), (.int (0 : Int32)), (.int (0 : Int32)), (.int (0 : Int32)), (.int (0 : Int32)), (.int (0 : Int32)), (.int (0 : Int32)), (.int (0 : Int32)), (.int (0 : Int32)), (.int (0 : Int32)), (.int (0 : Int32)), (.int (0 : Int32)), (.int (0 : Int32)), (.int (0 : Int32))] (.int (0 : Int32)) := (Arv.new A1 (by decide)).pad (pad_rep [] (.int (0 : Int32)) 14)
  obtain ⟨cl3, Ar3, q3, S3, N3m, H3, G3⟩ := id V_b1
  have hin3 : ¬ ((0 : Int32) < 0 ∨ cl3.slots.size ≤ ((0 : Int32)).toNatClampNeg) := inb_of S3 ⟨by decide, by decide⟩
  obtain ⟨T3, h3, X3, e3, W3, st3⟩ := stC X1 hx hZ e1 Ar3 (j := (0 : Int32)) hin3 (g := (mkF m 12 #[.val (.int p1)] [(.int (67 : Int32)), (.int (0 : Int32)), (.ref b1), (.ref b1)])) rfl rfl (hb hby d2_12)
  have V3_b1 : Arv Z h3 b1 k1 .char (14 : Int32) [(.int (nar .char (67 : Int32))), (.int (0 : Int32)), (.int (0 : Int32)), (.int (0 : Int32)), (.int (0 : Int32)), (.int (0 : Int32)), (.int (0 : Int32)), (.int (0 : Int32)), (.int (0 : Int32)), (.int (0 : Int32)), (.int (0 : Int32)), (.int (0 : Int32)), (.int (0 : Int32)), (.int (0 : Int32))] (.int (0 : Int32)) := Arv.set Ar3 q3 S3 N3m H3 G3 (fits_nar_char _) W3 0 rfl (Nat.le_of_ble_eq_true rfl)
  have Zs4 := Nat.le_trans Zs2 (Keep.of_wr W3).1
  have Kk3 := Kk1.wr W3 (Or.inr sz_b1)
  have N3 := Fr.snoc X3 N0 g_b1
  obtain ⟨cl5, Ar5, q5, S5, N5m, H5, G5⟩ := id V3_b1
  have hin5 : ¬ ((1 : Int32) < 0 ∨ cl5.slots.size ≤ ((1 : Int32)).toNatClampNeg) := inb_of S5 ⟨by decide, by decide⟩
  obtain ⟨T5, h5, X5, e5, W5, st5⟩ := stC X3 hx hZ e3 Ar5 (j := (1 : Int32)) hin5 (g := (mkF m 17 #[.val (.int p1)] [(.int (104 : Int32)), (.int (1 : Int32)), (.ref b1), (.ref b1)])) rfl rfl (hb hby d2_17)
  have V5_b1 : Arv Z h5 b1 k1 .char (14 : Int32) [(.int (nar .char (67 : Int32))), (.int (nar .char (104 : Int32))), (.int (0 : Int32)), (.int (0 : Int32)), (.int (0 : Int32)), (.int (0 : Int32)), (.int (0 : Int32)), (.int (0 : Int32)), (.int (0 : Int32)), (.int (0 : Int32)), (.int (0 : Int32)), (.int (0 : Int32)), (.int (0 : Int32)), (.int (0 : Int32))] (.int (0 : Int32)) := Arv.set Ar5 q5 S5 N5m H5 G5 (fits_nar_char _) W5 1 rfl (Nat.le_of_ble_eq_true rfl)
  have Zs6 := Nat.le_trans Zs4 (Keep.of_wr W5).1
  have Kk5 := Kk3.wr W5 (Or.inr sz_b1)
  have N5 := Fr.snoc X5 N3 g_b1
  obtain ⟨cl7, Ar7, q7, S7, N7m, H7, G7⟩ := id V5_b1
  have hin7 : ¬ ((2 : Int32) < 0 ∨ cl7.slots.size ≤ ((2 : Int32)).toNatClampNeg) := inb_of S7 ⟨by decide, by decide⟩
  obtain ⟨T7, h7, X7, e7, W7, st7⟩ := stC X5 hx hZ e5 Ar7 (j := (2 : Int32)) hin7 (g := (mkF m 22 #[.val (.int p1)] [(.int (97 : Int32)), (.int (2 : Int32)), (.ref b1), (.ref b1)])) rfl rfl (hb hby d2_22)
  have V7_b1 : Arv Z h7 b1 k1 .char (14 : Int32) [(.int (nar .char (67 : Int32))), (.int (nar .char (104 : Int32))), (.int (nar .char (97 : Int32))), (.int (0 : Int32)), (.int (0 : Int32)), (.int (0 : Int32)), (.int (0 : Int32)), (.int (0 : Int32)), (.int (0 : Int32)), (.int (0 : Int32)), (.int (0 : Int32)), (.int (0 : Int32)), (.int (0 : Int32)), (.int (0 : Int32))] (.int (0 : Int32)) := Arv.set Ar7 q7 S7 N7m H7 G7 (fits_nar_char _) W7 2 rfl (Nat.le_of_ble_eq_true rfl)
  have Zs8 := Nat.le_trans Zs6 (Keep.of_wr W7).1
  have Kk7 := Kk5.wr W7 (Or.inr sz_b1)
  have N7 := Fr.snoc X7 N5 g_b1
  obtain ⟨cl9, Ar9, q9, S9, N9m, H9, G9⟩ := id V7_b1
  have hin9 : ¬ ((3 : Int32) < 0 ∨ cl9.slots.size ≤ ((3 : Int32)).toNatClampNeg) := inb_of S9 ⟨by decide, by decide⟩
  obtain ⟨T9, h9, X9, e9, W9, st9⟩ := stC X7 hx hZ e7 Ar9 (j := (3 : Int32)) hin9 (g := (mkF m 27 #[.val (.int p1)] [(.int (108 : Int32)), (.int (3 : Int32)), (.ref b1), (.ref b1)])) rfl rfl (hb hby d2_27)
  have V9_b1 : Arv Z h9 b1 k1 .char (14 : Int32) [(.int (nar .char (67 : Int32))), (.int (nar .char (104 : Int32))), (.int (nar .char (97 : Int32))), (.int (nar .char (108 : Int32))), (.int (0 : Int32)), (.int (0 : Int32)), (.int (0 : Int32)), (.int (0 : Int32)), (.int (0 : Int32)), (.int (0 : Int32)), (.int (0 : Int32)), (.int (0 : Int32)), (.int (0 : Int32)), (.int (0 : Int32))] (.int (0 : Int32)) := Arv.set Ar9 q9 S9 N9m H9 G9 (fits_nar_char _) W9 3 rfl (Nat.le_of_ble_eq_true rfl)
  have Zs10 := Nat.le_trans Zs8 (Keep.of_wr W9).1
  have Kk9 := Kk7.wr W9 (Or.inr sz_b1)
  have N9 := Fr.snoc X9 N7 g_b1
  obtain ⟨cl11, Ar11, q11, S11, N11m, H11, G11⟩ := id V9_b1
  have hin11 : ¬ ((4 : Int32) < 0 ∨ cl11.slots.size ≤ ((4 : Int32)).toNatClampNeg) := inb_of S11 ⟨by decide, by decide⟩
  obtain ⟨T11, h11, X11, e11, W11, st11⟩ := stC X9 hx hZ e9 Ar11 (j := (4 : Int32)) hin11 (g := (mkF m 32 #[.val (.int p1)] [(.int (108 : Int32)), (.int (4 : Int32)), (.ref b1), (.ref b1)])) rfl rfl (hb hby d2_32)
  have V11_b1 : Arv Z h11 b1 k1 .char (14 : Int32) [(.int (nar .char (67 : Int32))), (.int (nar .char (104 : Int32))), (.int (nar .char (97 : Int32))), (.int (nar .char (108 : Int32))), (.int (nar .char (108 : Int32))), (.int (0 : Int32)), (.int (0 : Int32)), (.int (0 : Int32)), (.int (0 : Int32)), (.int (0 : Int32)), (.int (0 : Int32)), (.int (0 : Int32)), (.int (0 : Int32)), (.int (0 : Int32))] (.int (0 : Int32)) := Arv.set Ar11 q11 S11 N11m H11 G11 (fits_nar_char _) W11 4 rfl (Nat.le_of_ble_eq_true rfl)
  have Zs12 := Nat.le_trans Zs10 (Keep.of_wr W11).1
  have Kk11 := Kk9.wr W11 (Or.inr sz_b1)
  have N11 := Fr.snoc X11 N9 g_b1
  obtain ⟨cl13, Ar13, q13, S13, N13m, H13, G13⟩ := id V11_b1
  have hin13 : ¬ ((5 : Int32) < 0 ∨ cl13.slots.size ≤ ((5 : Int32)).toNatClampNeg) := inb_of S13 ⟨by decide, by decide⟩
  obtain ⟨T13, h13, X13, e13, W13, st13⟩ := stC X11 hx hZ e11 Ar13 (j := (5 : Int32)) hin13 (g := (mkF m 37 #[.val (.int p1)] [(.int (101 : Int32)), (.int (5 : Int32)), (.ref b1), (.ref b1)])) rfl rfl (hb hby d2_37)
  have V13_b1 : Arv Z h13 b1 k1 .char (14 : Int32) [(.int (nar .char (67 : Int32))), (.int (nar .char (104 : Int32))), (.int (nar .char (97 : Int32))), (.int (nar .char (108 : Int32))), (.int (nar .char (108 : Int32))), (.int (nar .char (101 : Int32))), (.int (0 : Int32)), (.int (0 : Int32)), (.int (0 : Int32)), (.int (0 : Int32)), (.int (0 : Int32)), (.int (0 : Int32)), (.int (0 : Int32)), (.int (0 : Int32))] (.int (0 : Int32)) := Arv.set Ar13 q13 S13 N13m H13 G13 (fits_nar_char _) W13 5 rfl (Nat.le_of_ble_eq_true rfl)
  have Zs14 := Nat.le_trans Zs12 (Keep.of_wr W13).1
  have Kk13 := Kk11.wr W13 (Or.inr sz_b1)
  have N13 := Fr.snoc X13 N11 g_b1
  obtain ⟨cl15, Ar15, q15, S15, N15m, H15, G15⟩ := id V13_b1
  have hin15 : ¬ ((6 : Int32) < 0 ∨ cl15.slots.size ≤ ((6 : Int32)).toNatClampNeg) := inb_of S15 ⟨by decide, by decide⟩
  obtain ⟨T15, h15, X15, e15, W15, st15⟩ := stC X13 hx hZ e13 Ar15 (j := (6 : Int32)) hin15 (g := (mkF m 43 #[.val (.int p1)] [(.int (110 : Int32)), (.int (6 : Int32)), (.ref b1), (.ref b1)])) rfl rfl (hb hby d2_43)
  have V15_b1 : Arv Z h15 b1 k1 .char (14 : Int32) [(.int (nar .char (67 : Int32))), (.int (nar .char (104 : Int32))), (.int (nar .char (97 : Int32))), (.int (nar .char (108 : Int32))), (.int (nar .char (108 : Int32))), (.int (nar .char (101 : Int32))), (.int (nar .char (110 : Int32))), (.int (0 : Int32)), (.int (0 : Int32)), (.int (0 : Int32)), (.int (0 : Int32)), (.int (0 : Int32)), (.int (0 : Int32)), (.int (0 : Int32))] (.int (0 : Int32)) := Arv.set Ar15 q15 S15 N15m H15 G15 (fits_nar_char _) W15 6 rfl (Nat.le_of_ble_eq_true rfl)
  have Zs16 := Nat.le_trans Zs14 (Keep.of_wr W15).1
  have Kk15 := Kk13.wr W15 (Or.inr sz_b1)
  have N15 := Fr.snoc X15 N13 g_b1
  obtain ⟨cl17, Ar17, q17, S17, N17m, H17, G17⟩ := id V15_b1
  have hin17 : ¬ ((7 : Int32) < 0 ∨ cl17.slots.size ≤ ((7 : Int32)).toNatClampNeg) := inb_of S17 ⟨by decide, by decide⟩
  obtain ⟨T17, h17, X17, e17, W17, st17⟩ := stC X15 hx hZ e15 Ar17 (j := (7 : Int32)) hin17 (g := (mkF m 49 #[.val (.int p1)] [(.int (103 : Int32)), (.int (7 : Int32)), (.ref b1), (.ref b1)])) rfl rfl (hb hby d2_49)
  have V17_b1 : Arv Z h17 b1 k1 .char (14 : Int32) [(.int (nar .char (67 : Int32))), (.int (nar .char (104 : Int32))), (.int (nar .char (97 : Int32))), (.int (nar .char (108 : Int32))), (.int (nar .char (108 : Int32))), (.int (nar .char (101 : Int32))), (.int (nar .char (110 : Int32))), (.int (nar .char (103 : Int32))), (.int (0 : Int32)), (.int (0 : Int32)), (.int (0 : Int32)), (.int (0 : Int32)), (.int (0 : Int32)), (.int (0 : Int32))] (.int (0 : Int32)) := Arv.set Ar17 q17 S17 N17m H17 G17 (fits_nar_char _) W17 7 rfl (Nat.le_of_ble_eq_true rfl)
  have Zs18 := Nat.le_trans Zs16 (Keep.of_wr W17).1
  have Kk17 := Kk15.wr W17 (Or.inr sz_b1)
  have N17 := Fr.snoc X17 N15 g_b1
  obtain ⟨cl19, Ar19, q19, S19, N19m, H19, G19⟩ := id V17_b1
  have hin19 : ¬ ((8 : Int32) < 0 ∨ cl19.slots.size ≤ ((8 : Int32)).toNatClampNeg) := inb_of S19 ⟨by decide, by decide⟩
  obtain ⟨T19, h19, X19, e19, W19, st19⟩ := stC X17 hx hZ e17 Ar19 (j := (8 : Int32)) hin19 (g := (mkF m 55 #[.val (.int p1)] [(.int (101 : Int32)), (.int (8 : Int32)), (.ref b1), (.ref b1)])) rfl rfl (hb hby d2_55)
  have V19_b1 : Arv Z h19 b1 k1 .char (14 : Int32) [(.int (nar .char (67 : Int32))), (.int (nar .char (104 : Int32))), (.int (nar .char (97 : Int32))), (.int (nar .char (108 : Int32))), (.int (nar .char (108 : Int32))), (.int (nar .char (101 : Int32))), (.int (nar .char (110 : Int32))), (.int (nar .char (103 : Int32))), (.int (nar .char (101 : Int32))), (.int (0 : Int32)), (.int (0 : Int32)), (.int (0 : Int32)), (.int (0 : Int32)), (.int (0 : Int32))] (.int (0 : Int32)) := Arv.set Ar19 q19 S19 N19m H19 G19 (fits_nar_char _) W19 8 rfl (Nat.le_of_ble_eq_true rfl)
  have Zs20 := Nat.le_trans Zs18 (Keep.of_wr W19).1
  have Kk19 := Kk17.wr W19 (Or.inr sz_b1)
  have N19 := Fr.snoc X19 N17 g_b1
  obtain ⟨cl21, Ar21, q21, S21, N21m, H21, G21⟩ := id V19_b1
  have hin21 : ¬ ((9 : Int32) < 0 ∨ cl21.slots.size ≤ ((9 : Int32)).toNatClampNeg) := inb_of S21 ⟨by decide, by decide⟩
  obtain ⟨T21, h21, X21, e21, W21, st21⟩ := stC X19 hx hZ e19 Ar21 (j := (9 : Int32)) hin21 (g := (mkF m 61 #[.val (.int p1)] [(.int (69 : Int32)), (.int (9 : Int32)), (.ref b1), (.ref b1)])) rfl rfl (hb hby d2_61)
  have V21_b1 : Arv Z h21 b1 k1 .char (14 : Int32) [(.int (nar .char (67 : Int32))), (.int (nar .char (104 : Int32))), (.int (nar .char (97 : Int32))), (.int (nar .char (108 : Int32))), (.int (nar .char (108 : Int32))), (.int (nar .char (101 : Int32))), (.int (nar .char (110 : Int32))), (.int (nar .char (103 : Int32))), (.int (nar .char (101 : Int32))), (.int (nar .char (69 : Int32))), (.int (0 : Int32)), (.int (0 : Int32)), (.int (0 : Int32)), (.int (0 : Int32))] (.int (0 : Int32)) := Arv.set Ar21 q21 S21 N21m H21 G21 (fits_nar_char _) W21 9 rfl (Nat.le_of_ble_eq_true rfl)
  have Zs22 := Nat.le_trans Zs20 (Keep.of_wr W21).1
  have Kk21 := Kk19.wr W21 (Or.inr sz_b1)
  have N21 := Fr.snoc X21 N19 g_b1
  obtain ⟨cl23, Ar23, q23, S23, N23m, H23, G23⟩ := id V21_b1
  have hin23 : ¬ ((10 : Int32) < 0 ∨ cl23.slots.size ≤ ((10 : Int32)).toNatClampNeg) := inb_of S23 ⟨by decide, by decide⟩
  obtain ⟨T23, h23, X23, e23, W23, st23⟩ := stC X21 hx hZ e21 Ar23 (j := (10 : Int32)) hin23 (g := (mkF m 67 #[.val (.int p1)] [(.int (109 : Int32)), (.int (10 : Int32)), (.ref b1), (.ref b1)])) rfl rfl (hb hby d2_67)
  have V23_b1 : Arv Z h23 b1 k1 .char (14 : Int32) [(.int (nar .char (67 : Int32))), (.int (nar .char (104 : Int32))), (.int (nar .char (97 : Int32))), (.int (nar .char (108 : Int32))), (.int (nar .char (108 : Int32))), (.int (nar .char (101 : Int32))), (.int (nar .char (110 : Int32))), (.int (nar .char (103 : Int32))), (.int (nar .char (101 : Int32))), (.int (nar .char (69 : Int32))), (.int (nar .char (109 : Int32))), (.int (0 : Int32)), (.int (0 : Int32)), (.int (0 : Int32))] (.int (0 : Int32)) := Arv.set Ar23 q23 S23 N23m H23 G23 (fits_nar_char _) W23 10 rfl (Nat.le_of_ble_eq_true rfl)
  have Zs24 := Nat.le_trans Zs22 (Keep.of_wr W23).1
  have Kk23 := Kk21.wr W23 (Or.inr sz_b1)
  have N23 := Fr.snoc X23 N21 g_b1
  obtain ⟨cl25, Ar25, q25, S25, N25m, H25, G25⟩ := id V23_b1
  have hin25 : ¬ ((11 : Int32) < 0 ∨ cl25.slots.size ≤ ((11 : Int32)).toNatClampNeg) := inb_of S25 ⟨by decide, by decide⟩
  obtain ⟨T25, h25, X25, e25, W25, st25⟩ := stC X23 hx hZ e23 Ar25 (j := (11 : Int32)) hin25 (g := (mkF m 73 #[.val (.int p1)] [(.int (97 : Int32)), (.int (11 : Int32)), (.ref b1), (.ref b1)])) rfl rfl (hb hby d2_73)
  have V25_b1 : Arv Z h25 b1 k1 .char (14 : Int32) [(.int (nar .char (67 : Int32))), (.int (nar .char (104 : Int32))), (.int (nar .char (97 : Int32))), (.int (nar .char (108 : Int32))), (.int (nar .char (108 : Int32))), (.int (nar .char (101 : Int32))), (.int (nar .char (110 : Int32))), (.int (nar .char (103 : Int32))), (.int (nar .char (101 : Int32))), (.int (nar .char (69 : Int32))), (.int (nar .char (109 : Int32))), (.int (nar .char (97 : Int32))), (.int (0 : Int32)), (.int (0 : Int32))] (.int (0 : Int32)) := Arv.set Ar25 q25 S25 N25m H25 G25 (fits_nar_char _) W25 11 rfl (Nat.le_of_ble_eq_true rfl)
  have Zs26 := Nat.le_trans Zs24 (Keep.of_wr W25).1
  have Kk25 := Kk23.wr W25 (Or.inr sz_b1)
  have N25 := Fr.snoc X25 N23 g_b1
  obtain ⟨cl27, Ar27, q27, S27, N27m, H27, G27⟩ := id V25_b1
  have hin27 : ¬ ((12 : Int32) < 0 ∨ cl27.slots.size ≤ ((12 : Int32)).toNatClampNeg) := inb_of S27 ⟨by decide, by decide⟩
  obtain ⟨T27, h27, X27, e27, W27, st27⟩ := stC X25 hx hZ e25 Ar27 (j := (12 : Int32)) hin27 (g := (mkF m 79 #[.val (.int p1)] [(.int (105 : Int32)), (.int (12 : Int32)), (.ref b1), (.ref b1)])) rfl rfl (hb hby d2_79)
  have V27_b1 : Arv Z h27 b1 k1 .char (14 : Int32) [(.int (nar .char (67 : Int32))), (.int (nar .char (104 : Int32))), (.int (nar .char (97 : Int32))), (.int (nar .char (108 : Int32))), (.int (nar .char (108 : Int32))), (.int (nar .char (101 : Int32))), (.int (nar .char (110 : Int32))), (.int (nar .char (103 : Int32))), (.int (nar .char (101 : Int32))), (.int (nar .char (69 : Int32))), (.int (nar .char (109 : Int32))), (.int (nar .char (97 : Int32))), (.int (nar .char (105 : Int32))), (.int (0 : Int32))] (.int (0 : Int32)) := Arv.set Ar27 q27 S27 N27m H27 G27 (fits_nar_char _) W27 12 rfl (Nat.le_of_ble_eq_true rfl)
  have Zs28 := Nat.le_trans Zs26 (Keep.of_wr W27).1
  have Kk27 := Kk25.wr W27 (Or.inr sz_b1)
  have N27 := Fr.snoc X27 N25 g_b1
  obtain ⟨cl29, Ar29, q29, S29, N29m, H29, G29⟩ := id V27_b1
  have hin29 : ¬ ((13 : Int32) < 0 ∨ cl29.slots.size ≤ ((13 : Int32)).toNatClampNeg) := inb_of S29 ⟨by decide, by decide⟩
  obtain ⟨T29, h29, X29, e29, W29, st29⟩ := stC X27 hx hZ e27 Ar29 (j := (13 : Int32)) hin29 (g := (mkF m 85 #[.val (.int p1)] [(.int (108 : Int32)), (.int (13 : Int32)), (.ref b1), (.ref b1)])) rfl rfl (hb hby d2_85)
  have V29_b1 : Arv Z h29 b1 k1 .char (14 : Int32) [(.int (nar .char (67 : Int32))), (.int (nar .char (104 : Int32))), (.int (nar .char (97 : Int32))), (.int (nar .char (108 : Int32))), (.int (nar .char (108 : Int32))), (.int (nar .char (101 : Int32))), (.int (nar .char (110 : Int32))), (.int (nar .char (103 : Int32))), (.int (nar .char (101 : Int32))), (.int (nar .char (69 : Int32))), (.int (nar .char (109 : Int32))), (.int (nar .char (97 : Int32))), (.int (nar .char (105 : Int32))), (.int (nar .char (108 : Int32)))] (.int (0 : Int32)) := Arv.set Ar29 q29 S29 N29m H29 G29 (fits_nar_char _) W29 13 rfl (Nat.le_of_ble_eq_true rfl)
  have Zs30 := Nat.le_trans Zs28 (Keep.of_wr W29).1
  have Kk29 := Kk27.wr W29 (Or.inr sz_b1)
  have N29 := Fr.snoc X29 N27 g_b1
  obtain ⟨fs, hr, hrun, hended, hW, hsame⟩ := X29.leave (v := some (.ref b1)) (fun h => by rw [Bd.returns] at h; cases h)
  refine ⟨_, _, pre1 _ ?_, hrun, hended, _, _, rfl, ?_, ⟨_, rfl⟩, hW, hsame.mono (by decide) (by decide)⟩
  · show Steps p.tables e below (s₁.setTop (mkF m 4 #[.val (.int p1)] [])) _
    refine XS.bipush X0.here hx rfl (hb hby d2_4) ?_
    show Steps p.tables e below (s₁.setTop (mkF m 6 #[.val (.int p1)] [(.int (14 : Int32))])) _
    refine st1 _ ?_
    show Steps p.tables e below (T1.setTop (mkF m 8 #[.val (.int p1)] [(.ref b1)])) _
    refine XS.dup X1.here hx rfl (hb hby d2_8) rfl rfl ?_
    show Steps p.tables e below (T1.setTop (mkF m 9 #[.val (.int p1)] [(.ref b1), (.ref b1)])) _
    refine XS.iconst X1.here hx rfl (hb hby d2_9) ?_
    show Steps p.tables e below (T1.setTop (mkF m 10 #[.val (.int p1)] [(.int (0 : Int32)), (.ref b1), (.ref b1)])) _
    refine XS.bipush X1.here hx rfl (hb hby d2_10) ?_
    show Steps p.tables e below (T1.setTop (mkF m 12 #[.val (.int p1)] [(.int (67 : Int32)), (.int (0 : Int32)), (.ref b1), (.ref b1)])) _
    refine st3 _ ?_
    show Steps p.tables e below (T3.setTop (mkF m 13 #[.val (.int p1)] [(.ref b1)])) _
    refine XS.dup X3.here hx rfl (hb hby d2_13) rfl rfl ?_
    show Steps p.tables e below (T3.setTop (mkF m 14 #[.val (.int p1)] [(.ref b1), (.ref b1)])) _
    refine XS.iconst X3.here hx rfl (hb hby d2_14) ?_
    show Steps p.tables e below (T3.setTop (mkF m 15 #[.val (.int p1)] [(.int (1 : Int32)), (.ref b1), (.ref b1)])) _
    refine XS.bipush X3.here hx rfl (hb hby d2_15) ?_
    show Steps p.tables e below (T3.setTop (mkF m 17 #[.val (.int p1)] [(.int (104 : Int32)), (.int (1 : Int32)), (.ref b1), (.ref b1)])) _
    refine st5 _ ?_
    show Steps p.tables e below (T5.setTop (mkF m 18 #[.val (.int p1)] [(.ref b1)])) _
    refine XS.dup X5.here hx rfl (hb hby d2_18) rfl rfl ?_
    show Steps p.tables e below (T5.setTop (mkF m 19 #[.val (.int p1)] [(.ref b1), (.ref b1)])) _
    refine XS.iconst X5.here hx rfl (hb hby d2_19) ?_
    show Steps p.tables e below (T5.setTop (mkF m 20 #[.val (.int p1)] [(.int (2 : Int32)), (.ref b1), (.ref b1)])) _
    refine XS.bipush X5.here hx rfl (hb hby d2_20) ?_
    show Steps p.tables e below (T5.setTop (mkF m 22 #[.val (.int p1)] [(.int (97 : Int32)), (.int (2 : Int32)), (.ref b1), (.ref b1)])) _
    refine st7 _ ?_
    show Steps p.tables e below (T7.setTop (mkF m 23 #[.val (.int p1)] [(.ref b1)])) _
    refine XS.dup X7.here hx rfl (hb hby d2_23) rfl rfl ?_
    show Steps p.tables e below (T7.setTop (mkF m 24 #[.val (.int p1)] [(.ref b1), (.ref b1)])) _
    refine XS.iconst X7.here hx rfl (hb hby d2_24) ?_
    show Steps p.tables e below (T7.setTop (mkF m 25 #[.val (.int p1)] [(.int (3 : Int32)), (.ref b1), (.ref b1)])) _
    refine XS.bipush X7.here hx rfl (hb hby d2_25) ?_
    show Steps p.tables e below (T7.setTop (mkF m 27 #[.val (.int p1)] [(.int (108 : Int32)), (.int (3 : Int32)), (.ref b1), (.ref b1)])) _
    refine st9 _ ?_
    show Steps p.tables e below (T9.setTop (mkF m 28 #[.val (.int p1)] [(.ref b1)])) _
    refine XS.dup X9.here hx rfl (hb hby d2_28) rfl rfl ?_
    show Steps p.tables e below (T9.setTop (mkF m 29 #[.val (.int p1)] [(.ref b1), (.ref b1)])) _
    refine XS.iconst X9.here hx rfl (hb hby d2_29) ?_
    show Steps p.tables e below (T9.setTop (mkF m 30 #[.val (.int p1)] [(.int (4 : Int32)), (.ref b1), (.ref b1)])) _
    refine XS.bipush X9.here hx rfl (hb hby d2_30) ?_
    show Steps p.tables e below (T9.setTop (mkF m 32 #[.val (.int p1)] [(.int (108 : Int32)), (.int (4 : Int32)), (.ref b1), (.ref b1)])) _
    refine st11 _ ?_
    show Steps p.tables e below (T11.setTop (mkF m 33 #[.val (.int p1)] [(.ref b1)])) _
    refine XS.dup X11.here hx rfl (hb hby d2_33) rfl rfl ?_
    show Steps p.tables e below (T11.setTop (mkF m 34 #[.val (.int p1)] [(.ref b1), (.ref b1)])) _
    refine XS.iconst X11.here hx rfl (hb hby d2_34) ?_
    show Steps p.tables e below (T11.setTop (mkF m 35 #[.val (.int p1)] [(.int (5 : Int32)), (.ref b1), (.ref b1)])) _
    refine XS.bipush X11.here hx rfl (hb hby d2_35) ?_
    show Steps p.tables e below (T11.setTop (mkF m 37 #[.val (.int p1)] [(.int (101 : Int32)), (.int (5 : Int32)), (.ref b1), (.ref b1)])) _
    refine st13 _ ?_
    show Steps p.tables e below (T13.setTop (mkF m 38 #[.val (.int p1)] [(.ref b1)])) _
    refine XS.dup X13.here hx rfl (hb hby d2_38) rfl rfl ?_
    show Steps p.tables e below (T13.setTop (mkF m 39 #[.val (.int p1)] [(.ref b1), (.ref b1)])) _
    refine XS.bipush X13.here hx rfl (hb hby d2_39) ?_
    show Steps p.tables e below (T13.setTop (mkF m 41 #[.val (.int p1)] [(.int (6 : Int32)), (.ref b1), (.ref b1)])) _
    refine XS.bipush X13.here hx rfl (hb hby d2_41) ?_
    show Steps p.tables e below (T13.setTop (mkF m 43 #[.val (.int p1)] [(.int (110 : Int32)), (.int (6 : Int32)), (.ref b1), (.ref b1)])) _
    refine st15 _ ?_
    show Steps p.tables e below (T15.setTop (mkF m 44 #[.val (.int p1)] [(.ref b1)])) _
    refine XS.dup X15.here hx rfl (hb hby d2_44) rfl rfl ?_
    show Steps p.tables e below (T15.setTop (mkF m 45 #[.val (.int p1)] [(.ref b1), (.ref b1)])) _
    refine XS.bipush X15.here hx rfl (hb hby d2_45) ?_
    show Steps p.tables e below (T15.setTop (mkF m 47 #[.val (.int p1)] [(.int (7 : Int32)), (.ref b1), (.ref b1)])) _
    refine XS.bipush X15.here hx rfl (hb hby d2_47) ?_
    show Steps p.tables e below (T15.setTop (mkF m 49 #[.val (.int p1)] [(.int (103 : Int32)), (.int (7 : Int32)), (.ref b1), (.ref b1)])) _
    refine st17 _ ?_
    show Steps p.tables e below (T17.setTop (mkF m 50 #[.val (.int p1)] [(.ref b1)])) _
    refine XS.dup X17.here hx rfl (hb hby d2_50) rfl rfl ?_
    show Steps p.tables e below (T17.setTop (mkF m 51 #[.val (.int p1)] [(.ref b1), (.ref b1)])) _
    refine XS.bipush X17.here hx rfl (hb hby d2_51) ?_
    show Steps p.tables e below (T17.setTop (mkF m 53 #[.val (.int p1)] [(.int (8 : Int32)), (.ref b1), (.ref b1)])) _
    refine XS.bipush X17.here hx rfl (hb hby d2_53) ?_
    show Steps p.tables e below (T17.setTop (mkF m 55 #[.val (.int p1)] [(.int (101 : Int32)), (.int (8 : Int32)), (.ref b1), (.ref b1)])) _
    refine st19 _ ?_
    show Steps p.tables e below (T19.setTop (mkF m 56 #[.val (.int p1)] [(.ref b1)])) _
    refine XS.dup X19.here hx rfl (hb hby d2_56) rfl rfl ?_
    show Steps p.tables e below (T19.setTop (mkF m 57 #[.val (.int p1)] [(.ref b1), (.ref b1)])) _
    refine XS.bipush X19.here hx rfl (hb hby d2_57) ?_
    show Steps p.tables e below (T19.setTop (mkF m 59 #[.val (.int p1)] [(.int (9 : Int32)), (.ref b1), (.ref b1)])) _
    refine XS.bipush X19.here hx rfl (hb hby d2_59) ?_
    show Steps p.tables e below (T19.setTop (mkF m 61 #[.val (.int p1)] [(.int (69 : Int32)), (.int (9 : Int32)), (.ref b1), (.ref b1)])) _
    refine st21 _ ?_
    show Steps p.tables e below (T21.setTop (mkF m 62 #[.val (.int p1)] [(.ref b1)])) _
    refine XS.dup X21.here hx rfl (hb hby d2_62) rfl rfl ?_
    show Steps p.tables e below (T21.setTop (mkF m 63 #[.val (.int p1)] [(.ref b1), (.ref b1)])) _
    refine XS.bipush X21.here hx rfl (hb hby d2_63) ?_
    show Steps p.tables e below (T21.setTop (mkF m 65 #[.val (.int p1)] [(.int (10 : Int32)), (.ref b1), (.ref b1)])) _
    refine XS.bipush X21.here hx rfl (hb hby d2_65) ?_
    show Steps p.tables e below (T21.setTop (mkF m 67 #[.val (.int p1)] [(.int (109 : Int32)), (.int (10 : Int32)), (.ref b1), (.ref b1)])) _
    refine st23 _ ?_
    show Steps p.tables e below (T23.setTop (mkF m 68 #[.val (.int p1)] [(.ref b1)])) _
    refine XS.dup X23.here hx rfl (hb hby d2_68) rfl rfl ?_
    show Steps p.tables e below (T23.setTop (mkF m 69 #[.val (.int p1)] [(.ref b1), (.ref b1)])) _
    refine XS.bipush X23.here hx rfl (hb hby d2_69) ?_
    show Steps p.tables e below (T23.setTop (mkF m 71 #[.val (.int p1)] [(.int (11 : Int32)), (.ref b1), (.ref b1)])) _
    refine XS.bipush X23.here hx rfl (hb hby d2_71) ?_
    show Steps p.tables e below (T23.setTop (mkF m 73 #[.val (.int p1)] [(.int (97 : Int32)), (.int (11 : Int32)), (.ref b1), (.ref b1)])) _
    refine st25 _ ?_
    show Steps p.tables e below (T25.setTop (mkF m 74 #[.val (.int p1)] [(.ref b1)])) _
    refine XS.dup X25.here hx rfl (hb hby d2_74) rfl rfl ?_
    show Steps p.tables e below (T25.setTop (mkF m 75 #[.val (.int p1)] [(.ref b1), (.ref b1)])) _
    refine XS.bipush X25.here hx rfl (hb hby d2_75) ?_
    show Steps p.tables e below (T25.setTop (mkF m 77 #[.val (.int p1)] [(.int (12 : Int32)), (.ref b1), (.ref b1)])) _
    refine XS.bipush X25.here hx rfl (hb hby d2_77) ?_
    show Steps p.tables e below (T25.setTop (mkF m 79 #[.val (.int p1)] [(.int (105 : Int32)), (.int (12 : Int32)), (.ref b1), (.ref b1)])) _
    refine st27 _ ?_
    show Steps p.tables e below (T27.setTop (mkF m 80 #[.val (.int p1)] [(.ref b1)])) _
    refine XS.dup X27.here hx rfl (hb hby d2_80) rfl rfl ?_
    show Steps p.tables e below (T27.setTop (mkF m 81 #[.val (.int p1)] [(.ref b1), (.ref b1)])) _
    refine XS.bipush X27.here hx rfl (hb hby d2_81) ?_
    show Steps p.tables e below (T27.setTop (mkF m 83 #[.val (.int p1)] [(.int (13 : Int32)), (.ref b1), (.ref b1)])) _
    refine XS.bipush X27.here hx rfl (hb hby d2_83) ?_
    show Steps p.tables e below (T27.setTop (mkF m 85 #[.val (.int p1)] [(.int (108 : Int32)), (.int (13 : Int32)), (.ref b1), (.ref b1)])) _
    refine st29 _ ?_
    show Steps p.tables e below (T29.setTop (mkF m 86 #[.val (.int p1)] [(.ref b1)])) _
    exact retOut X29 hx Bd.returns rfl (Or.inr (Or.inr (Or.inr (Or.inr ⟨rfl, rfl, rfl⟩)))) (hb hby d2_86) hr
  · show Q2k1 Z p1 h0 n0 _ T29.heap _
    rw [e29]
    exact ⟨_, _, rfl, N29, Kk29, sz_b1, V29_b1⟩
def Q1 (Z : State) (p1 p2 p3 p4 G1 : Int32) (h0 : Heap) (n0 : Nat) (v : Option Value) (h : Heap) (L : List Loc) : Prop := ∃ (sa : Addr) (cs : List Int32), v = some (.ref sa) ∧ Fr n0 L ∧ Keep h0 h [] ∧ own_str Z h sa cs
set_option maxRecDepth 65536 in
set_option maxHeartbeats 40000000 in
theorem rm1 (l : Launch) (Z : State) (a0 : Array Value) (hw : ∀ d ∈ tables_1, d.before a0 Z = true) (ws : List Jvm.Cond) (p1 p2 p3 p4 G1 : Int32) (h0 : Heap) (n0 : Nat) (Z0 : n0 ≤ h0.size) (S1 : Sta Z h0 "java/lang/String" "COMPACT_STRINGS" "Z" (.int G1)) (P5 : ¬ (G1 = (0 : Int32))) (hcb : ¬ nar .char p4 < 0 ∧ ¬ (255 : Int32) < nar .char p4) :
    MetFree l (⟨"com/example/sekisho/sekisho/registration/FactorOfKeyPinLaw", "build", "(ZIIC)Ljava/lang/String;"⟩ : MethodName) (head1 (Jvm.Cond.code (⟨"com/example/sekisho/sekisho/registration/FactorOfKeyPinLaw", "build", "(ZIIC)Ljava/lang/String;"⟩ : MethodName) method_5_code 5 (some (.object "java/lang/String")) :: ws) ({ frames := 5, cells := 3, slots := 64, locals := 90 } : Room)) (fun a U => a = #[(.int p1), (.int p2), (.int p3), (.int p4)] ∧ Z.Warmed39 U.vm ∧ U.heap = h0 ∧ CHv Z consts_1 U.vm h0) (fun _ _ _ _ _ => True) (fun _ U o U' => ∃ v L, o = .returned v ∧ Q1 Z p1 p2 p3 p4 G1 h0 n0 v U'.heap L ∧ CHr Z consts_1 U.vm U.heap U'.vm U'.heap ∧ ReturnedEndW U o U' L ({ frames := 5, cells := 3, slots := 64, locals := 90 } : Room).cells ({ frames := 5, cells := 3, slots := 64, locals := 90 } : Room).slots) := by
  refine MetFree.of_bodySF (plainFor_of_name pn_1) hisR ?_
  intro p e s m args below meth c s₁ Bd hml0 hP hK
  obtain ⟨rfl, hZ, hh, HC⟩ := hP
  have hx := Bd.exec
  have hby := Bd.bytes
  have hml : c.maxLocals = 5 := hml0
  have hown : s.vm.findClass "com/example/sekisho/sekisho/registration/FactorOfKeyPinLaw" = some m.cls := findClass_of_methodNamed Bd.named
  have hnm := (name_of_methodNamed Bd.named Bd.method).1
  have X0 : Stand p l e ({ frames := 5, cells := 3, slots := 64, locals := 90 } : Room) s m #[(.int p1), (.int p2), (.int p3), (.int p4)] below meth c s₁ [] 0 0 := Stand.of_body Bd
  have e0 : s₁.heap = h0 := by rw [← hh, Bd.state]; rfl
  have N0 := Fr.nil n0
  have pre0 : ∀ t, Steps p.tables e below (s₁.setTop (mkF m 0 #[.val (.int p1), .val (.int p2), .val (.int p3), .val (.int p4), .unset] [])) t → Steps p.tables e below (s₁.setTop (entryFrame m #[(.int p1), (.int p2), (.int p3), (.int p4)] 5)) t := fun t k => castTop (ef_1 m p1 p2 p3 p4) k
  have hS0 : s.Since s.vm 0 := (State.WarmedH.refl s).since 0
  have hk0 : 0 ≤ h0.size := Nat.zero_le _
  have hEL : EW Z a0 consts_1 := own_EW hw
  have wS : ∀ a ∈ Bundle.stringAtoms, a.before a0 Z = true := fun d hd => hw d ((by decide +kernel : ∀ d ∈ Bundle.stringAtoms, d ∈ tables_1) d hd)
  have KK0 := Keep.refl h0 []
  have hws : ∀ d ∈ StrChars.Road.words, d.before a0 Z = true := fun d hd => hw d ((by decide +kernel : ∀ d ∈ StrChars.Road.words, d ∈ tables_1) d hd)
  by_cases ce : p1 = 0
  · skip
    by_cases k0 : p2 = 0
    · skip
      have pre1 : ∀ t, Steps p.tables e below (s₁.setTop (mkF m 4 #[.val (.int p1), .val (.int p2), .val (.int p3), .val (.int p4), .unset] [])) t → Steps p.tables e below (s₁.setTop (entryFrame m #[(.int p1), (.int p2), (.int p3), (.int p4)] 5)) t := by
        intro t k
        refine pre0 t ?_
        show Steps p.tables e below (s₁.setTop (mkF m 0 #[.val (.int p1), .val (.int p2), .val (.int p3), .val (.int p4), .unset] [])) _
        refine XS.iloadN X0.here hx rfl (hb hby d1_0) rfl ?_
        show Steps p.tables e below (s₁.setTop (mkF m 1 #[.val (.int p1), .val (.int p2), .val (.int p3), .val (.int p4), .unset] [(.int p2)])) _
        refine XS.ifNo X0.here hx rfl (hb hby d1_1) rfl ((if0 _ _).trans (teq k0).2) ?_
        exact k
      obtain ⟨T1, h1, X1, e1, E1, A1, D1, -, st1⟩ := newO X0 hx hZ hown (hw _ (List.mem_of_getElem? (i := 4) rfl)) (hw _ (List.mem_of_getElem? (i := 5) rfl)) (hw _ (List.mem_of_getElem? (i := 6) rfl)) e0 (g := (mkF m 4 #[.val (.int p1), .val (.int p2), .val (.int p3), .val (.int p4), .unset] [])) rfl (hb hby d1_4) (by decide) (by decide)
      obtain ⟨b1, g1⟩ : ∃ z, z = h0.size := ⟨_, rfl⟩
      rw [← g1] at A1 D1 st1
      have g_b1 : n0 ≤ b1 := Nat.le_trans Z0 (Nat.le_of_eq g1.symm)
      have sz_b1 := Nat.le_trans KK0.1 (Nat.le_of_eq g1.symm)
      have S_java_lang_String_COMPACT_STRINGS_1 := S1.ext E1
      have Zs2 := Nat.le_trans Z0 E1.1
      have hk3 := Nat.le_trans hk0 E1.1
      have Kk1 := KK0.ext E1
      have F_coder_b1 : Fld Z h1 b1 "java/lang/String" "coder" "B" (.int (0 : Int32)) := D1 (Or.inr (hw _ (List.mem_of_getElem? (i := 34) rfl))) (ty := .byte) (by decide)
      have F_value_b1 : Fld Z h1 b1 "java/lang/String" "value" "[B" .null := D1 (Or.inr (hw _ (List.mem_of_getElem? (i := 36) rfl))) (ty := (.array .byte)) (by decide)
      obtain ⟨_, _, ⟨T4, L4, k4, n4⟩, -, X4, ⟨Lc4, hQ4, l4, y4, z4⟩, st4⟩ := Jvm.LawKit.callS X1 hx (y := (⟨"com/example/sekisho/sekisho/registration/FactorOfKeyPinLaw", "keyChars", "(Z)[C"⟩ : MethodName)) hown (mvT hZ (hw _ (List.mem_of_getElem? (i := 7) rfl))) (mvT hZ (hw _ (List.mem_of_getElem? (i := 8) rfl))) (mvT hZ (hw _ (List.mem_of_getElem? (i := 2) rfl))) (mvT hZ (hw _ (List.mem_of_getElem? (i := 9) rfl))) (by decide) (backOf (W := 2) (rm2k0 l Z a0 hw [] p1 h1 n0 Zs2 ce) hZ (hw _ (List.mem_of_getElem? (i := 9) rfl)) (hw _ (List.mem_of_getElem? (i := 2) rfl)) (by decide) (by decide)) (g := (mkF m 9 #[.val (.int p1), .val (.int p2), .val (.int p3), .val (.int p4), .unset] [(.int p1), (.ref b1), (.ref b1)])) rfl (by rw [hml]; rfl) (argsL := [(.int p1)]) (rest := [(.ref b1), (.ref b1)]) (lenOf pd_4 rfl) rfl (by show 2 * 0 + _ ≤ _; exact Nat.le_of_eq rfl) (hb hby d1_9) (fun _ _ => ⟨rfl, e1, (by decide : 1 + 1 ≤ _), (by decide : 4 + 16 ≤ _)⟩)
      dsimp only [Pt.U, Pt.locs, Pt.cells, Pt.slots] at X4 l4 y4 z4 st4 hQ4
      subst l4 y4 z4
      obtain ⟨ba, kc, rfl, N4q, K4q, g4q, V4q⟩ := hQ4
      have gba : n0 ≤ ba := Nat.le_trans Zs2 g4q
      have sba := Nat.le_trans Kk1.1 g4q
      have N4 := Fr.app N0 N4q
      have S_java_lang_String_COMPACT_STRINGS_4 := own_sta0 S_java_lang_String_COMPACT_STRINGS_1 K4q
      have F_b1_coder_4 := F_coder_b1.keep K4q nin0
      have F_b1_value_4 := F_value_b1.keep K4q nin0
      have E_b1_4 := A1.keep K4q
      have Zs5 := Nat.le_trans Zs2 K4q.1
      have hk6 := Nat.le_trans hk3 K4q.1
      have Kk4 := Kk1.trans K4q all0
      have V4r : Arv Z T4.heap ba kc .char (16 : Int32) [(.int (nar .char (67 : Int32))), (.int (nar .char (104 : Int32))), (.int (nar .char (97 : Int32))), (.int (nar .char (108 : Int32))), (.int (nar .char (108 : Int32))), (.int (nar .char (101 : Int32))), (.int (nar .char (110 : Int32))), (.int (nar .char (103 : Int32))), (.int (nar .char (101 : Int32))), (.int (nar .char (79 : Int32))), (.int (nar .char (77 : Int32))), (.int (nar .char (65 : Int32))), (.int (nar .char (84 : Int32))), (.int (nar .char (79 : Int32))), (.int (nar .char (84 : Int32))), (.int (nar .char (80 : Int32)))] (.int (0 : Int32)) := V4q
      have pre2 : ∀ t, Steps p.tables e below (T4.setTop (mkF m 12 #[.val (.int p1), .val (.int p2), .val (.int p3), .val (.int p4), .unset] [(.ref ba), (.ref b1), (.ref b1)])) t → Steps p.tables e below (s₁.setTop (entryFrame m #[(.int p1), (.int p2), (.int p3), (.int p4)] 5)) t := by
        intro t k
        refine pre1 t ?_
        show Steps p.tables e below (s₁.setTop (mkF m 4 #[.val (.int p1), .val (.int p2), .val (.int p3), .val (.int p4), .unset] [])) _
        refine st1 _ ?_
        show Steps p.tables e below (T1.setTop (mkF m 7 #[.val (.int p1), .val (.int p2), .val (.int p3), .val (.int p4), .unset] [(.ref b1)])) _
        refine XS.dup X1.here hx rfl (hb hby d1_7) rfl rfl ?_
        show Steps p.tables e below (T1.setTop (mkF m 8 #[.val (.int p1), .val (.int p2), .val (.int p3), .val (.int p4), .unset] [(.ref b1), (.ref b1)])) _
        refine XS.iloadN X1.here hx rfl (hb hby d1_8) rfl ?_
        show Steps p.tables e below (T1.setTop (mkF m 9 #[.val (.int p1), .val (.int p2), .val (.int p3), .val (.int p4), .unset] [(.int p1), (.ref b1), (.ref b1)])) _
        refine st4 _ ?_
        exact k
      obtain ⟨lq7, X7, N7⟩ : ∃ lq, Stand p l e ({ frames := 5, cells := 3, slots := 64, locals := 90 } : Room) (s.setVm s.vm) m #[(.int p1), (.int p2), (.int p3), (.int p4)] below meth c T4 lq 2 20 ∧ Fr n0 lq := ⟨_, X4, N4⟩
      have Vc : Arv Z T4.heap ba kc .char (16 : Int32) (own_c0.map Value.int) (.int (0 : Int32)) := V4r
      obtain ⟨_, _, ⟨T8, L8, k8, n8⟩, -, X8, ⟨Lc8, hQ8, l8, y8, z8⟩, st8⟩ := X7.specialBack hx (y := (⟨"java/lang/String", "<init>", "([C)V"⟩ : MethodName)) rfl hown (mvT hZ (hw _ (List.mem_of_getElem? (i := 11) rfl))) (mvT hZ (hw _ (List.mem_of_getElem? (i := 12) rfl))) (mvT hZ (hw _ (List.mem_of_getElem? (i := 13) rfl))) (by decide) (StrChars.Road.backV (W := 1) hZ hws (kI := 4) (hw _ (List.mem_of_getElem? (i := 5) rfl)) (cs := own_c0) (bs := (own_c0).map (fun c => c.toInt8.toInt32)) (n := 16) g_b1 Zs5 E_b1_4 F_b1_value_4 F_b1_coder_4 Vc S_java_lang_String_COMPACT_STRINGS_4 P5 rfl rfl (by decide) (by decide) own_hc0 rfl (by decide) (by decide)) (g := (mkF m 12 #[.val (.int p1), .val (.int p2), .val (.int p3), .val (.int p4), .unset] [(.ref ba), (.ref b1), (.ref b1)])) rfl (by rw [hml]; rfl) (Steps.refl _) (a := b1) (argsL := [(.ref ba)]) (rest := [(.ref b1)]) (lenOf pd_5 rfl) rfl (by show 2 * 0 + _ ≤ _; exact Nat.le_of_eq rfl) (hb hby d1_12) (fun _ _ => ⟨rfl, rfl, (by decide : 2 + 1 ≤ _), (by decide : 20 + 16 ≤ _)⟩)
      dsimp only [Pt.U, Pt.locs, Pt.cells, Pt.slots] at X8 l8 y8 z8 st8 hQ8
      subst l8 y8 z8
      obtain ⟨rfl, N8q, K8q, E8q, Fc8q, ta8, kb8, u18, u28, u38, Fv8q, Vv8q⟩ := hQ8
      have N8 := Fr.app N7 N8q
      have E_b1_8 := E_b1_4.keep K8q
      have Zs9 := Nat.le_trans Zs5 K8q.1
      have hk10 := Nat.le_trans hk6 K8q.1
      have Kk8 := Kk4.trans K8q (allS (Or.inr sz_b1) all0)
      obtain ⟨fs, hr, hrun, hended, hEnd⟩ := Stand.leaveW (s := s) (vm₁ := s.vm) X8 hS0 (by exact hk10) (v := some (.ref b1)) (fun h => by rw [Bd.returns] at h; cases h)
      refine ⟨_, _, pre2 _ ?_, hrun, hended, _, _, rfl, ?_, ?_, hEnd.1, hEnd.2.1, hEnd.2.2.1, hEnd.2.2.2.mono (by decide) (by decide)⟩
      · show Steps p.tables e below (T4.setTop (mkF m 12 #[.val (.int p1), .val (.int p2), .val (.int p3), .val (.int p4), .unset] [(.ref ba), (.ref b1), (.ref b1)])) _
        refine st8.trans ?_
        show Steps p.tables e below (T8.setTop (mkF m 15 #[.val (.int p1), .val (.int p2), .val (.int p3), .val (.int p4), .unset] [(.ref b1)])) _
        exact retOut X8 hx Bd.returns rfl (Or.inr (Or.inr (Or.inr (Or.inr ⟨rfl, rfl, rfl⟩)))) (hb hby d1_15) hr
      · show Q1 Z p1 p2 p3 p4 G1 h0 n0 _ T8.heap _
        exact ⟨_, own_c0, rfl, N8, Kk8, ta8, kb8, 16, E8q, Fv8q, Fc8q, Vv8q, own_hc0, rfl, by decide⟩
      · show CHr Z consts_1 s.vm s.heap T8.vm T8.heap
        rw [hh]
        exact CHr.trans (CHr.keep Kk8 sf0 HC) (CHv.at (s := s) (vm0 := s.vm) X8 hZ hEL (CHv.keep Kk8 sf0 HC))
    · skip
      have pre3 : ∀ t, Steps p.tables e below (s₁.setTop (mkF m 16 #[.val (.int p1), .val (.int p2), .val (.int p3), .val (.int p4), .unset] [])) t → Steps p.tables e below (s₁.setTop (entryFrame m #[(.int p1), (.int p2), (.int p3), (.int p4)] 5)) t := by
        intro t k
        refine pre0 t ?_
        show Steps p.tables e below (s₁.setTop (mkF m 0 #[.val (.int p1), .val (.int p2), .val (.int p3), .val (.int p4), .unset] [])) _
        refine XS.iloadN X0.here hx rfl (hb hby d1_0) rfl ?_
        show Steps p.tables e below (s₁.setTop (mkF m 1 #[.val (.int p1), .val (.int p2), .val (.int p3), .val (.int p4), .unset] [(.int p2)])) _
        refine XS.ifYes X0.here hx rfl (pc0 := 1) (pc' := 16) rfl (hb hby d1_1) rfl ((if0 _ _).trans (feq k0).2) (by decide) (by decide) ?_
        exact k
      by_cases k1 : p2 = 1
      · skip
        have pre4 : ∀ t, Steps p.tables e below (s₁.setTop (mkF m 21 #[.val (.int p1), .val (.int p2), .val (.int p3), .val (.int p4), .unset] [])) t → Steps p.tables e below (s₁.setTop (entryFrame m #[(.int p1), (.int p2), (.int p3), (.int p4)] 5)) t := by
          intro t k
          refine pre3 t ?_
          show Steps p.tables e below (s₁.setTop (mkF m 16 #[.val (.int p1), .val (.int p2), .val (.int p3), .val (.int p4), .unset] [])) _
          refine XS.iloadN X0.here hx rfl (hb hby d1_16) rfl ?_
          show Steps p.tables e below (s₁.setTop (mkF m 17 #[.val (.int p1), .val (.int p2), .val (.int p3), .val (.int p4), .unset] [(.int p2)])) _
          refine XS.iconst X0.here hx rfl (hb hby d1_17) ?_
          show Steps p.tables e below (s₁.setTop (mkF m 18 #[.val (.int p1), .val (.int p2), .val (.int p3), .val (.int p4), .unset] [(.int (1 : Int32)), (.int p2)])) _
          refine XS.icmpNo X0.here hx rfl (hb hby d1_18) rfl (teq k1).2 ?_
          exact k
        obtain ⟨_, _, ⟨T11, L11, k11, n11⟩, -, X11, ⟨Lc11, hQ11, l11, y11, z11⟩, st11⟩ := Jvm.LawKit.callS X0 hx (y := (⟨"com/example/sekisho/sekisho/registration/FactorOfKeyPinLaw", "keyChars", "(Z)[C"⟩ : MethodName)) hown (mvT hZ (hw _ (List.mem_of_getElem? (i := 7) rfl))) (mvT hZ (hw _ (List.mem_of_getElem? (i := 8) rfl))) (mvT hZ (hw _ (List.mem_of_getElem? (i := 2) rfl))) (mvT hZ (hw _ (List.mem_of_getElem? (i := 9) rfl))) (by decide) (backOf (W := 0) (rm2k0 l Z a0 hw [] p1 h0 n0 Z0 ce) hZ (hw _ (List.mem_of_getElem? (i := 9) rfl)) (hw _ (List.mem_of_getElem? (i := 2) rfl)) (by decide) (by decide)) (g := (mkF m 22 #[.val (.int p1), .val (.int p2), .val (.int p3), .val (.int p4), .unset] [(.int p1)])) rfl (by rw [hml]; rfl) (argsL := [(.int p1)]) (rest := []) (lenOf pd_4 rfl) rfl (by show 2 * 0 + _ ≤ _; exact Nat.le_of_eq rfl) (hb hby d1_22) (fun _ _ => ⟨rfl, e0, (by decide : 0 + 1 ≤ _), (by decide : 0 + 16 ≤ _)⟩)
        dsimp only [Pt.U, Pt.locs, Pt.cells, Pt.slots] at X11 l11 y11 z11 st11 hQ11
        subst l11 y11 z11
        obtain ⟨ba, kc, rfl, N11q, K11q, g11q, V11q⟩ := hQ11
        have gba : n0 ≤ ba := Nat.le_trans Z0 g11q
        have sba := Nat.le_trans KK0.1 g11q
        have N11 := Fr.app N0 N11q
        have S_java_lang_String_COMPACT_STRINGS_11 := own_sta0 S1 K11q
        have Zs12 := Nat.le_trans Z0 K11q.1
        have hk13 := Nat.le_trans hk0 K11q.1
        have Kk11 := KK0.trans K11q all0
        have V11r : Arv Z T11.heap ba kc .char (16 : Int32) [(.int (nar .char (67 : Int32))), (.int (nar .char (104 : Int32))), (.int (nar .char (97 : Int32))), (.int (nar .char (108 : Int32))), (.int (nar .char (108 : Int32))), (.int (nar .char (101 : Int32))), (.int (nar .char (110 : Int32))), (.int (nar .char (103 : Int32))), (.int (nar .char (101 : Int32))), (.int (nar .char (79 : Int32))), (.int (nar .char (77 : Int32))), (.int (nar .char (65 : Int32))), (.int (nar .char (84 : Int32))), (.int (nar .char (79 : Int32))), (.int (nar .char (84 : Int32))), (.int (nar .char (80 : Int32)))] (.int (0 : Int32)) := V11q
        have pre5 : ∀ t, Steps p.tables e below (T11.setTop (mkF m 27 #[.val (.int p1), .val (.int p2), .val (.int p3), .val (.int p4), .val (.ref ba)] [])) t → Steps p.tables e below (s₁.setTop (entryFrame m #[(.int p1), (.int p2), (.int p3), (.int p4)] 5)) t := by
          intro t k
          refine pre4 t ?_
          show Steps p.tables e below (s₁.setTop (mkF m 21 #[.val (.int p1), .val (.int p2), .val (.int p3), .val (.int p4), .unset] [])) _
          refine XS.iloadN X0.here hx rfl (hb hby d1_21) rfl ?_
          show Steps p.tables e below (s₁.setTop (mkF m 22 #[.val (.int p1), .val (.int p2), .val (.int p3), .val (.int p4), .unset] [(.int p1)])) _
          refine st11 _ ?_
          show Steps p.tables e below (T11.setTop (mkF m 25 #[.val (.int p1), .val (.int p2), .val (.int p3), .val (.int p4), .unset] [(.ref ba)])) _
          refine XS.astore X11.here hx rfl (hb hby d1_25) rfl rfl (l' := #[.val (.int p1), .val (.int p2), .val (.int p3), .val (.int p4), .val (.ref ba)]) rfl ?_
          exact k
        have hmd := own_md p3 (t := (16 : Int32)) (k := 16) (by decide) (by decide)
        obtain ⟨cl14, Ar14, -, S14, N14m, H14, -⟩ := id V11r
        obtain ⟨cl15, Ar15, q15, S15, N15m, H15, G15⟩ := id V11r
        have hin15 : ¬ (((p3 &&& (2147483647 : Int32)) % (16 : Int32)) < 0 ∨ cl15.slots.size ≤ (((p3 &&& (2147483647 : Int32)) % (16 : Int32))).toNatClampNeg) := inb_of S15 hmd.1
        obtain ⟨T15, h15, X15, e15, W15, st15⟩ := stC X11 hx hZ rfl Ar15 (j := ((p3 &&& (2147483647 : Int32)) % (16 : Int32))) hin15 (g := (mkF m 38 #[.val (.int p1), .val (.int p2), .val (.int p3), .val (.int p4), .val (.ref ba)] [(.int p4), (.int ((p3 &&& (2147483647 : Int32)) % (16 : Int32))), (.ref ba)])) rfl rfl (hb hby d1_38)
        have V15_ba : Arv Z h15 ba kc .char (16 : Int32) ([(.int (nar .char (67 : Int32))), (.int (nar .char (104 : Int32))), (.int (nar .char (97 : Int32))), (.int (nar .char (108 : Int32))), (.int (nar .char (108 : Int32))), (.int (nar .char (101 : Int32))), (.int (nar .char (110 : Int32))), (.int (nar .char (103 : Int32))), (.int (nar .char (101 : Int32))), (.int (nar .char (79 : Int32))), (.int (nar .char (77 : Int32))), (.int (nar .char (65 : Int32))), (.int (nar .char (84 : Int32))), (.int (nar .char (79 : Int32))), (.int (nar .char (84 : Int32))), (.int (nar .char (80 : Int32)))].set (((p3 &&& (2147483647 : Int32)) % (16 : Int32))).toNatClampNeg (.int (nar .char p4))) (.int (0 : Int32)) := Arv.set Ar15 q15 S15 N15m H15 G15 (fits_nar_char _) W15 (((p3 &&& (2147483647 : Int32)) % (16 : Int32))).toNatClampNeg rfl hmd.2
        have S_java_lang_String_COMPACT_STRINGS_15 := S_java_lang_String_COMPACT_STRINGS_11.wr W15
        have Zs16 := Nat.le_trans Zs12 (Keep.of_wr W15).1
        have hk17 := Nat.le_trans hk13 (Keep.of_wr W15).1
        have Kk15 := Kk11.wr W15 (Or.inr sba)
        have N15 := Fr.snoc X15 N11 gba
        obtain ⟨T18, h18, X18, e18, E18, A18, D18, -, st18⟩ := newO X15 hx hZ hown (hw _ (List.mem_of_getElem? (i := 4) rfl)) (hw _ (List.mem_of_getElem? (i := 5) rfl)) (hw _ (List.mem_of_getElem? (i := 6) rfl)) e15 (g := (mkF m 39 #[.val (.int p1), .val (.int p2), .val (.int p3), .val (.int p4), .val (.ref ba)] [])) rfl (hb hby d1_39) (by decide) (by decide)
        obtain ⟨b18, g18⟩ : ∃ z, z = h15.size := ⟨_, rfl⟩
        rw [← g18] at A18 D18 st18
        have ne_ba_b18 : ba ≠ b18 := Nat.ne_of_lt (Nat.lt_of_lt_of_le V15_ba.lt (Nat.le_of_eq g18.symm))
        have g_b18 : n0 ≤ b18 := Nat.le_trans Zs16 (Nat.le_of_eq g18.symm)
        have sz_b18 := Nat.le_trans Kk15.1 (Nat.le_of_eq g18.symm)
        have S_java_lang_String_COMPACT_STRINGS_18 := S_java_lang_String_COMPACT_STRINGS_15.ext E18
        have V_ba_18 := V15_ba.ext E18
        have Zs19 := Nat.le_trans Zs16 E18.1
        have hk20 := Nat.le_trans hk17 E18.1
        have Kk18 := Kk15.ext E18
        have F_coder_b18 : Fld Z h18 b18 "java/lang/String" "coder" "B" (.int (0 : Int32)) := D18 (Or.inr (hw _ (List.mem_of_getElem? (i := 34) rfl))) (ty := .byte) (by decide)
        have F_value_b18 : Fld Z h18 b18 "java/lang/String" "value" "[B" .null := D18 (Or.inr (hw _ (List.mem_of_getElem? (i := 36) rfl))) (ty := (.array .byte)) (by decide)
        have pre6 : ∀ t, Steps p.tables e below (T18.setTop (mkF m 45 #[.val (.int p1), .val (.int p2), .val (.int p3), .val (.int p4), .val (.ref ba)] [(.ref ba), (.ref b18), (.ref b18)])) t → Steps p.tables e below (s₁.setTop (entryFrame m #[(.int p1), (.int p2), (.int p3), (.int p4)] 5)) t := by
          intro t k
          refine pre5 t ?_
          show Steps p.tables e below (T11.setTop (mkF m 27 #[.val (.int p1), .val (.int p2), .val (.int p3), .val (.int p4), .val (.ref ba)] [])) _
          refine XS.aload X11.here hx rfl (hb hby d1_27) rfl rfl ?_
          show Steps p.tables e below (T11.setTop (mkF m 29 #[.val (.int p1), .val (.int p2), .val (.int p3), .val (.int p4), .val (.ref ba)] [(.ref ba)])) _
          refine XS.iloadN X11.here hx rfl (hb hby d1_29) rfl ?_
          show Steps p.tables e below (T11.setTop (mkF m 30 #[.val (.int p1), .val (.int p2), .val (.int p3), .val (.int p4), .val (.ref ba)] [(.int p3), (.ref ba)])) _
          refine X11.ldcInt hx hown (mvT hZ (hw _ (List.mem_of_getElem? (i := 101) rfl))) (g := (mkF m 30 #[.val (.int p1), .val (.int p2), .val (.int p3), .val (.int p4), .val (.ref ba)] [(.int p3), (.ref ba)])) rfl (hb hby d1_30) _ ?_
          show Steps p.tables e below (T11.setTop (mkF m 32 #[.val (.int p1), .val (.int p2), .val (.int p3), .val (.int p4), .val (.ref ba)] [(.int (2147483647 : Int32)), (.int p3), (.ref ba)])) _
          refine XS.iand X11.here hx rfl (hb hby d1_32) rfl ?_
          show Steps p.tables e below (T11.setTop (mkF m 33 #[.val (.int p1), .val (.int p2), .val (.int p3), .val (.int p4), .val (.ref ba)] [(.int (p3 &&& (2147483647 : Int32))), (.ref ba)])) _
          refine XS.aload X11.here hx rfl (hb hby d1_33) rfl rfl ?_
          show Steps p.tables e below (T11.setTop (mkF m 35 #[.val (.int p1), .val (.int p2), .val (.int p3), .val (.int p4), .val (.ref ba)] [(.ref ba), (.int (p3 &&& (2147483647 : Int32))), (.ref ba)])) _
          refine X11.arraylength hx (by exact Ar14.1) (State.isArrayOf_alike hZ.alike Ar14.2.1) (g := (mkF m 35 #[.val (.int p1), .val (.int p2), .val (.int p3), .val (.int p4), .val (.ref ba)] [(.ref ba), (.int (p3 &&& (2147483647 : Int32))), (.ref ba)])) rfl rfl (hb hby d1_35) _ ?_
          rw [len_of S14 N14m]
          show Steps p.tables e below (T11.setTop (mkF m 36 #[.val (.int p1), .val (.int p2), .val (.int p3), .val (.int p4), .val (.ref ba)] [(.int (16 : Int32)), (.int (p3 &&& (2147483647 : Int32))), (.ref ba)])) _
          refine iremM X11 hx rfl (hb hby d1_36) rfl (by decide) ?_
          show Steps p.tables e below (T11.setTop (mkF m 37 #[.val (.int p1), .val (.int p2), .val (.int p3), .val (.int p4), .val (.ref ba)] [(.int ((p3 &&& (2147483647 : Int32)) % (16 : Int32))), (.ref ba)])) _
          refine XS.iloadN X11.here hx rfl (hb hby d1_37) rfl ?_
          show Steps p.tables e below (T11.setTop (mkF m 38 #[.val (.int p1), .val (.int p2), .val (.int p3), .val (.int p4), .val (.ref ba)] [(.int p4), (.int ((p3 &&& (2147483647 : Int32)) % (16 : Int32))), (.ref ba)])) _
          refine st15 _ ?_
          show Steps p.tables e below (T15.setTop (mkF m 39 #[.val (.int p1), .val (.int p2), .val (.int p3), .val (.int p4), .val (.ref ba)] [])) _
          refine st18 _ ?_
          show Steps p.tables e below (T18.setTop (mkF m 42 #[.val (.int p1), .val (.int p2), .val (.int p3), .val (.int p4), .val (.ref ba)] [(.ref b18)])) _
          refine XS.dup X18.here hx rfl (hb hby d1_42) rfl rfl ?_
          show Steps p.tables e below (T18.setTop (mkF m 43 #[.val (.int p1), .val (.int p2), .val (.int p3), .val (.int p4), .val (.ref ba)] [(.ref b18), (.ref b18)])) _
          refine XS.aload X18.here hx rfl (hb hby d1_43) rfl rfl ?_
          exact k
        obtain ⟨lq21, X21, N21⟩ : ∃ lq, Stand p l e ({ frames := 5, cells := 3, slots := 64, locals := 90 } : Room) (s.setVm s.vm) m #[(.int p1), (.int p2), (.int p3), (.int p4)] below meth c T18 lq 2 20 ∧ Fr n0 lq := ⟨_, X18, N15⟩
        have Vc : Arv Z h18 ba kc .char (16 : Int32) ((own_c0.set (((p3 &&& (2147483647 : Int32)) % (16 : Int32))).toNatClampNeg (nar .char p4)).map Value.int) (.int (0 : Int32)) := by
          rw [List.map_set]
          exact V_ba_18
        obtain ⟨_, _, ⟨T22, L22, k22, n22⟩, -, X22, ⟨Lc22, hQ22, l22, y22, z22⟩, st22⟩ := X21.specialBack hx (y := (⟨"java/lang/String", "<init>", "([C)V"⟩ : MethodName)) rfl hown (mvT hZ (hw _ (List.mem_of_getElem? (i := 11) rfl))) (mvT hZ (hw _ (List.mem_of_getElem? (i := 12) rfl))) (mvT hZ (hw _ (List.mem_of_getElem? (i := 13) rfl))) (by decide) (StrChars.Road.backV (W := 1) hZ hws (kI := 4) (hw _ (List.mem_of_getElem? (i := 5) rfl)) (cs := (own_c0.set (((p3 &&& (2147483647 : Int32)) % (16 : Int32))).toNatClampNeg (nar .char p4))) (bs := ((own_c0.set (((p3 &&& (2147483647 : Int32)) % (16 : Int32))).toNatClampNeg (nar .char p4))).map (fun c => c.toInt8.toInt32)) (n := 16) g_b18 Zs19 A18 F_value_b18 F_coder_b18 Vc S_java_lang_String_COMPACT_STRINGS_18 P5 (by rw [List.length_set]; rfl) rfl (by decide) (by decide) (own_cset own_hc0 hcb) rfl (by decide) (by decide)) (g := (mkF m 45 #[.val (.int p1), .val (.int p2), .val (.int p3), .val (.int p4), .val (.ref ba)] [(.ref ba), (.ref b18), (.ref b18)])) rfl (by rw [hml]; rfl) (Steps.refl _) (a := b18) (argsL := [(.ref ba)]) (rest := [(.ref b18)]) (lenOf pd_5 rfl) rfl (by show 2 * 0 + _ ≤ _; exact Nat.le_of_eq rfl) (hb hby d1_45) (fun _ _ => ⟨rfl, e18, (by decide : 2 + 1 ≤ _), (by decide : 20 + 16 ≤ _)⟩)
        dsimp only [Pt.U, Pt.locs, Pt.cells, Pt.slots] at X22 l22 y22 z22 st22 hQ22
        subst l22 y22 z22
        obtain ⟨rfl, N22q, K22q, E22q, Fc22q, ta22, kb22, u122, u222, u322, Fv22q, Vv22q⟩ := hQ22
        have N22 := Fr.app N21 N22q
        have E_b18_22 := A18.keep K22q
        have Zs23 := Nat.le_trans Zs19 K22q.1
        have hk24 := Nat.le_trans hk20 K22q.1
        have Kk22 := Kk18.trans K22q (allS (Or.inr sz_b18) all0)
        obtain ⟨fs, hr, hrun, hended, hEnd⟩ := Stand.leaveW (s := s) (vm₁ := s.vm) X22 hS0 (by exact hk24) (v := some (.ref b18)) (fun h => by rw [Bd.returns] at h; cases h)
        refine ⟨_, _, pre6 _ ?_, hrun, hended, _, _, rfl, ?_, ?_, hEnd.1, hEnd.2.1, hEnd.2.2.1, hEnd.2.2.2.mono (by decide) (by decide)⟩
        · show Steps p.tables e below (T18.setTop (mkF m 45 #[.val (.int p1), .val (.int p2), .val (.int p3), .val (.int p4), .val (.ref ba)] [(.ref ba), (.ref b18), (.ref b18)])) _
          refine st22.trans ?_
          show Steps p.tables e below (T22.setTop (mkF m 48 #[.val (.int p1), .val (.int p2), .val (.int p3), .val (.int p4), .val (.ref ba)] [(.ref b18)])) _
          exact retOut X22 hx Bd.returns rfl (Or.inr (Or.inr (Or.inr (Or.inr ⟨rfl, rfl, rfl⟩)))) (hb hby d1_48) hr
        · show Q1 Z p1 p2 p3 p4 G1 h0 n0 _ T22.heap _
          exact ⟨_, (own_c0.set (((p3 &&& (2147483647 : Int32)) % (16 : Int32))).toNatClampNeg (nar .char p4)), rfl, N22, Kk22, ta22, kb22, 16, E22q, Fv22q, Fc22q, Vv22q, (own_cset own_hc0 hcb), (by rw [List.length_set]; rfl), by decide⟩
        · show CHr Z consts_1 s.vm s.heap T22.vm T22.heap
          rw [hh]
          exact CHr.trans (CHr.keep Kk22 sf0 HC) (CHv.at (s := s) (vm0 := s.vm) X22 hZ hEL (CHv.keep Kk22 sf0 HC))
      · skip
        have pre7 : ∀ t, Steps p.tables e below (s₁.setTop (mkF m 49 #[.val (.int p1), .val (.int p2), .val (.int p3), .val (.int p4), .unset] [])) t → Steps p.tables e below (s₁.setTop (entryFrame m #[(.int p1), (.int p2), (.int p3), (.int p4)] 5)) t := by
          intro t k
          refine pre3 t ?_
          show Steps p.tables e below (s₁.setTop (mkF m 16 #[.val (.int p1), .val (.int p2), .val (.int p3), .val (.int p4), .unset] [])) _
          refine XS.iloadN X0.here hx rfl (hb hby d1_16) rfl ?_
          show Steps p.tables e below (s₁.setTop (mkF m 17 #[.val (.int p1), .val (.int p2), .val (.int p3), .val (.int p4), .unset] [(.int p2)])) _
          refine XS.iconst X0.here hx rfl (hb hby d1_17) ?_
          show Steps p.tables e below (s₁.setTop (mkF m 18 #[.val (.int p1), .val (.int p2), .val (.int p3), .val (.int p4), .unset] [(.int (1 : Int32)), (.int p2)])) _
          refine XS.icmpYes X0.here hx rfl (pc0 := 18) (pc' := 49) rfl (hb hby d1_18) rfl (feq k1).2 (by decide) (by decide) ?_
          exact k
        by_cases k2 : p2 = 2
        · skip
          have hp : ∀ c ∈ ([nar .char (67 : Int32), nar .char (104 : Int32), nar .char (97 : Int32), nar .char (108 : Int32), nar .char (108 : Int32), nar .char (101 : Int32), nar .char (110 : Int32), nar .char (103 : Int32), nar .char (101 : Int32), nar .char (79 : Int32), nar .char (77 : Int32), nar .char (65 : Int32), nar .char (84 : Int32), nar .char (79 : Int32), nar .char (84 : Int32)] : List Int32), ¬ c < 0 ∧ ¬ (255 : Int32) < c := (own_cc (by decide +kernel) (own_cc (by decide +kernel) (own_cc (by decide +kernel) (own_cc (by decide +kernel) (own_cc (by decide +kernel) (own_cc (by decide +kernel) (own_cc (by decide +kernel) (own_cc (by decide +kernel) (own_cc (by decide +kernel) (own_cc (by decide +kernel) (own_cc (by decide +kernel) (own_cc (by decide +kernel) (own_cc (by decide +kernel) (own_cc (by decide +kernel) (own_cc (by decide +kernel) own_cn)))))))))))))))
          have pre8 : ∀ t, Steps p.tables e below (s₁.setTop (mkF m 142 #[.val (.int p1), .val (.int p2), .val (.int p3), .val (.int p4), .unset] [])) t → Steps p.tables e below (s₁.setTop (entryFrame m #[(.int p1), (.int p2), (.int p3), (.int p4)] 5)) t := by
            intro t k
            refine pre7 t ?_
            show Steps p.tables e below (s₁.setTop (mkF m 49 #[.val (.int p1), .val (.int p2), .val (.int p3), .val (.int p4), .unset] [])) _
            refine XS.iloadN X0.here hx rfl (hb hby d1_49) rfl ?_
            show Steps p.tables e below (s₁.setTop (mkF m 50 #[.val (.int p1), .val (.int p2), .val (.int p3), .val (.int p4), .unset] [(.int p2)])) _
            refine XS.iconst X0.here hx rfl (hb hby d1_50) ?_
            show Steps p.tables e below (s₁.setTop (mkF m 51 #[.val (.int p1), .val (.int p2), .val (.int p3), .val (.int p4), .unset] [(.int (2 : Int32)), (.int p2)])) _
            refine XS.icmpNo X0.here hx rfl (hb hby d1_51) rfl (teq k2).2 ?_
            show Steps p.tables e below (s₁.setTop (mkF m 54 #[.val (.int p1), .val (.int p2), .val (.int p3), .val (.int p4), .unset] [])) _
            refine XS.iloadN X0.here hx rfl (hb hby d1_54) rfl ?_
            show Steps p.tables e below (s₁.setTop (mkF m 55 #[.val (.int p1), .val (.int p2), .val (.int p3), .val (.int p4), .unset] [(.int p1)])) _
            refine XS.ifYes X0.here hx rfl (pc0 := 55) (pc' := 142) rfl (hb hby d1_55) rfl ((if0 _ _).trans (teq ce).1) (by decide) (by decide) ?_
            exact k
          obtain ⟨T25, h25, X25, e25, E25, A25, D25, -, st25⟩ := newO X0 hx hZ hown (hw _ (List.mem_of_getElem? (i := 4) rfl)) (hw _ (List.mem_of_getElem? (i := 5) rfl)) (hw _ (List.mem_of_getElem? (i := 6) rfl)) e0 (g := (mkF m 142 #[.val (.int p1), .val (.int p2), .val (.int p3), .val (.int p4), .unset] [])) rfl (hb hby d1_142) (by decide) (by decide)
          obtain ⟨b25, g25⟩ : ∃ z, z = h0.size := ⟨_, rfl⟩
          rw [← g25] at A25 D25 st25
          have g_b25 : n0 ≤ b25 := Nat.le_trans Z0 (Nat.le_of_eq g25.symm)
          have sz_b25 := Nat.le_trans KK0.1 (Nat.le_of_eq g25.symm)
          have S_java_lang_String_COMPACT_STRINGS_25 := S1.ext E25
          have Zs26 := Nat.le_trans Z0 E25.1
          have hk27 := Nat.le_trans hk0 E25.1
          have Kk25 := KK0.ext E25
          have F_coder_b25 : Fld Z h25 b25 "java/lang/String" "coder" "B" (.int (0 : Int32)) := D25 (Or.inr (hw _ (List.mem_of_getElem? (i := 34) rfl))) (ty := .byte) (by decide)
          have F_value_b25 : Fld Z h25 b25 "java/lang/String" "value" "[B" .null := D25 (Or.inr (hw _ (List.mem_of_getElem? (i := 36) rfl))) (ty := (.array .byte)) (by decide)
          obtain ⟨T28, h28, k28, X28, e28, E28, A28, st28⟩ := newP X25 hx hZ (hw _ (List.mem_of_getElem? (i := 10) rfl)) e25 (g := (mkF m 148 #[.val (.int p1), .val (.int p2), .val (.int p3), .val (.int p4), .unset] [(.int (15 : Int32)), (.ref b25), (.ref b25)])) rfl (hb hby d1_148) rfl (by decide) (cap := 15) (by decide) (by decide) (by decide) (by decide)
          obtain ⟨b28, g28⟩ : ∃ z, z = h25.size := ⟨_, rfl⟩
          rw [← g28] at A28 st28
          have ne_b25_b28 : b25 ≠ b28 := Nat.ne_of_lt (Nat.lt_of_lt_of_le F_coder_b25.lt (Nat.le_of_eq g28.symm))
          have g_b28 : n0 ≤ b28 := Nat.le_trans Zs26 (Nat.le_of_eq g28.symm)
          have sz_b28 := Nat.le_trans Kk25.1 (Nat.le_of_eq g28.symm)
          have S_java_lang_String_COMPACT_STRINGS_28 := S_java_lang_String_COMPACT_STRINGS_25.ext E28
          have F_b25_coder_28 := F_coder_b25.ext E28
          have F_b25_value_28 := F_value_b25.ext E28
          have E_b25_28 := A25.ext E28
          have Zs29 := Nat.le_trans Zs26 E28.1
          have hk30 := Nat.le_trans hk27 E28.1
          have Kk28 := Kk25.ext E28
          have V_b28 : Arv Z h28 b28 k28 .char (15 : Int32) [(.int (0 : Int32)), (.int (0 : Int32)), (.int (0 : Int32)), (.int (0 : Int32)), (.int (0 : Int32)), (.int (0 : Int32)), (.int (0 : Int32)), (.int (0 : Int32)), (.int (0 : Int32)), (.int (0 : Int32)), (.int (0 : Int32)), (.int (0 : Int32)), (.int (0 : Int32)), (.int (0 : Int32)), (.int (0 : Int32))] (.int (0 : Int32)) := (Arv.new A28 (by decide)).pad (pad_rep [] (.int (0 : Int32)) 15)
          obtain ⟨cl31, Ar31, q31, S31, N31m, H31, G31⟩ := id V_b28
          have hin31 : ¬ ((0 : Int32) < 0 ∨ cl31.slots.size ≤ ((0 : Int32)).toNatClampNeg) := inb_of S31 ⟨by decide, by decide⟩
          obtain ⟨T31, h31, X31, e31, W31, st31⟩ := stC X28 hx hZ e28 Ar31 (j := (0 : Int32)) hin31 (g := (mkF m 154 #[.val (.int p1), .val (.int p2), .val (.int p3), .val (.int p4), .unset] [(.int (67 : Int32)), (.int (0 : Int32)), (.ref b28), (.ref b28), (.ref b25), (.ref b25)])) rfl rfl (hb hby d1_154)
          have V31_b28 : Arv Z h31 b28 k28 .char (15 : Int32) [(.int (nar .char (67 : Int32))), (.int (0 : Int32)), (.int (0 : Int32)), (.int (0 : Int32)), (.int (0 : Int32)), (.int (0 : Int32)), (.int (0 : Int32)), (.int (0 : Int32)), (.int (0 : Int32)), (.int (0 : Int32)), (.int (0 : Int32)), (.int (0 : Int32)), (.int (0 : Int32)), (.int (0 : Int32)), (.int (0 : Int32))] (.int (0 : Int32)) := Arv.set Ar31 q31 S31 N31m H31 G31 (fits_nar_char _) W31 0 rfl (Nat.le_of_ble_eq_true rfl)
          have S_java_lang_String_COMPACT_STRINGS_31 := S_java_lang_String_COMPACT_STRINGS_28.wr W31
          have F_b25_coder_31 := F_b25_coder_28.other W31 (Or.inl ne_b25_b28)
          have F_b25_value_31 := F_b25_value_28.other W31 (Or.inl ne_b25_b28)
          have E_b25_31 := E_b25_28.wr W31
          have Zs32 := Nat.le_trans Zs29 (Keep.of_wr W31).1
          have hk33 := Nat.le_trans hk30 (Keep.of_wr W31).1
          have Kk31 := Kk28.wr W31 (Or.inr sz_b28)
          have N31 := Fr.snoc X31 N0 g_b28
          obtain ⟨cl34, Ar34, q34, S34, N34m, H34, G34⟩ := id V31_b28
          have hin34 : ¬ ((1 : Int32) < 0 ∨ cl34.slots.size ≤ ((1 : Int32)).toNatClampNeg) := inb_of S34 ⟨by decide, by decide⟩
          obtain ⟨T34, h34, X34, e34, W34, st34⟩ := stC X31 hx hZ e31 Ar34 (j := (1 : Int32)) hin34 (g := (mkF m 159 #[.val (.int p1), .val (.int p2), .val (.int p3), .val (.int p4), .unset] [(.int (104 : Int32)), (.int (1 : Int32)), (.ref b28), (.ref b28), (.ref b25), (.ref b25)])) rfl rfl (hb hby d1_159)
          have V34_b28 : Arv Z h34 b28 k28 .char (15 : Int32) [(.int (nar .char (67 : Int32))), (.int (nar .char (104 : Int32))), (.int (0 : Int32)), (.int (0 : Int32)), (.int (0 : Int32)), (.int (0 : Int32)), (.int (0 : Int32)), (.int (0 : Int32)), (.int (0 : Int32)), (.int (0 : Int32)), (.int (0 : Int32)), (.int (0 : Int32)), (.int (0 : Int32)), (.int (0 : Int32)), (.int (0 : Int32))] (.int (0 : Int32)) := Arv.set Ar34 q34 S34 N34m H34 G34 (fits_nar_char _) W34 1 rfl (Nat.le_of_ble_eq_true rfl)
          have S_java_lang_String_COMPACT_STRINGS_34 := S_java_lang_String_COMPACT_STRINGS_31.wr W34
          have F_b25_coder_34 := F_b25_coder_31.other W34 (Or.inl ne_b25_b28)
          have F_b25_value_34 := F_b25_value_31.other W34 (Or.inl ne_b25_b28)
          have E_b25_34 := E_b25_31.wr W34
          have Zs35 := Nat.le_trans Zs32 (Keep.of_wr W34).1
          have hk36 := Nat.le_trans hk33 (Keep.of_wr W34).1
          have Kk34 := Kk31.wr W34 (Or.inr sz_b28)
          have N34 := Fr.snoc X34 N31 g_b28
          obtain ⟨cl37, Ar37, q37, S37, N37m, H37, G37⟩ := id V34_b28
          have hin37 : ¬ ((2 : Int32) < 0 ∨ cl37.slots.size ≤ ((2 : Int32)).toNatClampNeg) := inb_of S37 ⟨by decide, by decide⟩
          obtain ⟨T37, h37, X37, e37, W37, st37⟩ := stC X34 hx hZ e34 Ar37 (j := (2 : Int32)) hin37 (g := (mkF m 164 #[.val (.int p1), .val (.int p2), .val (.int p3), .val (.int p4), .unset] [(.int (97 : Int32)), (.int (2 : Int32)), (.ref b28), (.ref b28), (.ref b25), (.ref b25)])) rfl rfl (hb hby d1_164)
          have V37_b28 : Arv Z h37 b28 k28 .char (15 : Int32) [(.int (nar .char (67 : Int32))), (.int (nar .char (104 : Int32))), (.int (nar .char (97 : Int32))), (.int (0 : Int32)), (.int (0 : Int32)), (.int (0 : Int32)), (.int (0 : Int32)), (.int (0 : Int32)), (.int (0 : Int32)), (.int (0 : Int32)), (.int (0 : Int32)), (.int (0 : Int32)), (.int (0 : Int32)), (.int (0 : Int32)), (.int (0 : Int32))] (.int (0 : Int32)) := Arv.set Ar37 q37 S37 N37m H37 G37 (fits_nar_char _) W37 2 rfl (Nat.le_of_ble_eq_true rfl)
          have S_java_lang_String_COMPACT_STRINGS_37 := S_java_lang_String_COMPACT_STRINGS_34.wr W37
          have F_b25_coder_37 := F_b25_coder_34.other W37 (Or.inl ne_b25_b28)
          have F_b25_value_37 := F_b25_value_34.other W37 (Or.inl ne_b25_b28)
          have E_b25_37 := E_b25_34.wr W37
          have Zs38 := Nat.le_trans Zs35 (Keep.of_wr W37).1
          have hk39 := Nat.le_trans hk36 (Keep.of_wr W37).1
          have Kk37 := Kk34.wr W37 (Or.inr sz_b28)
          have N37 := Fr.snoc X37 N34 g_b28
          obtain ⟨cl40, Ar40, q40, S40, N40m, H40, G40⟩ := id V37_b28
          have hin40 : ¬ ((3 : Int32) < 0 ∨ cl40.slots.size ≤ ((3 : Int32)).toNatClampNeg) := inb_of S40 ⟨by decide, by decide⟩
          obtain ⟨T40, h40, X40, e40, W40, st40⟩ := stC X37 hx hZ e37 Ar40 (j := (3 : Int32)) hin40 (g := (mkF m 169 #[.val (.int p1), .val (.int p2), .val (.int p3), .val (.int p4), .unset] [(.int (108 : Int32)), (.int (3 : Int32)), (.ref b28), (.ref b28), (.ref b25), (.ref b25)])) rfl rfl (hb hby d1_169)
          have V40_b28 : Arv Z h40 b28 k28 .char (15 : Int32) [(.int (nar .char (67 : Int32))), (.int (nar .char (104 : Int32))), (.int (nar .char (97 : Int32))), (.int (nar .char (108 : Int32))), (.int (0 : Int32)), (.int (0 : Int32)), (.int (0 : Int32)), (.int (0 : Int32)), (.int (0 : Int32)), (.int (0 : Int32)), (.int (0 : Int32)), (.int (0 : Int32)), (.int (0 : Int32)), (.int (0 : Int32)), (.int (0 : Int32))] (.int (0 : Int32)) := Arv.set Ar40 q40 S40 N40m H40 G40 (fits_nar_char _) W40 3 rfl (Nat.le_of_ble_eq_true rfl)
          have S_java_lang_String_COMPACT_STRINGS_40 := S_java_lang_String_COMPACT_STRINGS_37.wr W40
          have F_b25_coder_40 := F_b25_coder_37.other W40 (Or.inl ne_b25_b28)
          have F_b25_value_40 := F_b25_value_37.other W40 (Or.inl ne_b25_b28)
          have E_b25_40 := E_b25_37.wr W40
          have Zs41 := Nat.le_trans Zs38 (Keep.of_wr W40).1
          have hk42 := Nat.le_trans hk39 (Keep.of_wr W40).1
          have Kk40 := Kk37.wr W40 (Or.inr sz_b28)
          have N40 := Fr.snoc X40 N37 g_b28
          obtain ⟨cl43, Ar43, q43, S43, N43m, H43, G43⟩ := id V40_b28
          have hin43 : ¬ ((4 : Int32) < 0 ∨ cl43.slots.size ≤ ((4 : Int32)).toNatClampNeg) := inb_of S43 ⟨by decide, by decide⟩
          obtain ⟨T43, h43, X43, e43, W43, st43⟩ := stC X40 hx hZ e40 Ar43 (j := (4 : Int32)) hin43 (g := (mkF m 174 #[.val (.int p1), .val (.int p2), .val (.int p3), .val (.int p4), .unset] [(.int (108 : Int32)), (.int (4 : Int32)), (.ref b28), (.ref b28), (.ref b25), (.ref b25)])) rfl rfl (hb hby d1_174)
          have V43_b28 : Arv Z h43 b28 k28 .char (15 : Int32) [(.int (nar .char (67 : Int32))), (.int (nar .char (104 : Int32))), (.int (nar .char (97 : Int32))), (.int (nar .char (108 : Int32))), (.int (nar .char (108 : Int32))), (.int (0 : Int32)), (.int (0 : Int32)), (.int (0 : Int32)), (.int (0 : Int32)), (.int (0 : Int32)), (.int (0 : Int32)), (.int (0 : Int32)), (.int (0 : Int32)), (.int (0 : Int32)), (.int (0 : Int32))] (.int (0 : Int32)) := Arv.set Ar43 q43 S43 N43m H43 G43 (fits_nar_char _) W43 4 rfl (Nat.le_of_ble_eq_true rfl)
          have S_java_lang_String_COMPACT_STRINGS_43 := S_java_lang_String_COMPACT_STRINGS_40.wr W43
          have F_b25_coder_43 := F_b25_coder_40.other W43 (Or.inl ne_b25_b28)
          have F_b25_value_43 := F_b25_value_40.other W43 (Or.inl ne_b25_b28)
          have E_b25_43 := E_b25_40.wr W43
          have Zs44 := Nat.le_trans Zs41 (Keep.of_wr W43).1
          have hk45 := Nat.le_trans hk42 (Keep.of_wr W43).1
          have Kk43 := Kk40.wr W43 (Or.inr sz_b28)
          have N43 := Fr.snoc X43 N40 g_b28
          obtain ⟨cl46, Ar46, q46, S46, N46m, H46, G46⟩ := id V43_b28
          have hin46 : ¬ ((5 : Int32) < 0 ∨ cl46.slots.size ≤ ((5 : Int32)).toNatClampNeg) := inb_of S46 ⟨by decide, by decide⟩
          obtain ⟨T46, h46, X46, e46, W46, st46⟩ := stC X43 hx hZ e43 Ar46 (j := (5 : Int32)) hin46 (g := (mkF m 179 #[.val (.int p1), .val (.int p2), .val (.int p3), .val (.int p4), .unset] [(.int (101 : Int32)), (.int (5 : Int32)), (.ref b28), (.ref b28), (.ref b25), (.ref b25)])) rfl rfl (hb hby d1_179)
          have V46_b28 : Arv Z h46 b28 k28 .char (15 : Int32) [(.int (nar .char (67 : Int32))), (.int (nar .char (104 : Int32))), (.int (nar .char (97 : Int32))), (.int (nar .char (108 : Int32))), (.int (nar .char (108 : Int32))), (.int (nar .char (101 : Int32))), (.int (0 : Int32)), (.int (0 : Int32)), (.int (0 : Int32)), (.int (0 : Int32)), (.int (0 : Int32)), (.int (0 : Int32)), (.int (0 : Int32)), (.int (0 : Int32)), (.int (0 : Int32))] (.int (0 : Int32)) := Arv.set Ar46 q46 S46 N46m H46 G46 (fits_nar_char _) W46 5 rfl (Nat.le_of_ble_eq_true rfl)
          have S_java_lang_String_COMPACT_STRINGS_46 := S_java_lang_String_COMPACT_STRINGS_43.wr W46
          have F_b25_coder_46 := F_b25_coder_43.other W46 (Or.inl ne_b25_b28)
          have F_b25_value_46 := F_b25_value_43.other W46 (Or.inl ne_b25_b28)
          have E_b25_46 := E_b25_43.wr W46
          have Zs47 := Nat.le_trans Zs44 (Keep.of_wr W46).1
          have hk48 := Nat.le_trans hk45 (Keep.of_wr W46).1
          have Kk46 := Kk43.wr W46 (Or.inr sz_b28)
          have N46 := Fr.snoc X46 N43 g_b28
          obtain ⟨cl49, Ar49, q49, S49, N49m, H49, G49⟩ := id V46_b28
          have hin49 : ¬ ((6 : Int32) < 0 ∨ cl49.slots.size ≤ ((6 : Int32)).toNatClampNeg) := inb_of S49 ⟨by decide, by decide⟩
          obtain ⟨T49, h49, X49, e49, W49, st49⟩ := stC X46 hx hZ e46 Ar49 (j := (6 : Int32)) hin49 (g := (mkF m 185 #[.val (.int p1), .val (.int p2), .val (.int p3), .val (.int p4), .unset] [(.int (110 : Int32)), (.int (6 : Int32)), (.ref b28), (.ref b28), (.ref b25), (.ref b25)])) rfl rfl (hb hby d1_185)
          have V49_b28 : Arv Z h49 b28 k28 .char (15 : Int32) [(.int (nar .char (67 : Int32))), (.int (nar .char (104 : Int32))), (.int (nar .char (97 : Int32))), (.int (nar .char (108 : Int32))), (.int (nar .char (108 : Int32))), (.int (nar .char (101 : Int32))), (.int (nar .char (110 : Int32))), (.int (0 : Int32)), (.int (0 : Int32)), (.int (0 : Int32)), (.int (0 : Int32)), (.int (0 : Int32)), (.int (0 : Int32)), (.int (0 : Int32)), (.int (0 : Int32))] (.int (0 : Int32)) := Arv.set Ar49 q49 S49 N49m H49 G49 (fits_nar_char _) W49 6 rfl (Nat.le_of_ble_eq_true rfl)
          have S_java_lang_String_COMPACT_STRINGS_49 := S_java_lang_String_COMPACT_STRINGS_46.wr W49
          have F_b25_coder_49 := F_b25_coder_46.other W49 (Or.inl ne_b25_b28)
          have F_b25_value_49 := F_b25_value_46.other W49 (Or.inl ne_b25_b28)
          have E_b25_49 := E_b25_46.wr W49
          have Zs50 := Nat.le_trans Zs47 (Keep.of_wr W49).1
          have hk51 := Nat.le_trans hk48 (Keep.of_wr W49).1
          have Kk49 := Kk46.wr W49 (Or.inr sz_b28)
          have N49 := Fr.snoc X49 N46 g_b28
          obtain ⟨cl52, Ar52, q52, S52, N52m, H52, G52⟩ := id V49_b28
          have hin52 : ¬ ((7 : Int32) < 0 ∨ cl52.slots.size ≤ ((7 : Int32)).toNatClampNeg) := inb_of S52 ⟨by decide, by decide⟩
          obtain ⟨T52, h52, X52, e52, W52, st52⟩ := stC X49 hx hZ e49 Ar52 (j := (7 : Int32)) hin52 (g := (mkF m 191 #[.val (.int p1), .val (.int p2), .val (.int p3), .val (.int p4), .unset] [(.int (103 : Int32)), (.int (7 : Int32)), (.ref b28), (.ref b28), (.ref b25), (.ref b25)])) rfl rfl (hb hby d1_191)
          have V52_b28 : Arv Z h52 b28 k28 .char (15 : Int32) [(.int (nar .char (67 : Int32))), (.int (nar .char (104 : Int32))), (.int (nar .char (97 : Int32))), (.int (nar .char (108 : Int32))), (.int (nar .char (108 : Int32))), (.int (nar .char (101 : Int32))), (.int (nar .char (110 : Int32))), (.int (nar .char (103 : Int32))), (.int (0 : Int32)), (.int (0 : Int32)), (.int (0 : Int32)), (.int (0 : Int32)), (.int (0 : Int32)), (.int (0 : Int32)), (.int (0 : Int32))] (.int (0 : Int32)) := Arv.set Ar52 q52 S52 N52m H52 G52 (fits_nar_char _) W52 7 rfl (Nat.le_of_ble_eq_true rfl)
          have S_java_lang_String_COMPACT_STRINGS_52 := S_java_lang_String_COMPACT_STRINGS_49.wr W52
          have F_b25_coder_52 := F_b25_coder_49.other W52 (Or.inl ne_b25_b28)
          have F_b25_value_52 := F_b25_value_49.other W52 (Or.inl ne_b25_b28)
          have E_b25_52 := E_b25_49.wr W52
          have Zs53 := Nat.le_trans Zs50 (Keep.of_wr W52).1
          have hk54 := Nat.le_trans hk51 (Keep.of_wr W52).1
          have Kk52 := Kk49.wr W52 (Or.inr sz_b28)
          have N52 := Fr.snoc X52 N49 g_b28
          obtain ⟨cl55, Ar55, q55, S55, N55m, H55, G55⟩ := id V52_b28
          have hin55 : ¬ ((8 : Int32) < 0 ∨ cl55.slots.size ≤ ((8 : Int32)).toNatClampNeg) := inb_of S55 ⟨by decide, by decide⟩
          obtain ⟨T55, h55, X55, e55, W55, st55⟩ := stC X52 hx hZ e52 Ar55 (j := (8 : Int32)) hin55 (g := (mkF m 197 #[.val (.int p1), .val (.int p2), .val (.int p3), .val (.int p4), .unset] [(.int (101 : Int32)), (.int (8 : Int32)), (.ref b28), (.ref b28), (.ref b25), (.ref b25)])) rfl rfl (hb hby d1_197)
          have V55_b28 : Arv Z h55 b28 k28 .char (15 : Int32) [(.int (nar .char (67 : Int32))), (.int (nar .char (104 : Int32))), (.int (nar .char (97 : Int32))), (.int (nar .char (108 : Int32))), (.int (nar .char (108 : Int32))), (.int (nar .char (101 : Int32))), (.int (nar .char (110 : Int32))), (.int (nar .char (103 : Int32))), (.int (nar .char (101 : Int32))), (.int (0 : Int32)), (.int (0 : Int32)), (.int (0 : Int32)), (.int (0 : Int32)), (.int (0 : Int32)), (.int (0 : Int32))] (.int (0 : Int32)) := Arv.set Ar55 q55 S55 N55m H55 G55 (fits_nar_char _) W55 8 rfl (Nat.le_of_ble_eq_true rfl)
          have S_java_lang_String_COMPACT_STRINGS_55 := S_java_lang_String_COMPACT_STRINGS_52.wr W55
          have F_b25_coder_55 := F_b25_coder_52.other W55 (Or.inl ne_b25_b28)
          have F_b25_value_55 := F_b25_value_52.other W55 (Or.inl ne_b25_b28)
          have E_b25_55 := E_b25_52.wr W55
          have Zs56 := Nat.le_trans Zs53 (Keep.of_wr W55).1
          have hk57 := Nat.le_trans hk54 (Keep.of_wr W55).1
          have Kk55 := Kk52.wr W55 (Or.inr sz_b28)
          have N55 := Fr.snoc X55 N52 g_b28
          obtain ⟨cl58, Ar58, q58, S58, N58m, H58, G58⟩ := id V55_b28
          have hin58 : ¬ ((9 : Int32) < 0 ∨ cl58.slots.size ≤ ((9 : Int32)).toNatClampNeg) := inb_of S58 ⟨by decide, by decide⟩
          obtain ⟨T58, h58, X58, e58, W58, st58⟩ := stC X55 hx hZ e55 Ar58 (j := (9 : Int32)) hin58 (g := (mkF m 203 #[.val (.int p1), .val (.int p2), .val (.int p3), .val (.int p4), .unset] [(.int (79 : Int32)), (.int (9 : Int32)), (.ref b28), (.ref b28), (.ref b25), (.ref b25)])) rfl rfl (hb hby d1_203)
          have V58_b28 : Arv Z h58 b28 k28 .char (15 : Int32) [(.int (nar .char (67 : Int32))), (.int (nar .char (104 : Int32))), (.int (nar .char (97 : Int32))), (.int (nar .char (108 : Int32))), (.int (nar .char (108 : Int32))), (.int (nar .char (101 : Int32))), (.int (nar .char (110 : Int32))), (.int (nar .char (103 : Int32))), (.int (nar .char (101 : Int32))), (.int (nar .char (79 : Int32))), (.int (0 : Int32)), (.int (0 : Int32)), (.int (0 : Int32)), (.int (0 : Int32)), (.int (0 : Int32))] (.int (0 : Int32)) := Arv.set Ar58 q58 S58 N58m H58 G58 (fits_nar_char _) W58 9 rfl (Nat.le_of_ble_eq_true rfl)
          have S_java_lang_String_COMPACT_STRINGS_58 := S_java_lang_String_COMPACT_STRINGS_55.wr W58
          have F_b25_coder_58 := F_b25_coder_55.other W58 (Or.inl ne_b25_b28)
          have F_b25_value_58 := F_b25_value_55.other W58 (Or.inl ne_b25_b28)
          have E_b25_58 := E_b25_55.wr W58
          have Zs59 := Nat.le_trans Zs56 (Keep.of_wr W58).1
          have hk60 := Nat.le_trans hk57 (Keep.of_wr W58).1
          have Kk58 := Kk55.wr W58 (Or.inr sz_b28)
          have N58 := Fr.snoc X58 N55 g_b28
          obtain ⟨cl61, Ar61, q61, S61, N61m, H61, G61⟩ := id V58_b28
          have hin61 : ¬ ((10 : Int32) < 0 ∨ cl61.slots.size ≤ ((10 : Int32)).toNatClampNeg) := inb_of S61 ⟨by decide, by decide⟩
          obtain ⟨T61, h61, X61, e61, W61, st61⟩ := stC X58 hx hZ e58 Ar61 (j := (10 : Int32)) hin61 (g := (mkF m 209 #[.val (.int p1), .val (.int p2), .val (.int p3), .val (.int p4), .unset] [(.int (77 : Int32)), (.int (10 : Int32)), (.ref b28), (.ref b28), (.ref b25), (.ref b25)])) rfl rfl (hb hby d1_209)
          have V61_b28 : Arv Z h61 b28 k28 .char (15 : Int32) [(.int (nar .char (67 : Int32))), (.int (nar .char (104 : Int32))), (.int (nar .char (97 : Int32))), (.int (nar .char (108 : Int32))), (.int (nar .char (108 : Int32))), (.int (nar .char (101 : Int32))), (.int (nar .char (110 : Int32))), (.int (nar .char (103 : Int32))), (.int (nar .char (101 : Int32))), (.int (nar .char (79 : Int32))), (.int (nar .char (77 : Int32))), (.int (0 : Int32)), (.int (0 : Int32)), (.int (0 : Int32)), (.int (0 : Int32))] (.int (0 : Int32)) := Arv.set Ar61 q61 S61 N61m H61 G61 (fits_nar_char _) W61 10 rfl (Nat.le_of_ble_eq_true rfl)
          have S_java_lang_String_COMPACT_STRINGS_61 := S_java_lang_String_COMPACT_STRINGS_58.wr W61
          have F_b25_coder_61 := F_b25_coder_58.other W61 (Or.inl ne_b25_b28)
          have F_b25_value_61 := F_b25_value_58.other W61 (Or.inl ne_b25_b28)
          have E_b25_61 := E_b25_58.wr W61
          have Zs62 := Nat.le_trans Zs59 (Keep.of_wr W61).1
          have hk63 := Nat.le_trans hk60 (Keep.of_wr W61).1
          have Kk61 := Kk58.wr W61 (Or.inr sz_b28)
          have N61 := Fr.snoc X61 N58 g_b28
          obtain ⟨cl64, Ar64, q64, S64, N64m, H64, G64⟩ := id V61_b28
          have hin64 : ¬ ((11 : Int32) < 0 ∨ cl64.slots.size ≤ ((11 : Int32)).toNatClampNeg) := inb_of S64 ⟨by decide, by decide⟩
          obtain ⟨T64, h64, X64, e64, W64, st64⟩ := stC X61 hx hZ e61 Ar64 (j := (11 : Int32)) hin64 (g := (mkF m 215 #[.val (.int p1), .val (.int p2), .val (.int p3), .val (.int p4), .unset] [(.int (65 : Int32)), (.int (11 : Int32)), (.ref b28), (.ref b28), (.ref b25), (.ref b25)])) rfl rfl (hb hby d1_215)
          have V64_b28 : Arv Z h64 b28 k28 .char (15 : Int32) [(.int (nar .char (67 : Int32))), (.int (nar .char (104 : Int32))), (.int (nar .char (97 : Int32))), (.int (nar .char (108 : Int32))), (.int (nar .char (108 : Int32))), (.int (nar .char (101 : Int32))), (.int (nar .char (110 : Int32))), (.int (nar .char (103 : Int32))), (.int (nar .char (101 : Int32))), (.int (nar .char (79 : Int32))), (.int (nar .char (77 : Int32))), (.int (nar .char (65 : Int32))), (.int (0 : Int32)), (.int (0 : Int32)), (.int (0 : Int32))] (.int (0 : Int32)) := Arv.set Ar64 q64 S64 N64m H64 G64 (fits_nar_char _) W64 11 rfl (Nat.le_of_ble_eq_true rfl)
          have S_java_lang_String_COMPACT_STRINGS_64 := S_java_lang_String_COMPACT_STRINGS_61.wr W64
          have F_b25_coder_64 := F_b25_coder_61.other W64 (Or.inl ne_b25_b28)
          have F_b25_value_64 := F_b25_value_61.other W64 (Or.inl ne_b25_b28)
          have E_b25_64 := E_b25_61.wr W64
          have Zs65 := Nat.le_trans Zs62 (Keep.of_wr W64).1
          have hk66 := Nat.le_trans hk63 (Keep.of_wr W64).1
          have Kk64 := Kk61.wr W64 (Or.inr sz_b28)
          have N64 := Fr.snoc X64 N61 g_b28
          obtain ⟨cl67, Ar67, q67, S67, N67m, H67, G67⟩ := id V64_b28
          have hin67 : ¬ ((12 : Int32) < 0 ∨ cl67.slots.size ≤ ((12 : Int32)).toNatClampNeg) := inb_of S67 ⟨by decide, by decide⟩
          obtain ⟨T67, h67, X67, e67, W67, st67⟩ := stC X64 hx hZ e64 Ar67 (j := (12 : Int32)) hin67 (g := (mkF m 221 #[.val (.int p1), .val (.int p2), .val (.int p3), .val (.int p4), .unset] [(.int (84 : Int32)), (.int (12 : Int32)), (.ref b28), (.ref b28), (.ref b25), (.ref b25)])) rfl rfl (hb hby d1_221)
          have V67_b28 : Arv Z h67 b28 k28 .char (15 : Int32) [(.int (nar .char (67 : Int32))), (.int (nar .char (104 : Int32))), (.int (nar .char (97 : Int32))), (.int (nar .char (108 : Int32))), (.int (nar .char (108 : Int32))), (.int (nar .char (101 : Int32))), (.int (nar .char (110 : Int32))), (.int (nar .char (103 : Int32))), (.int (nar .char (101 : Int32))), (.int (nar .char (79 : Int32))), (.int (nar .char (77 : Int32))), (.int (nar .char (65 : Int32))), (.int (nar .char (84 : Int32))), (.int (0 : Int32)), (.int (0 : Int32))] (.int (0 : Int32)) := Arv.set Ar67 q67 S67 N67m H67 G67 (fits_nar_char _) W67 12 rfl (Nat.le_of_ble_eq_true rfl)
          have S_java_lang_String_COMPACT_STRINGS_67 := S_java_lang_String_COMPACT_STRINGS_64.wr W67
          have F_b25_coder_67 := F_b25_coder_64.other W67 (Or.inl ne_b25_b28)
          have F_b25_value_67 := F_b25_value_64.other W67 (Or.inl ne_b25_b28)
          have E_b25_67 := E_b25_64.wr W67
          have Zs68 := Nat.le_trans Zs65 (Keep.of_wr W67).1
          have hk69 := Nat.le_trans hk66 (Keep.of_wr W67).1
          have Kk67 := Kk64.wr W67 (Or.inr sz_b28)
          have N67 := Fr.snoc X67 N64 g_b28
          obtain ⟨cl70, Ar70, q70, S70, N70m, H70, G70⟩ := id V67_b28
          have hin70 : ¬ ((13 : Int32) < 0 ∨ cl70.slots.size ≤ ((13 : Int32)).toNatClampNeg) := inb_of S70 ⟨by decide, by decide⟩
          obtain ⟨T70, h70, X70, e70, W70, st70⟩ := stC X67 hx hZ e67 Ar70 (j := (13 : Int32)) hin70 (g := (mkF m 227 #[.val (.int p1), .val (.int p2), .val (.int p3), .val (.int p4), .unset] [(.int (79 : Int32)), (.int (13 : Int32)), (.ref b28), (.ref b28), (.ref b25), (.ref b25)])) rfl rfl (hb hby d1_227)
          have V70_b28 : Arv Z h70 b28 k28 .char (15 : Int32) [(.int (nar .char (67 : Int32))), (.int (nar .char (104 : Int32))), (.int (nar .char (97 : Int32))), (.int (nar .char (108 : Int32))), (.int (nar .char (108 : Int32))), (.int (nar .char (101 : Int32))), (.int (nar .char (110 : Int32))), (.int (nar .char (103 : Int32))), (.int (nar .char (101 : Int32))), (.int (nar .char (79 : Int32))), (.int (nar .char (77 : Int32))), (.int (nar .char (65 : Int32))), (.int (nar .char (84 : Int32))), (.int (nar .char (79 : Int32))), (.int (0 : Int32))] (.int (0 : Int32)) := Arv.set Ar70 q70 S70 N70m H70 G70 (fits_nar_char _) W70 13 rfl (Nat.le_of_ble_eq_true rfl)
          have S_java_lang_String_COMPACT_STRINGS_70 := S_java_lang_String_COMPACT_STRINGS_67.wr W70
          have F_b25_coder_70 := F_b25_coder_67.other W70 (Or.inl ne_b25_b28)
          have F_b25_value_70 := F_b25_value_67.other W70 (Or.inl ne_b25_b28)
          have E_b25_70 := E_b25_67.wr W70
          have Zs71 := Nat.le_trans Zs68 (Keep.of_wr W70).1
          have hk72 := Nat.le_trans hk69 (Keep.of_wr W70).1
          have Kk70 := Kk67.wr W70 (Or.inr sz_b28)
          have N70 := Fr.snoc X70 N67 g_b28
          obtain ⟨cl73, Ar73, q73, S73, N73m, H73, G73⟩ := id V70_b28
          have hin73 : ¬ ((14 : Int32) < 0 ∨ cl73.slots.size ≤ ((14 : Int32)).toNatClampNeg) := inb_of S73 ⟨by decide, by decide⟩
          obtain ⟨T73, h73, X73, e73, W73, st73⟩ := stC X70 hx hZ e70 Ar73 (j := (14 : Int32)) hin73 (g := (mkF m 233 #[.val (.int p1), .val (.int p2), .val (.int p3), .val (.int p4), .unset] [(.int (84 : Int32)), (.int (14 : Int32)), (.ref b28), (.ref b28), (.ref b25), (.ref b25)])) rfl rfl (hb hby d1_233)
          have V73_b28 : Arv Z h73 b28 k28 .char (15 : Int32) [(.int (nar .char (67 : Int32))), (.int (nar .char (104 : Int32))), (.int (nar .char (97 : Int32))), (.int (nar .char (108 : Int32))), (.int (nar .char (108 : Int32))), (.int (nar .char (101 : Int32))), (.int (nar .char (110 : Int32))), (.int (nar .char (103 : Int32))), (.int (nar .char (101 : Int32))), (.int (nar .char (79 : Int32))), (.int (nar .char (77 : Int32))), (.int (nar .char (65 : Int32))), (.int (nar .char (84 : Int32))), (.int (nar .char (79 : Int32))), (.int (nar .char (84 : Int32)))] (.int (0 : Int32)) := Arv.set Ar73 q73 S73 N73m H73 G73 (fits_nar_char _) W73 14 rfl (Nat.le_of_ble_eq_true rfl)
          have S_java_lang_String_COMPACT_STRINGS_73 := S_java_lang_String_COMPACT_STRINGS_70.wr W73
          have F_b25_coder_73 := F_b25_coder_70.other W73 (Or.inl ne_b25_b28)
          have F_b25_value_73 := F_b25_value_70.other W73 (Or.inl ne_b25_b28)
          have E_b25_73 := E_b25_70.wr W73
          have Zs74 := Nat.le_trans Zs71 (Keep.of_wr W73).1
          have hk75 := Nat.le_trans hk72 (Keep.of_wr W73).1
          have Kk73 := Kk70.wr W73 (Or.inr sz_b28)
          have N73 := Fr.snoc X73 N70 g_b28
          have pre9 : ∀ t, Steps p.tables e below (T73.setTop (mkF m 234 #[.val (.int p1), .val (.int p2), .val (.int p3), .val (.int p4), .unset] [(.ref b28), (.ref b25), (.ref b25)])) t → Steps p.tables e below (s₁.setTop (entryFrame m #[(.int p1), (.int p2), (.int p3), (.int p4)] 5)) t := by
            intro t k
            refine pre8 t ?_
            show Steps p.tables e below (s₁.setTop (mkF m 142 #[.val (.int p1), .val (.int p2), .val (.int p3), .val (.int p4), .unset] [])) _
            refine st25 _ ?_
            show Steps p.tables e below (T25.setTop (mkF m 145 #[.val (.int p1), .val (.int p2), .val (.int p3), .val (.int p4), .unset] [(.ref b25)])) _
            refine XS.dup X25.here hx rfl (hb hby d1_145) rfl rfl ?_
            show Steps p.tables e below (T25.setTop (mkF m 146 #[.val (.int p1), .val (.int p2), .val (.int p3), .val (.int p4), .unset] [(.ref b25), (.ref b25)])) _
            refine XS.bipush X25.here hx rfl (hb hby d1_146) ?_
            show Steps p.tables e below (T25.setTop (mkF m 148 #[.val (.int p1), .val (.int p2), .val (.int p3), .val (.int p4), .unset] [(.int (15 : Int32)), (.ref b25), (.ref b25)])) _
            refine st28 _ ?_
            show Steps p.tables e below (T28.setTop (mkF m 150 #[.val (.int p1), .val (.int p2), .val (.int p3), .val (.int p4), .unset] [(.ref b28), (.ref b25), (.ref b25)])) _
            refine XS.dup X28.here hx rfl (hb hby d1_150) rfl rfl ?_
            show Steps p.tables e below (T28.setTop (mkF m 151 #[.val (.int p1), .val (.int p2), .val (.int p3), .val (.int p4), .unset] [(.ref b28), (.ref b28), (.ref b25), (.ref b25)])) _
            refine XS.iconst X28.here hx rfl (hb hby d1_151) ?_
            show Steps p.tables e below (T28.setTop (mkF m 152 #[.val (.int p1), .val (.int p2), .val (.int p3), .val (.int p4), .unset] [(.int (0 : Int32)), (.ref b28), (.ref b28), (.ref b25), (.ref b25)])) _
            refine XS.bipush X28.here hx rfl (hb hby d1_152) ?_
            show Steps p.tables e below (T28.setTop (mkF m 154 #[.val (.int p1), .val (.int p2), .val (.int p3), .val (.int p4), .unset] [(.int (67 : Int32)), (.int (0 : Int32)), (.ref b28), (.ref b28), (.ref b25), (.ref b25)])) _
            refine st31 _ ?_
            show Steps p.tables e below (T31.setTop (mkF m 155 #[.val (.int p1), .val (.int p2), .val (.int p3), .val (.int p4), .unset] [(.ref b28), (.ref b25), (.ref b25)])) _
            refine XS.dup X31.here hx rfl (hb hby d1_155) rfl rfl ?_
            show Steps p.tables e below (T31.setTop (mkF m 156 #[.val (.int p1), .val (.int p2), .val (.int p3), .val (.int p4), .unset] [(.ref b28), (.ref b28), (.ref b25), (.ref b25)])) _
            refine XS.iconst X31.here hx rfl (hb hby d1_156) ?_
            show Steps p.tables e below (T31.setTop (mkF m 157 #[.val (.int p1), .val (.int p2), .val (.int p3), .val (.int p4), .unset] [(.int (1 : Int32)), (.ref b28), (.ref b28), (.ref b25), (.ref b25)])) _
            refine XS.bipush X31.here hx rfl (hb hby d1_157) ?_
            show Steps p.tables e below (T31.setTop (mkF m 159 #[.val (.int p1), .val (.int p2), .val (.int p3), .val (.int p4), .unset] [(.int (104 : Int32)), (.int (1 : Int32)), (.ref b28), (.ref b28), (.ref b25), (.ref b25)])) _
            refine st34 _ ?_
            show Steps p.tables e below (T34.setTop (mkF m 160 #[.val (.int p1), .val (.int p2), .val (.int p3), .val (.int p4), .unset] [(.ref b28), (.ref b25), (.ref b25)])) _
            refine XS.dup X34.here hx rfl (hb hby d1_160) rfl rfl ?_
            show Steps p.tables e below (T34.setTop (mkF m 161 #[.val (.int p1), .val (.int p2), .val (.int p3), .val (.int p4), .unset] [(.ref b28), (.ref b28), (.ref b25), (.ref b25)])) _
            refine XS.iconst X34.here hx rfl (hb hby d1_161) ?_
            show Steps p.tables e below (T34.setTop (mkF m 162 #[.val (.int p1), .val (.int p2), .val (.int p3), .val (.int p4), .unset] [(.int (2 : Int32)), (.ref b28), (.ref b28), (.ref b25), (.ref b25)])) _
            refine XS.bipush X34.here hx rfl (hb hby d1_162) ?_
            show Steps p.tables e below (T34.setTop (mkF m 164 #[.val (.int p1), .val (.int p2), .val (.int p3), .val (.int p4), .unset] [(.int (97 : Int32)), (.int (2 : Int32)), (.ref b28), (.ref b28), (.ref b25), (.ref b25)])) _
            refine st37 _ ?_
            show Steps p.tables e below (T37.setTop (mkF m 165 #[.val (.int p1), .val (.int p2), .val (.int p3), .val (.int p4), .unset] [(.ref b28), (.ref b25), (.ref b25)])) _
            refine XS.dup X37.here hx rfl (hb hby d1_165) rfl rfl ?_
            show Steps p.tables e below (T37.setTop (mkF m 166 #[.val (.int p1), .val (.int p2), .val (.int p3), .val (.int p4), .unset] [(.ref b28), (.ref b28), (.ref b25), (.ref b25)])) _
            refine XS.iconst X37.here hx rfl (hb hby d1_166) ?_
            show Steps p.tables e below (T37.setTop (mkF m 167 #[.val (.int p1), .val (.int p2), .val (.int p3), .val (.int p4), .unset] [(.int (3 : Int32)), (.ref b28), (.ref b28), (.ref b25), (.ref b25)])) _
            refine XS.bipush X37.here hx rfl (hb hby d1_167) ?_
            show Steps p.tables e below (T37.setTop (mkF m 169 #[.val (.int p1), .val (.int p2), .val (.int p3), .val (.int p4), .unset] [(.int (108 : Int32)), (.int (3 : Int32)), (.ref b28), (.ref b28), (.ref b25), (.ref b25)])) _
            refine st40 _ ?_
            show Steps p.tables e below (T40.setTop (mkF m 170 #[.val (.int p1), .val (.int p2), .val (.int p3), .val (.int p4), .unset] [(.ref b28), (.ref b25), (.ref b25)])) _
            refine XS.dup X40.here hx rfl (hb hby d1_170) rfl rfl ?_
            show Steps p.tables e below (T40.setTop (mkF m 171 #[.val (.int p1), .val (.int p2), .val (.int p3), .val (.int p4), .unset] [(.ref b28), (.ref b28), (.ref b25), (.ref b25)])) _
            refine XS.iconst X40.here hx rfl (hb hby d1_171) ?_
            show Steps p.tables e below (T40.setTop (mkF m 172 #[.val (.int p1), .val (.int p2), .val (.int p3), .val (.int p4), .unset] [(.int (4 : Int32)), (.ref b28), (.ref b28), (.ref b25), (.ref b25)])) _
            refine XS.bipush X40.here hx rfl (hb hby d1_172) ?_
            show Steps p.tables e below (T40.setTop (mkF m 174 #[.val (.int p1), .val (.int p2), .val (.int p3), .val (.int p4), .unset] [(.int (108 : Int32)), (.int (4 : Int32)), (.ref b28), (.ref b28), (.ref b25), (.ref b25)])) _
            refine st43 _ ?_
            show Steps p.tables e below (T43.setTop (mkF m 175 #[.val (.int p1), .val (.int p2), .val (.int p3), .val (.int p4), .unset] [(.ref b28), (.ref b25), (.ref b25)])) _
            refine XS.dup X43.here hx rfl (hb hby d1_175) rfl rfl ?_
            show Steps p.tables e below (T43.setTop (mkF m 176 #[.val (.int p1), .val (.int p2), .val (.int p3), .val (.int p4), .unset] [(.ref b28), (.ref b28), (.ref b25), (.ref b25)])) _
            refine XS.iconst X43.here hx rfl (hb hby d1_176) ?_
            show Steps p.tables e below (T43.setTop (mkF m 177 #[.val (.int p1), .val (.int p2), .val (.int p3), .val (.int p4), .unset] [(.int (5 : Int32)), (.ref b28), (.ref b28), (.ref b25), (.ref b25)])) _
            refine XS.bipush X43.here hx rfl (hb hby d1_177) ?_
            show Steps p.tables e below (T43.setTop (mkF m 179 #[.val (.int p1), .val (.int p2), .val (.int p3), .val (.int p4), .unset] [(.int (101 : Int32)), (.int (5 : Int32)), (.ref b28), (.ref b28), (.ref b25), (.ref b25)])) _
            refine st46 _ ?_
            show Steps p.tables e below (T46.setTop (mkF m 180 #[.val (.int p1), .val (.int p2), .val (.int p3), .val (.int p4), .unset] [(.ref b28), (.ref b25), (.ref b25)])) _
            refine XS.dup X46.here hx rfl (hb hby d1_180) rfl rfl ?_
            show Steps p.tables e below (T46.setTop (mkF m 181 #[.val (.int p1), .val (.int p2), .val (.int p3), .val (.int p4), .unset] [(.ref b28), (.ref b28), (.ref b25), (.ref b25)])) _
            refine XS.bipush X46.here hx rfl (hb hby d1_181) ?_
            show Steps p.tables e below (T46.setTop (mkF m 183 #[.val (.int p1), .val (.int p2), .val (.int p3), .val (.int p4), .unset] [(.int (6 : Int32)), (.ref b28), (.ref b28), (.ref b25), (.ref b25)])) _
            refine XS.bipush X46.here hx rfl (hb hby d1_183) ?_
            show Steps p.tables e below (T46.setTop (mkF m 185 #[.val (.int p1), .val (.int p2), .val (.int p3), .val (.int p4), .unset] [(.int (110 : Int32)), (.int (6 : Int32)), (.ref b28), (.ref b28), (.ref b25), (.ref b25)])) _
            refine st49 _ ?_
            show Steps p.tables e below (T49.setTop (mkF m 186 #[.val (.int p1), .val (.int p2), .val (.int p3), .val (.int p4), .unset] [(.ref b28), (.ref b25), (.ref b25)])) _
            refine XS.dup X49.here hx rfl (hb hby d1_186) rfl rfl ?_
            show Steps p.tables e below (T49.setTop (mkF m 187 #[.val (.int p1), .val (.int p2), .val (.int p3), .val (.int p4), .unset] [(.ref b28), (.ref b28), (.ref b25), (.ref b25)])) _
            refine XS.bipush X49.here hx rfl (hb hby d1_187) ?_
            show Steps p.tables e below (T49.setTop (mkF m 189 #[.val (.int p1), .val (.int p2), .val (.int p3), .val (.int p4), .unset] [(.int (7 : Int32)), (.ref b28), (.ref b28), (.ref b25), (.ref b25)])) _
            refine XS.bipush X49.here hx rfl (hb hby d1_189) ?_
            show Steps p.tables e below (T49.setTop (mkF m 191 #[.val (.int p1), .val (.int p2), .val (.int p3), .val (.int p4), .unset] [(.int (103 : Int32)), (.int (7 : Int32)), (.ref b28), (.ref b28), (.ref b25), (.ref b25)])) _
            refine st52 _ ?_
            show Steps p.tables e below (T52.setTop (mkF m 192 #[.val (.int p1), .val (.int p2), .val (.int p3), .val (.int p4), .unset] [(.ref b28), (.ref b25), (.ref b25)])) _
            refine XS.dup X52.here hx rfl (hb hby d1_192) rfl rfl ?_
            show Steps p.tables e below (T52.setTop (mkF m 193 #[.val (.int p1), .val (.int p2), .val (.int p3), .val (.int p4), .unset] [(.ref b28), (.ref b28), (.ref b25), (.ref b25)])) _
            refine XS.bipush X52.here hx rfl (hb hby d1_193) ?_
            show Steps p.tables e below (T52.setTop (mkF m 195 #[.val (.int p1), .val (.int p2), .val (.int p3), .val (.int p4), .unset] [(.int (8 : Int32)), (.ref b28), (.ref b28), (.ref b25), (.ref b25)])) _
            refine XS.bipush X52.here hx rfl (hb hby d1_195) ?_
            show Steps p.tables e below (T52.setTop (mkF m 197 #[.val (.int p1), .val (.int p2), .val (.int p3), .val (.int p4), .unset] [(.int (101 : Int32)), (.int (8 : Int32)), (.ref b28), (.ref b28), (.ref b25), (.ref b25)])) _
            refine st55 _ ?_
            show Steps p.tables e below (T55.setTop (mkF m 198 #[.val (.int p1), .val (.int p2), .val (.int p3), .val (.int p4), .unset] [(.ref b28), (.ref b25), (.ref b25)])) _
            refine XS.dup X55.here hx rfl (hb hby d1_198) rfl rfl ?_
            show Steps p.tables e below (T55.setTop (mkF m 199 #[.val (.int p1), .val (.int p2), .val (.int p3), .val (.int p4), .unset] [(.ref b28), (.ref b28), (.ref b25), (.ref b25)])) _
            refine XS.bipush X55.here hx rfl (hb hby d1_199) ?_
            show Steps p.tables e below (T55.setTop (mkF m 201 #[.val (.int p1), .val (.int p2), .val (.int p3), .val (.int p4), .unset] [(.int (9 : Int32)), (.ref b28), (.ref b28), (.ref b25), (.ref b25)])) _
            refine XS.bipush X55.here hx rfl (hb hby d1_201) ?_
            show Steps p.tables e below (T55.setTop (mkF m 203 #[.val (.int p1), .val (.int p2), .val (.int p3), .val (.int p4), .unset] [(.int (79 : Int32)), (.int (9 : Int32)), (.ref b28), (.ref b28), (.ref b25), (.ref b25)])) _
            refine st58 _ ?_
            show Steps p.tables e below (T58.setTop (mkF m 204 #[.val (.int p1), .val (.int p2), .val (.int p3), .val (.int p4), .unset] [(.ref b28), (.ref b25), (.ref b25)])) _
            refine XS.dup X58.here hx rfl (hb hby d1_204) rfl rfl ?_
            show Steps p.tables e below (T58.setTop (mkF m 205 #[.val (.int p1), .val (.int p2), .val (.int p3), .val (.int p4), .unset] [(.ref b28), (.ref b28), (.ref b25), (.ref b25)])) _
            refine XS.bipush X58.here hx rfl (hb hby d1_205) ?_
            show Steps p.tables e below (T58.setTop (mkF m 207 #[.val (.int p1), .val (.int p2), .val (.int p3), .val (.int p4), .unset] [(.int (10 : Int32)), (.ref b28), (.ref b28), (.ref b25), (.ref b25)])) _
            refine XS.bipush X58.here hx rfl (hb hby d1_207) ?_
            show Steps p.tables e below (T58.setTop (mkF m 209 #[.val (.int p1), .val (.int p2), .val (.int p3), .val (.int p4), .unset] [(.int (77 : Int32)), (.int (10 : Int32)), (.ref b28), (.ref b28), (.ref b25), (.ref b25)])) _
            refine st61 _ ?_
            show Steps p.tables e below (T61.setTop (mkF m 210 #[.val (.int p1), .val (.int p2), .val (.int p3), .val (.int p4), .unset] [(.ref b28), (.ref b25), (.ref b25)])) _
            refine XS.dup X61.here hx rfl (hb hby d1_210) rfl rfl ?_
            show Steps p.tables e below (T61.setTop (mkF m 211 #[.val (.int p1), .val (.int p2), .val (.int p3), .val (.int p4), .unset] [(.ref b28), (.ref b28), (.ref b25), (.ref b25)])) _
            refine XS.bipush X61.here hx rfl (hb hby d1_211) ?_
            show Steps p.tables e below (T61.setTop (mkF m 213 #[.val (.int p1), .val (.int p2), .val (.int p3), .val (.int p4), .unset] [(.int (11 : Int32)), (.ref b28), (.ref b28), (.ref b25), (.ref b25)])) _
            refine XS.bipush X61.here hx rfl (hb hby d1_213) ?_
            show Steps p.tables e below (T61.setTop (mkF m 215 #[.val (.int p1), .val (.int p2), .val (.int p3), .val (.int p4), .unset] [(.int (65 : Int32)), (.int (11 : Int32)), (.ref b28), (.ref b28), (.ref b25), (.ref b25)])) _
            refine st64 _ ?_
            show Steps p.tables e below (T64.setTop (mkF m 216 #[.val (.int p1), .val (.int p2), .val (.int p3), .val (.int p4), .unset] [(.ref b28), (.ref b25), (.ref b25)])) _
            refine XS.dup X64.here hx rfl (hb hby d1_216) rfl rfl ?_
            show Steps p.tables e below (T64.setTop (mkF m 217 #[.val (.int p1), .val (.int p2), .val (.int p3), .val (.int p4), .unset] [(.ref b28), (.ref b28), (.ref b25), (.ref b25)])) _
            refine XS.bipush X64.here hx rfl (hb hby d1_217) ?_
            show Steps p.tables e below (T64.setTop (mkF m 219 #[.val (.int p1), .val (.int p2), .val (.int p3), .val (.int p4), .unset] [(.int (12 : Int32)), (.ref b28), (.ref b28), (.ref b25), (.ref b25)])) _
            refine XS.bipush X64.here hx rfl (hb hby d1_219) ?_
            show Steps p.tables e below (T64.setTop (mkF m 221 #[.val (.int p1), .val (.int p2), .val (.int p3), .val (.int p4), .unset] [(.int (84 : Int32)), (.int (12 : Int32)), (.ref b28), (.ref b28), (.ref b25), (.ref b25)])) _
            refine st67 _ ?_
            show Steps p.tables e below (T67.setTop (mkF m 222 #[.val (.int p1), .val (.int p2), .val (.int p3), .val (.int p4), .unset] [(.ref b28), (.ref b25), (.ref b25)])) _
            refine XS.dup X67.here hx rfl (hb hby d1_222) rfl rfl ?_
            show Steps p.tables e below (T67.setTop (mkF m 223 #[.val (.int p1), .val (.int p2), .val (.int p3), .val (.int p4), .unset] [(.ref b28), (.ref b28), (.ref b25), (.ref b25)])) _
            refine XS.bipush X67.here hx rfl (hb hby d1_223) ?_
            show Steps p.tables e below (T67.setTop (mkF m 225 #[.val (.int p1), .val (.int p2), .val (.int p3), .val (.int p4), .unset] [(.int (13 : Int32)), (.ref b28), (.ref b28), (.ref b25), (.ref b25)])) _
            refine XS.bipush X67.here hx rfl (hb hby d1_225) ?_
            show Steps p.tables e below (T67.setTop (mkF m 227 #[.val (.int p1), .val (.int p2), .val (.int p3), .val (.int p4), .unset] [(.int (79 : Int32)), (.int (13 : Int32)), (.ref b28), (.ref b28), (.ref b25), (.ref b25)])) _
            refine st70 _ ?_
            show Steps p.tables e below (T70.setTop (mkF m 228 #[.val (.int p1), .val (.int p2), .val (.int p3), .val (.int p4), .unset] [(.ref b28), (.ref b25), (.ref b25)])) _
            refine XS.dup X70.here hx rfl (hb hby d1_228) rfl rfl ?_
            show Steps p.tables e below (T70.setTop (mkF m 229 #[.val (.int p1), .val (.int p2), .val (.int p3), .val (.int p4), .unset] [(.ref b28), (.ref b28), (.ref b25), (.ref b25)])) _
            refine XS.bipush X70.here hx rfl (hb hby d1_229) ?_
            show Steps p.tables e below (T70.setTop (mkF m 231 #[.val (.int p1), .val (.int p2), .val (.int p3), .val (.int p4), .unset] [(.int (14 : Int32)), (.ref b28), (.ref b28), (.ref b25), (.ref b25)])) _
            refine XS.bipush X70.here hx rfl (hb hby d1_231) ?_
            show Steps p.tables e below (T70.setTop (mkF m 233 #[.val (.int p1), .val (.int p2), .val (.int p3), .val (.int p4), .unset] [(.int (84 : Int32)), (.int (14 : Int32)), (.ref b28), (.ref b28), (.ref b25), (.ref b25)])) _
            refine st73 _ ?_
            exact k
          obtain ⟨lq76, X76, N76⟩ : ∃ lq, Stand p l e ({ frames := 5, cells := 3, slots := 64, locals := 90 } : Room) (s.setVm s.vm) m #[(.int p1), (.int p2), (.int p3), (.int p4)] below meth c T73 lq 2 19 ∧ Fr n0 lq := ⟨_, X73, N73⟩
          obtain ⟨_, _, ⟨T77, L77, k77, n77⟩, -, X77, ⟨Lc77, hQ77, l77, y77, z77⟩, st77⟩ := X76.specialBack hx (y := (⟨"java/lang/String", "<init>", "([C)V"⟩ : MethodName)) rfl hown (mvT hZ (hw _ (List.mem_of_getElem? (i := 11) rfl))) (mvT hZ (hw _ (List.mem_of_getElem? (i := 12) rfl))) (mvT hZ (hw _ (List.mem_of_getElem? (i := 13) rfl))) (by decide) (StrChars.Road.backV (W := 1) hZ hws (kI := 4) (hw _ (List.mem_of_getElem? (i := 5) rfl)) (cs := ([nar .char (67 : Int32), nar .char (104 : Int32), nar .char (97 : Int32), nar .char (108 : Int32), nar .char (108 : Int32), nar .char (101 : Int32), nar .char (110 : Int32), nar .char (103 : Int32), nar .char (101 : Int32), nar .char (79 : Int32), nar .char (77 : Int32), nar .char (65 : Int32), nar .char (84 : Int32), nar .char (79 : Int32), nar .char (84 : Int32)] : List Int32)) (bs := (([nar .char (67 : Int32), nar .char (104 : Int32), nar .char (97 : Int32), nar .char (108 : Int32), nar .char (108 : Int32), nar .char (101 : Int32), nar .char (110 : Int32), nar .char (103 : Int32), nar .char (101 : Int32), nar .char (79 : Int32), nar .char (77 : Int32), nar .char (65 : Int32), nar .char (84 : Int32), nar .char (79 : Int32), nar .char (84 : Int32)] : List Int32)).map (fun c => c.toInt8.toInt32)) (n := 15) g_b25 Zs74 E_b25_73 F_b25_value_73 F_b25_coder_73 V73_b28 S_java_lang_String_COMPACT_STRINGS_73 P5 rfl rfl (by decide) (by decide) hp rfl (by decide) (by decide)) (g := (mkF m 234 #[.val (.int p1), .val (.int p2), .val (.int p3), .val (.int p4), .unset] [(.ref b28), (.ref b25), (.ref b25)])) rfl (by rw [hml]; rfl) (Steps.refl _) (a := b25) (argsL := [(.ref b28)]) (rest := [(.ref b25)]) (lenOf pd_5 rfl) rfl (by show 2 * 0 + _ ≤ _; exact Nat.le_of_eq rfl) (hb hby d1_234) (fun _ _ => ⟨rfl, e73, (by decide : 2 + 1 ≤ _), (by decide : 19 + 15 ≤ _)⟩)
          dsimp only [Pt.U, Pt.locs, Pt.cells, Pt.slots] at X77 l77 y77 z77 st77 hQ77
          subst l77 y77 z77
          obtain ⟨rfl, N77q, K77q, E77q, Fc77q, ta77, kb77, u177, u277, u377, Fv77q, Vv77q⟩ := hQ77
          have N77 := Fr.app N76 N77q
          have E_b25_77 := E_b25_73.keep K77q
          have Zs78 := Nat.le_trans Zs74 K77q.1
          have hk79 := Nat.le_trans hk75 K77q.1
          have Kk77 := Kk73.trans K77q (allS (Or.inr sz_b25) all0)
          obtain ⟨fs, hr, hrun, hended, hEnd⟩ := Stand.leaveW (s := s) (vm₁ := s.vm) X77 hS0 (by exact hk79) (v := some (.ref b25)) (fun h => by rw [Bd.returns] at h; cases h)
          refine ⟨_, _, pre9 _ ?_, hrun, hended, _, _, rfl, ?_, ?_, hEnd.1, hEnd.2.1, hEnd.2.2.1, hEnd.2.2.2.mono (by decide) (by decide)⟩
          · show Steps p.tables e below (T73.setTop (mkF m 234 #[.val (.int p1), .val (.int p2), .val (.int p3), .val (.int p4), .unset] [(.ref b28), (.ref b25), (.ref b25)])) _
            refine st77.trans ?_
            show Steps p.tables e below (T77.setTop (mkF m 237 #[.val (.int p1), .val (.int p2), .val (.int p3), .val (.int p4), .unset] [(.ref b25)])) _
            exact retOut X77 hx Bd.returns rfl (Or.inr (Or.inr (Or.inr (Or.inr ⟨rfl, rfl, rfl⟩)))) (hb hby d1_237) hr
          · show Q1 Z p1 p2 p3 p4 G1 h0 n0 _ T77.heap _
            exact ⟨_, ([nar .char (67 : Int32), nar .char (104 : Int32), nar .char (97 : Int32), nar .char (108 : Int32), nar .char (108 : Int32), nar .char (101 : Int32), nar .char (110 : Int32), nar .char (103 : Int32), nar .char (101 : Int32), nar .char (79 : Int32), nar .char (77 : Int32), nar .char (65 : Int32), nar .char (84 : Int32), nar .char (79 : Int32), nar .char (84 : Int32)] : List Int32), rfl, N77, Kk77, ta77, kb77, 15, E77q, Fv77q, Fc77q, Vv77q, hp, rfl, by decide⟩
          · show CHr Z consts_1 s.vm s.heap T77.vm T77.heap
            rw [hh]
            exact CHr.trans (CHr.keep Kk77 sf0 HC) (CHv.at (s := s) (vm0 := s.vm) X77 hZ hEL (CHv.keep Kk77 sf0 HC))
        · skip
          have pre10 : ∀ t, Steps p.tables e below (s₁.setTop (mkF m 238 #[.val (.int p1), .val (.int p2), .val (.int p3), .val (.int p4), .unset] [])) t → Steps p.tables e below (s₁.setTop (entryFrame m #[(.int p1), (.int p2), (.int p3), (.int p4)] 5)) t := by
            intro t k
            refine pre7 t ?_
            show Steps p.tables e below (s₁.setTop (mkF m 49 #[.val (.int p1), .val (.int p2), .val (.int p3), .val (.int p4), .unset] [])) _
            refine XS.iloadN X0.here hx rfl (hb hby d1_49) rfl ?_
            show Steps p.tables e below (s₁.setTop (mkF m 50 #[.val (.int p1), .val (.int p2), .val (.int p3), .val (.int p4), .unset] [(.int p2)])) _
            refine XS.iconst X0.here hx rfl (hb hby d1_50) ?_
            show Steps p.tables e below (s₁.setTop (mkF m 51 #[.val (.int p1), .val (.int p2), .val (.int p3), .val (.int p4), .unset] [(.int (2 : Int32)), (.int p2)])) _
            refine XS.icmpYes X0.here hx rfl (pc0 := 51) (pc' := 238) rfl (hb hby d1_51) rfl (feq k2).2 (by decide) (by decide) ?_
            exact k
          by_cases k3 : p2 = 3
          · skip
            have hp : ∀ c ∈ ([nar .char (67 : Int32), nar .char (104 : Int32), nar .char (97 : Int32), nar .char (108 : Int32), nar .char (108 : Int32), nar .char (101 : Int32), nar .char (110 : Int32), nar .char (103 : Int32), nar .char (101 : Int32), nar .char (79 : Int32), nar .char (77 : Int32), nar .char (65 : Int32), nar .char (84 : Int32), nar .char (79 : Int32), nar .char (84 : Int32), nar .char (80 : Int32), nar .char p4] : List Int32), ¬ c < 0 ∧ ¬ (255 : Int32) < c := (own_cc (by decide +kernel) (own_cc (by decide +kernel) (own_cc (by decide +kernel) (own_cc (by decide +kernel) (own_cc (by decide +kernel) (own_cc (by decide +kernel) (own_cc (by decide +kernel) (own_cc (by decide +kernel) (own_cc (by decide +kernel) (own_cc (by decide +kernel) (own_cc (by decide +kernel) (own_cc (by decide +kernel) (own_cc (by decide +kernel) (own_cc (by decide +kernel) (own_cc (by decide +kernel) (own_cc (by decide +kernel) (own_cc hcb own_cn)))))))))))))))))
            have pre11 : ∀ t, Steps p.tables e below (s₁.setTop (mkF m 342 #[.val (.int p1), .val (.int p2), .val (.int p3), .val (.int p4), .unset] [])) t → Steps p.tables e below (s₁.setTop (entryFrame m #[(.int p1), (.int p2), (.int p3), (.int p4)] 5)) t := by
              intro t k
              refine pre10 t ?_
              show Steps p.tables e below (s₁.setTop (mkF m 238 #[.val (.int p1), .val (.int p2), .val (.int p3), .val (.int p4), .unset] [])) _
              refine XS.iloadN X0.here hx rfl (hb hby d1_238) rfl ?_
              show Steps p.tables e below (s₁.setTop (mkF m 239 #[.val (.int p1), .val (.int p2), .val (.int p3), .val (.int p4), .unset] [(.int p2)])) _
              refine XS.iconst X0.here hx rfl (hb hby d1_239) ?_
              show Steps p.tables e below (s₁.setTop (mkF m 240 #[.val (.int p1), .val (.int p2), .val (.int p3), .val (.int p4), .unset] [(.int (3 : Int32)), (.int p2)])) _
              refine XS.icmpNo X0.here hx rfl (hb hby d1_240) rfl (teq k3).2 ?_
              show Steps p.tables e below (s₁.setTop (mkF m 243 #[.val (.int p1), .val (.int p2), .val (.int p3), .val (.int p4), .unset] [])) _
              refine XS.iloadN X0.here hx rfl (hb hby d1_243) rfl ?_
              show Steps p.tables e below (s₁.setTop (mkF m 244 #[.val (.int p1), .val (.int p2), .val (.int p3), .val (.int p4), .unset] [(.int p1)])) _
              refine XS.ifYes X0.here hx rfl (pc0 := 244) (pc' := 342) rfl (hb hby d1_244) rfl ((if0 _ _).trans (teq ce).1) (by decide) (by decide) ?_
              exact k
            obtain ⟨T80, h80, X80, e80, E80, A80, D80, -, st80⟩ := newO X0 hx hZ hown (hw _ (List.mem_of_getElem? (i := 4) rfl)) (hw _ (List.mem_of_getElem? (i := 5) rfl)) (hw _ (List.mem_of_getElem? (i := 6) rfl)) e0 (g := (mkF m 342 #[.val (.int p1), .val (.int p2), .val (.int p3), .val (.int p4), .unset] [])) rfl (hb hby d1_342) (by decide) (by decide)
            obtain ⟨b80, g80⟩ : ∃ z, z = h0.size := ⟨_, rfl⟩
            rw [← g80] at A80 D80 st80
            have g_b80 : n0 ≤ b80 := Nat.le_trans Z0 (Nat.le_of_eq g80.symm)
            have sz_b80 := Nat.le_trans KK0.1 (Nat.le_of_eq g80.symm)
            have S_java_lang_String_COMPACT_STRINGS_80 := S1.ext E80
            have Zs81 := Nat.le_trans Z0 E80.1
            have hk82 := Nat.le_trans hk0 E80.1
            have Kk80 := KK0.ext E80
            have F_coder_b80 : Fld Z h80 b80 "java/lang/String" "coder" "B" (.int (0 : Int32)) := D80 (Or.inr (hw _ (List.mem_of_getElem? (i := 34) rfl))) (ty := .byte) (by decide)
            have F_value_b80 : Fld Z h80 b80 "java/lang/String" "value" "[B" .null := D80 (Or.inr (hw _ (List.mem_of_getElem? (i := 36) rfl))) (ty := (.array .byte)) (by decide)
            obtain ⟨T83, h83, k83, X83, e83, E83, A83, st83⟩ := newP X80 hx hZ (hw _ (List.mem_of_getElem? (i := 10) rfl)) e80 (g := (mkF m 348 #[.val (.int p1), .val (.int p2), .val (.int p3), .val (.int p4), .unset] [(.int (17 : Int32)), (.ref b80), (.ref b80)])) rfl (hb hby d1_348) rfl (by decide) (cap := 17) (by decide) (by decide) (by decide) (by decide)
            obtain ⟨b83, g83⟩ : ∃ z, z = h80.size := ⟨_, rfl⟩
            rw [← g83] at A83 st83
            have ne_b80_b83 : b80 ≠ b83 := Nat.ne_of_lt (Nat.lt_of_lt_of_le F_coder_b80.lt (Nat.le_of_eq g83.symm))
            have g_b83 : n0 ≤ b83 := Nat.le_trans Zs81 (Nat.le_of_eq g83.symm)
            have sz_b83 := Nat.le_trans Kk80.1 (Nat.le_of_eq g83.symm)
            have S_java_lang_String_COMPACT_STRINGS_83 := S_java_lang_String_COMPACT_STRINGS_80.ext E83
            have F_b80_coder_83 := F_coder_b80.ext E83
            have F_b80_value_83 := F_value_b80.ext E83
            have E_b80_83 := A80.ext E83
            have Zs84 := Nat.le_trans Zs81 E83.1
            have hk85 := Nat.le_trans hk82 E83.1
            have Kk83 := Kk80.ext E83
            have V_b83 : Arv Z h83 b83 k83 .char (17 : Int32) [(.int (0 : Int32)), (.int (0 : Int32)), (.int (0 : Int32)), (.int (0 : Int32)), (.int (0 : Int32)), (.int (0 : Int32)), (.int (0 : Int32)), (.int (0 : Int32)), (.int (0 : Int32)), (.int (0 : Int32)), (.int (0 : Int32)), (.int (0 : Int32)), (.int (0 : Int32)), (.int (0 : Int32)), (.int (0 : Int32)), (.int (0 : Int32)), (.int (0 : Int32))] (.int (0 : Int32)) := (Arv.new A83 (by decide)).pad (pad_rep [] (.int (0 : Int32)) 17)
            obtain ⟨cl86, Ar86, q86, S86, N86m, H86, G86⟩ := id V_b83
            have hin86 : ¬ ((0 : Int32) < 0 ∨ cl86.slots.size ≤ ((0 : Int32)).toNatClampNeg) := inb_of S86 ⟨by decide, by decide⟩
            obtain ⟨T86, h86, X86, e86, W86, st86⟩ := stC X83 hx hZ e83 Ar86 (j := (0 : Int32)) hin86 (g := (mkF m 354 #[.val (.int p1), .val (.int p2), .val (.int p3), .val (.int p4), .unset] [(.int (67 : Int32)), (.int (0 : Int32)), (.ref b83), (.ref b83), (.ref b80), (.ref b80)])) rfl rfl (hb hby d1_354)
            have V86_b83 : Arv Z h86 b83 k83 .char (17 : Int32) [(.int (nar .char (67 : Int32))), (.int (0 : Int32)), (.int (0 : Int32)), (.int (0 : Int32)), (.int (0 : Int32)), (.int (0 : Int32)), (.int (0 : Int32)), (.int (0 : Int32)), (.int (0 : Int32)), (.int (0 : Int32)), (.int (0 : Int32)), (.int (0 : Int32)), (.int (0 : Int32)), (.int (0 : Int32)), (.int (0 : Int32)), (.int (0 : Int32)), (.int (0 : Int32))] (.int (0 : Int32)) := Arv.set Ar86 q86 S86 N86m H86 G86 (fits_nar_char _) W86 0 rfl (Nat.le_of_ble_eq_true rfl)
            have S_java_lang_String_COMPACT_STRINGS_86 := S_java_lang_String_COMPACT_STRINGS_83.wr W86
            have F_b80_coder_86 := F_b80_coder_83.other W86 (Or.inl ne_b80_b83)
            have F_b80_value_86 := F_b80_value_83.other W86 (Or.inl ne_b80_b83)
            have E_b80_86 := E_b80_83.wr W86
            have Zs87 := Nat.le_trans Zs84 (Keep.of_wr W86).1
            have hk88 := Nat.le_trans hk85 (Keep.of_wr W86).1
            have Kk86 := Kk83.wr W86 (Or.inr sz_b83)
            have N86 := Fr.snoc X86 N0 g_b83
            obtain ⟨cl89, Ar89, q89, S89, N89m, H89, G89⟩ := id V86_b83
            have hin89 : ¬ ((1 : Int32) < 0 ∨ cl89.slots.size ≤ ((1 : Int32)).toNatClampNeg) := inb_of S89 ⟨by decide, by decide⟩
            obtain ⟨T89, h89, X89, e89, W89, st89⟩ := stC X86 hx hZ e86 Ar89 (j := (1 : Int32)) hin89 (g := (mkF m 359 #[.val (.int p1), .val (.int p2), .val (.int p3), .val (.int p4), .unset] [(.int (104 : Int32)), (.int (1 : Int32)), (.ref b83), (.ref b83), (.ref b80), (.ref b80)])) rfl rfl (hb hby d1_359)
            have V89_b83 : Arv Z h89 b83 k83 .char (17 : Int32) [(.int (nar .char (67 : Int32))), (.int (nar .char (104 : Int32))), (.int (0 : Int32)), (.int (0 : Int32)), (.int (0 : Int32)), (.int (0 : Int32)), (.int (0 : Int32)), (.int (0 : Int32)), (.int (0 : Int32)), (.int (0 : Int32)), (.int (0 : Int32)), (.int (0 : Int32)), (.int (0 : Int32)), (.int (0 : Int32)), (.int (0 : Int32)), (.int (0 : Int32)), (.int (0 : Int32))] (.int (0 : Int32)) := Arv.set Ar89 q89 S89 N89m H89 G89 (fits_nar_char _) W89 1 rfl (Nat.le_of_ble_eq_true rfl)
            have S_java_lang_String_COMPACT_STRINGS_89 := S_java_lang_String_COMPACT_STRINGS_86.wr W89
            have F_b80_coder_89 := F_b80_coder_86.other W89 (Or.inl ne_b80_b83)
            have F_b80_value_89 := F_b80_value_86.other W89 (Or.inl ne_b80_b83)
            have E_b80_89 := E_b80_86.wr W89
            have Zs90 := Nat.le_trans Zs87 (Keep.of_wr W89).1
            have hk91 := Nat.le_trans hk88 (Keep.of_wr W89).1
            have Kk89 := Kk86.wr W89 (Or.inr sz_b83)
            have N89 := Fr.snoc X89 N86 g_b83
            obtain ⟨cl92, Ar92, q92, S92, N92m, H92, G92⟩ := id V89_b83
            have hin92 : ¬ ((2 : Int32) < 0 ∨ cl92.slots.size ≤ ((2 : Int32)).toNatClampNeg) := inb_of S92 ⟨by decide, by decide⟩
            obtain ⟨T92, h92, X92, e92, W92, st92⟩ := stC X89 hx hZ e89 Ar92 (j := (2 : Int32)) hin92 (g := (mkF m 364 #[.val (.int p1), .val (.int p2), .val (.int p3), .val (.int p4), .unset] [(.int (97 : Int32)), (.int (2 : Int32)), (.ref b83), (.ref b83), (.ref b80), (.ref b80)])) rfl rfl (hb hby d1_364)
            have V92_b83 : Arv Z h92 b83 k83 .char (17 : Int32) [(.int (nar .char (67 : Int32))), (.int (nar .char (104 : Int32))), (.int (nar .char (97 : Int32))), (.int (0 : Int32)), (.int (0 : Int32)), (.int (0 : Int32)), (.int (0 : Int32)), (.int (0 : Int32)), (.int (0 : Int32)), (.int (0 : Int32)), (.int (0 : Int32)), (.int (0 : Int32)), (.int (0 : Int32)), (.int (0 : Int32)), (.int (0 : Int32)), (.int (0 : Int32)), (.int (0 : Int32))] (.int (0 : Int32)) := Arv.set Ar92 q92 S92 N92m H92 G92 (fits_nar_char _) W92 2 rfl (Nat.le_of_ble_eq_true rfl)
            have S_java_lang_String_COMPACT_STRINGS_92 := S_java_lang_String_COMPACT_STRINGS_89.wr W92
            have F_b80_coder_92 := F_b80_coder_89.other W92 (Or.inl ne_b80_b83)
            have F_b80_value_92 := F_b80_value_89.other W92 (Or.inl ne_b80_b83)
            have E_b80_92 := E_b80_89.wr W92
            have Zs93 := Nat.le_trans Zs90 (Keep.of_wr W92).1
            have hk94 := Nat.le_trans hk91 (Keep.of_wr W92).1
            have Kk92 := Kk89.wr W92 (Or.inr sz_b83)
            have N92 := Fr.snoc X92 N89 g_b83
            obtain ⟨cl95, Ar95, q95, S95, N95m, H95, G95⟩ := id V92_b83
            have hin95 : ¬ ((3 : Int32) < 0 ∨ cl95.slots.size ≤ ((3 : Int32)).toNatClampNeg) := inb_of S95 ⟨by decide, by decide⟩
            obtain ⟨T95, h95, X95, e95, W95, st95⟩ := stC X92 hx hZ e92 Ar95 (j := (3 : Int32)) hin95 (g := (mkF m 369 #[.val (.int p1), .val (.int p2), .val (.int p3), .val (.int p4), .unset] [(.int (108 : Int32)), (.int (3 : Int32)), (.ref b83), (.ref b83), (.ref b80), (.ref b80)])) rfl rfl (hb hby d1_369)
            have V95_b83 : Arv Z h95 b83 k83 .char (17 : Int32) [(.int (nar .char (67 : Int32))), (.int (nar .char (104 : Int32))), (.int (nar .char (97 : Int32))), (.int (nar .char (108 : Int32))), (.int (0 : Int32)), (.int (0 : Int32)), (.int (0 : Int32)), (.int (0 : Int32)), (.int (0 : Int32)), (.int (0 : Int32)), (.int (0 : Int32)), (.int (0 : Int32)), (.int (0 : Int32)), (.int (0 : Int32)), (.int (0 : Int32)), (.int (0 : Int32)), (.int (0 : Int32))] (.int (0 : Int32)) := Arv.set Ar95 q95 S95 N95m H95 G95 (fits_nar_char _) W95 3 rfl (Nat.le_of_ble_eq_true rfl)
            have S_java_lang_String_COMPACT_STRINGS_95 := S_java_lang_String_COMPACT_STRINGS_92.wr W95
            have F_b80_coder_95 := F_b80_coder_92.other W95 (Or.inl ne_b80_b83)
            have F_b80_value_95 := F_b80_value_92.other W95 (Or.inl ne_b80_b83)
            have E_b80_95 := E_b80_92.wr W95
            have Zs96 := Nat.le_trans Zs93 (Keep.of_wr W95).1
            have hk97 := Nat.le_trans hk94 (Keep.of_wr W95).1
            have Kk95 := Kk92.wr W95 (Or.inr sz_b83)
            have N95 := Fr.snoc X95 N92 g_b83
            obtain ⟨cl98, Ar98, q98, S98, N98m, H98, G98⟩ := id V95_b83
            have hin98 : ¬ ((4 : Int32) < 0 ∨ cl98.slots.size ≤ ((4 : Int32)).toNatClampNeg) := inb_of S98 ⟨by decide, by decide⟩
            obtain ⟨T98, h98, X98, e98, W98, st98⟩ := stC X95 hx hZ e95 Ar98 (j := (4 : Int32)) hin98 (g := (mkF m 374 #[.val (.int p1), .val (.int p2), .val (.int p3), .val (.int p4), .unset] [(.int (108 : Int32)), (.int (4 : Int32)), (.ref b83), (.ref b83), (.ref b80), (.ref b80)])) rfl rfl (hb hby d1_374)
            have V98_b83 : Arv Z h98 b83 k83 .char (17 : Int32) [(.int (nar .char (67 : Int32))), (.int (nar .char (104 : Int32))), (.int (nar .char (97 : Int32))), (.int (nar .char (108 : Int32))), (.int (nar .char (108 : Int32))), (.int (0 : Int32)), (.int (0 : Int32)), (.int (0 : Int32)), (.int (0 : Int32)), (.int (0 : Int32)), (.int (0 : Int32)), (.int (0 : Int32)), (.int (0 : Int32)), (.int (0 : Int32)), (.int (0 : Int32)), (.int (0 : Int32)), (.int (0 : Int32))] (.int (0 : Int32)) := Arv.set Ar98 q98 S98 N98m H98 G98 (fits_nar_char _) W98 4 rfl (Nat.le_of_ble_eq_true rfl)
            have S_java_lang_String_COMPACT_STRINGS_98 := S_java_lang_String_COMPACT_STRINGS_95.wr W98
            have F_b80_coder_98 := F_b80_coder_95.other W98 (Or.inl ne_b80_b83)
            have F_b80_value_98 := F_b80_value_95.other W98 (Or.inl ne_b80_b83)
            have E_b80_98 := E_b80_95.wr W98
            have Zs99 := Nat.le_trans Zs96 (Keep.of_wr W98).1
            have hk100 := Nat.le_trans hk97 (Keep.of_wr W98).1
            have Kk98 := Kk95.wr W98 (Or.inr sz_b83)
            have N98 := Fr.snoc X98 N95 g_b83
            obtain ⟨cl101, Ar101, q101, S101, N101m, H101, G101⟩ := id V98_b83
            have hin101 : ¬ ((5 : Int32) < 0 ∨ cl101.slots.size ≤ ((5 : Int32)).toNatClampNeg) := inb_of S101 ⟨by decide, by decide⟩
            obtain ⟨T101, h101, X101, e101, W101, st101⟩ := stC X98 hx hZ e98 Ar101 (j := (5 : Int32)) hin101 (g := (mkF m 379 #[.val (.int p1), .val (.int p2), .val (.int p3), .val (.int p4), .unset] [(.int (101 : Int32)), (.int (5 : Int32)), (.ref b83), (.ref b83), (.ref b80), (.ref b80)])) rfl rfl (hb hby d1_379)
            have V101_b83 : Arv Z h101 b83 k83 .char (17 : Int32) [(.int (nar .char (67 : Int32))), (.int (nar .char (104 : Int32))), (.int (nar .char (97 : Int32))), (.int (nar .char (108 : Int32))), (.int (nar .char (108 : Int32))), (.int (nar .char (101 : Int32))), (.int (0 : Int32)), (.int (0 : Int32)), (.int (0 : Int32)), (.int (0 : Int32)), (.int (0 : Int32)), (.int (0 : Int32)), (.int (0 : Int32)), (.int (0 : Int32)), (.int (0 : Int32)), (.int (0 : Int32)), (.int (0 : Int32))] (.int (0 : Int32)) := Arv.set Ar101 q101 S101 N101m H101 G101 (fits_nar_char _) W101 5 rfl (Nat.le_of_ble_eq_true rfl)
            have S_java_lang_String_COMPACT_STRINGS_101 := S_java_lang_String_COMPACT_STRINGS_98.wr W101
            have F_b80_coder_101 := F_b80_coder_98.other W101 (Or.inl ne_b80_b83)
            have F_b80_value_101 := F_b80_value_98.other W101 (Or.inl ne_b80_b83)
            have E_b80_101 := E_b80_98.wr W101
            have Zs102 := Nat.le_trans Zs99 (Keep.of_wr W101).1
            have hk103 := Nat.le_trans hk100 (Keep.of_wr W101).1
            have Kk101 := Kk98.wr W101 (Or.inr sz_b83)
            have N101 := Fr.snoc X101 N98 g_b83
            obtain ⟨cl104, Ar104, q104, S104, N104m, H104, G104⟩ := id V101_b83
            have hin104 : ¬ ((6 : Int32) < 0 ∨ cl104.slots.size ≤ ((6 : Int32)).toNatClampNeg) := inb_of S104 ⟨by decide, by decide⟩
            obtain ⟨T104, h104, X104, e104, W104, st104⟩ := stC X101 hx hZ e101 Ar104 (j := (6 : Int32)) hin104 (g := (mkF m 385 #[.val (.int p1), .val (.int p2), .val (.int p3), .val (.int p4), .unset] [(.int (110 : Int32)), (.int (6 : Int32)), (.ref b83), (.ref b83), (.ref b80), (.ref b80)])) rfl rfl (hb hby d1_385)
            have V104_b83 : Arv Z h104 b83 k83 .char (17 : Int32) [(.int (nar .char (67 : Int32))), (.int (nar .char (104 : Int32))), (.int (nar .char (97 : Int32))), (.int (nar .char (108 : Int32))), (.int (nar .char (108 : Int32))), (.int (nar .char (101 : Int32))), (.int (nar .char (110 : Int32))), (.int (0 : Int32)), (.int (0 : Int32)), (.int (0 : Int32)), (.int (0 : Int32)), (.int (0 : Int32)), (.int (0 : Int32)), (.int (0 : Int32)), (.int (0 : Int32)), (.int (0 : Int32)), (.int (0 : Int32))] (.int (0 : Int32)) := Arv.set Ar104 q104 S104 N104m H104 G104 (fits_nar_char _) W104 6 rfl (Nat.le_of_ble_eq_true rfl)
            have S_java_lang_String_COMPACT_STRINGS_104 := S_java_lang_String_COMPACT_STRINGS_101.wr W104
            have F_b80_coder_104 := F_b80_coder_101.other W104 (Or.inl ne_b80_b83)
            have F_b80_value_104 := F_b80_value_101.other W104 (Or.inl ne_b80_b83)
            have E_b80_104 := E_b80_101.wr W104
            have Zs105 := Nat.le_trans Zs102 (Keep.of_wr W104).1
            have hk106 := Nat.le_trans hk103 (Keep.of_wr W104).1
            have Kk104 := Kk101.wr W104 (Or.inr sz_b83)
            have N104 := Fr.snoc X104 N101 g_b83
            obtain ⟨cl107, Ar107, q107, S107, N107m, H107, G107⟩ := id V104_b83
            have hin107 : ¬ ((7 : Int32) < 0 ∨ cl107.slots.size ≤ ((7 : Int32)).toNatClampNeg) := inb_of S107 ⟨by decide, by decide⟩
            obtain ⟨T107, h107, X107, e107, W107, st107⟩ := stC X104 hx hZ e104 Ar107 (j := (7 : Int32)) hin107 (g := (mkF m 391 #[.val (.int p1), .val (.int p2), .val (.int p3), .val (.int p4), .unset] [(.int (103 : Int32)), (.int (7 : Int32)), (.ref b83), (.ref b83), (.ref b80), (.ref b80)])) rfl rfl (hb hby d1_391)
            have V107_b83 : Arv Z h107 b83 k83 .char (17 : Int32) [(.int (nar .char (67 : Int32))), (.int (nar .char (104 : Int32))), (.int (nar .char (97 : Int32))), (.int (nar .char (108 : Int32))), (.int (nar .char (108 : Int32))), (.int (nar .char (101 : Int32))), (.int (nar .char (110 : Int32))), (.int (nar .char (103 : Int32))), (.int (0 : Int32)), (.int (0 : Int32)), (.int (0 : Int32)), (.int (0 : Int32)), (.int (0 : Int32)), (.int (0 : Int32)), (.int (0 : Int32)), (.int (0 : Int32)), (.int (0 : Int32))] (.int (0 : Int32)) := Arv.set Ar107 q107 S107 N107m H107 G107 (fits_nar_char _) W107 7 rfl (Nat.le_of_ble_eq_true rfl)
            have S_java_lang_String_COMPACT_STRINGS_107 := S_java_lang_String_COMPACT_STRINGS_104.wr W107
            have F_b80_coder_107 := F_b80_coder_104.other W107 (Or.inl ne_b80_b83)
            have F_b80_value_107 := F_b80_value_104.other W107 (Or.inl ne_b80_b83)
            have E_b80_107 := E_b80_104.wr W107
            have Zs108 := Nat.le_trans Zs105 (Keep.of_wr W107).1
            have hk109 := Nat.le_trans hk106 (Keep.of_wr W107).1
            have Kk107 := Kk104.wr W107 (Or.inr sz_b83)
            have N107 := Fr.snoc X107 N104 g_b83
            obtain ⟨cl110, Ar110, q110, S110, N110m, H110, G110⟩ := id V107_b83
            have hin110 : ¬ ((8 : Int32) < 0 ∨ cl110.slots.size ≤ ((8 : Int32)).toNatClampNeg) := inb_of S110 ⟨by decide, by decide⟩
            obtain ⟨T110, h110, X110, e110, W110, st110⟩ := stC X107 hx hZ e107 Ar110 (j := (8 : Int32)) hin110 (g := (mkF m 397 #[.val (.int p1), .val (.int p2), .val (.int p3), .val (.int p4), .unset] [(.int (101 : Int32)), (.int (8 : Int32)), (.ref b83), (.ref b83), (.ref b80), (.ref b80)])) rfl rfl (hb hby d1_397)
            have V110_b83 : Arv Z h110 b83 k83 .char (17 : Int32) [(.int (nar .char (67 : Int32))), (.int (nar .char (104 : Int32))), (.int (nar .char (97 : Int32))), (.int (nar .char (108 : Int32))), (.int (nar .char (108 : Int32))), (.int (nar .char (101 : Int32))), (.int (nar .char (110 : Int32))), (.int (nar .char (103 : Int32))), (.int (nar .char (101 : Int32))), (.int (0 : Int32)), (.int (0 : Int32)), (.int (0 : Int32)), (.int (0 : Int32)), (.int (0 : Int32)), (.int (0 : Int32)), (.int (0 : Int32)), (.int (0 : Int32))] (.int (0 : Int32)) := Arv.set Ar110 q110 S110 N110m H110 G110 (fits_nar_char _) W110 8 rfl (Nat.le_of_ble_eq_true rfl)
            have S_java_lang_String_COMPACT_STRINGS_110 := S_java_lang_String_COMPACT_STRINGS_107.wr W110
            have F_b80_coder_110 := F_b80_coder_107.other W110 (Or.inl ne_b80_b83)
            have F_b80_value_110 := F_b80_value_107.other W110 (Or.inl ne_b80_b83)
            have E_b80_110 := E_b80_107.wr W110
            have Zs111 := Nat.le_trans Zs108 (Keep.of_wr W110).1
            have hk112 := Nat.le_trans hk109 (Keep.of_wr W110).1
            have Kk110 := Kk107.wr W110 (Or.inr sz_b83)
            have N110 := Fr.snoc X110 N107 g_b83
            obtain ⟨cl113, Ar113, q113, S113, N113m, H113, G113⟩ := id V110_b83
            have hin113 : ¬ ((9 : Int32) < 0 ∨ cl113.slots.size ≤ ((9 : Int32)).toNatClampNeg) := inb_of S113 ⟨by decide, by decide⟩
            obtain ⟨T113, h113, X113, e113, W113, st113⟩ := stC X110 hx hZ e110 Ar113 (j := (9 : Int32)) hin113 (g := (mkF m 403 #[.val (.int p1), .val (.int p2), .val (.int p3), .val (.int p4), .unset] [(.int (79 : Int32)), (.int (9 : Int32)), (.ref b83), (.ref b83), (.ref b80), (.ref b80)])) rfl rfl (hb hby d1_403)
            have V113_b83 : Arv Z h113 b83 k83 .char (17 : Int32) [(.int (nar .char (67 : Int32))), (.int (nar .char (104 : Int32))), (.int (nar .char (97 : Int32))), (.int (nar .char (108 : Int32))), (.int (nar .char (108 : Int32))), (.int (nar .char (101 : Int32))), (.int (nar .char (110 : Int32))), (.int (nar .char (103 : Int32))), (.int (nar .char (101 : Int32))), (.int (nar .char (79 : Int32))), (.int (0 : Int32)), (.int (0 : Int32)), (.int (0 : Int32)), (.int (0 : Int32)), (.int (0 : Int32)), (.int (0 : Int32)), (.int (0 : Int32))] (.int (0 : Int32)) := Arv.set Ar113 q113 S113 N113m H113 G113 (fits_nar_char _) W113 9 rfl (Nat.le_of_ble_eq_true rfl)
            have S_java_lang_String_COMPACT_STRINGS_113 := S_java_lang_String_COMPACT_STRINGS_110.wr W113
            have F_b80_coder_113 := F_b80_coder_110.other W113 (Or.inl ne_b80_b83)
            have F_b80_value_113 := F_b80_value_110.other W113 (Or.inl ne_b80_b83)
            have E_b80_113 := E_b80_110.wr W113
            have Zs114 := Nat.le_trans Zs111 (Keep.of_wr W113).1
            have hk115 := Nat.le_trans hk112 (Keep.of_wr W113).1
            have Kk113 := Kk110.wr W113 (Or.inr sz_b83)
            have N113 := Fr.snoc X113 N110 g_b83
            obtain ⟨cl116, Ar116, q116, S116, N116m, H116, G116⟩ := id V113_b83
            have hin116 : ¬ ((10 : Int32) < 0 ∨ cl116.slots.size ≤ ((10 : Int32)).toNatClampNeg) := inb_of S116 ⟨by decide, by decide⟩
            obtain ⟨T116, h116, X116, e116, W116, st116⟩ := stC X113 hx hZ e113 Ar116 (j := (10 : Int32)) hin116 (g := (mkF m 409 #[.val (.int p1), .val (.int p2), .val (.int p3), .val (.int p4), .unset] [(.int (77 : Int32)), (.int (10 : Int32)), (.ref b83), (.ref b83), (.ref b80), (.ref b80)])) rfl rfl (hb hby d1_409)
            have V116_b83 : Arv Z h116 b83 k83 .char (17 : Int32) [(.int (nar .char (67 : Int32))), (.int (nar .char (104 : Int32))), (.int (nar .char (97 : Int32))), (.int (nar .char (108 : Int32))), (.int (nar .char (108 : Int32))), (.int (nar .char (101 : Int32))), (.int (nar .char (110 : Int32))), (.int (nar .char (103 : Int32))), (.int (nar .char (101 : Int32))), (.int (nar .char (79 : Int32))), (.int (nar .char (77 : Int32))), (.int (0 : Int32)), (.int (0 : Int32)), (.int (0 : Int32)), (.int (0 : Int32)), (.int (0 : Int32)), (.int (0 : Int32))] (.int (0 : Int32)) := Arv.set Ar116 q116 S116 N116m H116 G116 (fits_nar_char _) W116 10 rfl (Nat.le_of_ble_eq_true rfl)
            have S_java_lang_String_COMPACT_STRINGS_116 := S_java_lang_String_COMPACT_STRINGS_113.wr W116
            have F_b80_coder_116 := F_b80_coder_113.other W116 (Or.inl ne_b80_b83)
            have F_b80_value_116 := F_b80_value_113.other W116 (Or.inl ne_b80_b83)
            have E_b80_116 := E_b80_113.wr W116
            have Zs117 := Nat.le_trans Zs114 (Keep.of_wr W116).1
            have hk118 := Nat.le_trans hk115 (Keep.of_wr W116).1
            have Kk116 := Kk113.wr W116 (Or.inr sz_b83)
            have N116 := Fr.snoc X116 N113 g_b83
            obtain ⟨cl119, Ar119, q119, S119, N119m, H119, G119⟩ := id V116_b83
            have hin119 : ¬ ((11 : Int32) < 0 ∨ cl119.slots.size ≤ ((11 : Int32)).toNatClampNeg) := inb_of S119 ⟨by decide, by decide⟩
            obtain ⟨T119, h119, X119, e119, W119, st119⟩ := stC X116 hx hZ e116 Ar119 (j := (11 : Int32)) hin119 (g := (mkF m 415 #[.val (.int p1), .val (.int p2), .val (.int p3), .val (.int p4), .unset] [(.int (65 : Int32)), (.int (11 : Int32)), (.ref b83), (.ref b83), (.ref b80), (.ref b80)])) rfl rfl (hb hby d1_415)
            have V119_b83 : Arv Z h119 b83 k83 .char (17 : Int32) [(.int (nar .char (67 : Int32))), (.int (nar .char (104 : Int32))), (.int (nar .char (97 : Int32))), (.int (nar .char (108 : Int32))), (.int (nar .char (108 : Int32))), (.int (nar .char (101 : Int32))), (.int (nar .char (110 : Int32))), (.int (nar .char (103 : Int32))), (.int (nar .char (101 : Int32))), (.int (nar .char (79 : Int32))), (.int (nar .char (77 : Int32))), (.int (nar .char (65 : Int32))), (.int (0 : Int32)), (.int (0 : Int32)), (.int (0 : Int32)), (.int (0 : Int32)), (.int (0 : Int32))] (.int (0 : Int32)) := Arv.set Ar119 q119 S119 N119m H119 G119 (fits_nar_char _) W119 11 rfl (Nat.le_of_ble_eq_true rfl)
            have S_java_lang_String_COMPACT_STRINGS_119 := S_java_lang_String_COMPACT_STRINGS_116.wr W119
            have F_b80_coder_119 := F_b80_coder_116.other W119 (Or.inl ne_b80_b83)
            have F_b80_value_119 := F_b80_value_116.other W119 (Or.inl ne_b80_b83)
            have E_b80_119 := E_b80_116.wr W119
            have Zs120 := Nat.le_trans Zs117 (Keep.of_wr W119).1
            have hk121 := Nat.le_trans hk118 (Keep.of_wr W119).1
            have Kk119 := Kk116.wr W119 (Or.inr sz_b83)
            have N119 := Fr.snoc X119 N116 g_b83
            obtain ⟨cl122, Ar122, q122, S122, N122m, H122, G122⟩ := id V119_b83
            have hin122 : ¬ ((12 : Int32) < 0 ∨ cl122.slots.size ≤ ((12 : Int32)).toNatClampNeg) := inb_of S122 ⟨by decide, by decide⟩
            obtain ⟨T122, h122, X122, e122, W122, st122⟩ := stC X119 hx hZ e119 Ar122 (j := (12 : Int32)) hin122 (g := (mkF m 421 #[.val (.int p1), .val (.int p2), .val (.int p3), .val (.int p4), .unset] [(.int (84 : Int32)), (.int (12 : Int32)), (.ref b83), (.ref b83), (.ref b80), (.ref b80)])) rfl rfl (hb hby d1_421)
            have V122_b83 : Arv Z h122 b83 k83 .char (17 : Int32) [(.int (nar .char (67 : Int32))), (.int (nar .char (104 : Int32))), (.int (nar .char (97 : Int32))), (.int (nar .char (108 : Int32))), (.int (nar .char (108 : Int32))), (.int (nar .char (101 : Int32))), (.int (nar .char (110 : Int32))), (.int (nar .char (103 : Int32))), (.int (nar .char (101 : Int32))), (.int (nar .char (79 : Int32))), (.int (nar .char (77 : Int32))), (.int (nar .char (65 : Int32))), (.int (nar .char (84 : Int32))), (.int (0 : Int32)), (.int (0 : Int32)), (.int (0 : Int32)), (.int (0 : Int32))] (.int (0 : Int32)) := Arv.set Ar122 q122 S122 N122m H122 G122 (fits_nar_char _) W122 12 rfl (Nat.le_of_ble_eq_true rfl)
            have S_java_lang_String_COMPACT_STRINGS_122 := S_java_lang_String_COMPACT_STRINGS_119.wr W122
            have F_b80_coder_122 := F_b80_coder_119.other W122 (Or.inl ne_b80_b83)
            have F_b80_value_122 := F_b80_value_119.other W122 (Or.inl ne_b80_b83)
            have E_b80_122 := E_b80_119.wr W122
            have Zs123 := Nat.le_trans Zs120 (Keep.of_wr W122).1
            have hk124 := Nat.le_trans hk121 (Keep.of_wr W122).1
            have Kk122 := Kk119.wr W122 (Or.inr sz_b83)
            have N122 := Fr.snoc X122 N119 g_b83
            obtain ⟨cl125, Ar125, q125, S125, N125m, H125, G125⟩ := id V122_b83
            have hin125 : ¬ ((13 : Int32) < 0 ∨ cl125.slots.size ≤ ((13 : Int32)).toNatClampNeg) := inb_of S125 ⟨by decide, by decide⟩
            obtain ⟨T125, h125, X125, e125, W125, st125⟩ := stC X122 hx hZ e122 Ar125 (j := (13 : Int32)) hin125 (g := (mkF m 427 #[.val (.int p1), .val (.int p2), .val (.int p3), .val (.int p4), .unset] [(.int (79 : Int32)), (.int (13 : Int32)), (.ref b83), (.ref b83), (.ref b80), (.ref b80)])) rfl rfl (hb hby d1_427)
            have V125_b83 : Arv Z h125 b83 k83 .char (17 : Int32) [(.int (nar .char (67 : Int32))), (.int (nar .char (104 : Int32))), (.int (nar .char (97 : Int32))), (.int (nar .char (108 : Int32))), (.int (nar .char (108 : Int32))), (.int (nar .char (101 : Int32))), (.int (nar .char (110 : Int32))), (.int (nar .char (103 : Int32))), (.int (nar .char (101 : Int32))), (.int (nar .char (79 : Int32))), (.int (nar .char (77 : Int32))), (.int (nar .char (65 : Int32))), (.int (nar .char (84 : Int32))), (.int (nar .char (79 : Int32))), (.int (0 : Int32)), (.int (0 : Int32)), (.int (0 : Int32))] (.int (0 : Int32)) := Arv.set Ar125 q125 S125 N125m H125 G125 (fits_nar_char _) W125 13 rfl (Nat.le_of_ble_eq_true rfl)
            have S_java_lang_String_COMPACT_STRINGS_125 := S_java_lang_String_COMPACT_STRINGS_122.wr W125
            have F_b80_coder_125 := F_b80_coder_122.other W125 (Or.inl ne_b80_b83)
            have F_b80_value_125 := F_b80_value_122.other W125 (Or.inl ne_b80_b83)
            have E_b80_125 := E_b80_122.wr W125
            have Zs126 := Nat.le_trans Zs123 (Keep.of_wr W125).1
            have hk127 := Nat.le_trans hk124 (Keep.of_wr W125).1
            have Kk125 := Kk122.wr W125 (Or.inr sz_b83)
            have N125 := Fr.snoc X125 N122 g_b83
            obtain ⟨cl128, Ar128, q128, S128, N128m, H128, G128⟩ := id V125_b83
            have hin128 : ¬ ((14 : Int32) < 0 ∨ cl128.slots.size ≤ ((14 : Int32)).toNatClampNeg) := inb_of S128 ⟨by decide, by decide⟩
            obtain ⟨T128, h128, X128, e128, W128, st128⟩ := stC X125 hx hZ e125 Ar128 (j := (14 : Int32)) hin128 (g := (mkF m 433 #[.val (.int p1), .val (.int p2), .val (.int p3), .val (.int p4), .unset] [(.int (84 : Int32)), (.int (14 : Int32)), (.ref b83), (.ref b83), (.ref b80), (.ref b80)])) rfl rfl (hb hby d1_433)
            have V128_b83 : Arv Z h128 b83 k83 .char (17 : Int32) [(.int (nar .char (67 : Int32))), (.int (nar .char (104 : Int32))), (.int (nar .char (97 : Int32))), (.int (nar .char (108 : Int32))), (.int (nar .char (108 : Int32))), (.int (nar .char (101 : Int32))), (.int (nar .char (110 : Int32))), (.int (nar .char (103 : Int32))), (.int (nar .char (101 : Int32))), (.int (nar .char (79 : Int32))), (.int (nar .char (77 : Int32))), (.int (nar .char (65 : Int32))), (.int (nar .char (84 : Int32))), (.int (nar .char (79 : Int32))), (.int (nar .char (84 : Int32))), (.int (0 : Int32)), (.int (0 : Int32))] (.int (0 : Int32)) := Arv.set Ar128 q128 S128 N128m H128 G128 (fits_nar_char _) W128 14 rfl (Nat.le_of_ble_eq_true rfl)
            have S_java_lang_String_COMPACT_STRINGS_128 := S_java_lang_String_COMPACT_STRINGS_125.wr W128
            have F_b80_coder_128 := F_b80_coder_125.other W128 (Or.inl ne_b80_b83)
            have F_b80_value_128 := F_b80_value_125.other W128 (Or.inl ne_b80_b83)
            have E_b80_128 := E_b80_125.wr W128
            have Zs129 := Nat.le_trans Zs126 (Keep.of_wr W128).1
            have hk130 := Nat.le_trans hk127 (Keep.of_wr W128).1
            have Kk128 := Kk125.wr W128 (Or.inr sz_b83)
            have N128 := Fr.snoc X128 N125 g_b83
            obtain ⟨cl131, Ar131, q131, S131, N131m, H131, G131⟩ := id V128_b83
            have hin131 : ¬ ((15 : Int32) < 0 ∨ cl131.slots.size ≤ ((15 : Int32)).toNatClampNeg) := inb_of S131 ⟨by decide, by decide⟩
            obtain ⟨T131, h131, X131, e131, W131, st131⟩ := stC X128 hx hZ e128 Ar131 (j := (15 : Int32)) hin131 (g := (mkF m 439 #[.val (.int p1), .val (.int p2), .val (.int p3), .val (.int p4), .unset] [(.int (80 : Int32)), (.int (15 : Int32)), (.ref b83), (.ref b83), (.ref b80), (.ref b80)])) rfl rfl (hb hby d1_439)
            have V131_b83 : Arv Z h131 b83 k83 .char (17 : Int32) [(.int (nar .char (67 : Int32))), (.int (nar .char (104 : Int32))), (.int (nar .char (97 : Int32))), (.int (nar .char (108 : Int32))), (.int (nar .char (108 : Int32))), (.int (nar .char (101 : Int32))), (.int (nar .char (110 : Int32))), (.int (nar .char (103 : Int32))), (.int (nar .char (101 : Int32))), (.int (nar .char (79 : Int32))), (.int (nar .char (77 : Int32))), (.int (nar .char (65 : Int32))), (.int (nar .char (84 : Int32))), (.int (nar .char (79 : Int32))), (.int (nar .char (84 : Int32))), (.int (nar .char (80 : Int32))), (.int (0 : Int32))] (.int (0 : Int32)) := Arv.set Ar131 q131 S131 N131m H131 G131 (fits_nar_char _) W131 15 rfl (Nat.le_of_ble_eq_true rfl)
            have S_java_lang_String_COMPACT_STRINGS_131 := S_java_lang_String_COMPACT_STRINGS_128.wr W131
            have F_b80_coder_131 := F_b80_coder_128.other W131 (Or.inl ne_b80_b83)
            have F_b80_value_131 := F_b80_value_128.other W131 (Or.inl ne_b80_b83)
            have E_b80_131 := E_b80_128.wr W131
            have Zs132 := Nat.le_trans Zs129 (Keep.of_wr W131).1
            have hk133 := Nat.le_trans hk130 (Keep.of_wr W131).1
            have Kk131 := Kk128.wr W131 (Or.inr sz_b83)
            have N131 := Fr.snoc X131 N128 g_b83
            obtain ⟨cl134, Ar134, q134, S134, N134m, H134, G134⟩ := id V131_b83
            have hin134 : ¬ ((16 : Int32) < 0 ∨ cl134.slots.size ≤ ((16 : Int32)).toNatClampNeg) := inb_of S134 ⟨by decide, by decide⟩
            obtain ⟨T134, h134, X134, e134, W134, st134⟩ := stC X131 hx hZ e131 Ar134 (j := (16 : Int32)) hin134 (g := (mkF m 444 #[.val (.int p1), .val (.int p2), .val (.int p3), .val (.int p4), .unset] [(.int p4), (.int (16 : Int32)), (.ref b83), (.ref b83), (.ref b80), (.ref b80)])) rfl rfl (hb hby d1_444)
            have V134_b83 : Arv Z h134 b83 k83 .char (17 : Int32) [(.int (nar .char (67 : Int32))), (.int (nar .char (104 : Int32))), (.int (nar .char (97 : Int32))), (.int (nar .char (108 : Int32))), (.int (nar .char (108 : Int32))), (.int (nar .char (101 : Int32))), (.int (nar .char (110 : Int32))), (.int (nar .char (103 : Int32))), (.int (nar .char (101 : Int32))), (.int (nar .char (79 : Int32))), (.int (nar .char (77 : Int32))), (.int (nar .char (65 : Int32))), (.int (nar .char (84 : Int32))), (.int (nar .char (79 : Int32))), (.int (nar .char (84 : Int32))), (.int (nar .char (80 : Int32))), (.int (nar .char p4))] (.int (0 : Int32)) := Arv.set Ar134 q134 S134 N134m H134 G134 (fits_nar_char _) W134 16 rfl (Nat.le_of_ble_eq_true rfl)
            have S_java_lang_String_COMPACT_STRINGS_134 := S_java_lang_String_COMPACT_STRINGS_131.wr W134
            have F_b80_coder_134 := F_b80_coder_131.other W134 (Or.inl ne_b80_b83)
            have F_b80_value_134 := F_b80_value_131.other W134 (Or.inl ne_b80_b83)
            have E_b80_134 := E_b80_131.wr W134
            have Zs135 := Nat.le_trans Zs132 (Keep.of_wr W134).1
            have hk136 := Nat.le_trans hk133 (Keep.of_wr W134).1
            have Kk134 := Kk131.wr W134 (Or.inr sz_b83)
            have N134 := Fr.snoc X134 N131 g_b83
            have pre12 : ∀ t, Steps p.tables e below (T134.setTop (mkF m 445 #[.val (.int p1), .val (.int p2), .val (.int p3), .val (.int p4), .unset] [(.ref b83), (.ref b80), (.ref b80)])) t → Steps p.tables e below (s₁.setTop (entryFrame m #[(.int p1), (.int p2), (.int p3), (.int p4)] 5)) t := by
              intro t k
              refine pre11 t ?_
              show Steps p.tables e below (s₁.setTop (mkF m 342 #[.val (.int p1), .val (.int p2), .val (.int p3), .val (.int p4), .unset] [])) _
              refine st80 _ ?_
              show Steps p.tables e below (T80.setTop (mkF m 345 #[.val (.int p1), .val (.int p2), .val (.int p3), .val (.int p4), .unset] [(.ref b80)])) _
              refine XS.dup X80.here hx rfl (hb hby d1_345) rfl rfl ?_
              show Steps p.tables e below (T80.setTop (mkF m 346 #[.val (.int p1), .val (.int p2), .val (.int p3), .val (.int p4), .unset] [(.ref b80), (.ref b80)])) _
              refine XS.bipush X80.here hx rfl (hb hby d1_346) ?_
              show Steps p.tables e below (T80.setTop (mkF m 348 #[.val (.int p1), .val (.int p2), .val (.int p3), .val (.int p4), .unset] [(.int (17 : Int32)), (.ref b80), (.ref b80)])) _
              refine st83 _ ?_
              show Steps p.tables e below (T83.setTop (mkF m 350 #[.val (.int p1), .val (.int p2), .val (.int p3), .val (.int p4), .unset] [(.ref b83), (.ref b80), (.ref b80)])) _
              refine XS.dup X83.here hx rfl (hb hby d1_350) rfl rfl ?_
              show Steps p.tables e below (T83.setTop (mkF m 351 #[.val (.int p1), .val (.int p2), .val (.int p3), .val (.int p4), .unset] [(.ref b83), (.ref b83), (.ref b80), (.ref b80)])) _
              refine XS.iconst X83.here hx rfl (hb hby d1_351) ?_
              show Steps p.tables e below (T83.setTop (mkF m 352 #[.val (.int p1), .val (.int p2), .val (.int p3), .val (.int p4), .unset] [(.int (0 : Int32)), (.ref b83), (.ref b83), (.ref b80), (.ref b80)])) _
              refine XS.bipush X83.here hx rfl (hb hby d1_352) ?_
              show Steps p.tables e below (T83.setTop (mkF m 354 #[.val (.int p1), .val (.int p2), .val (.int p3), .val (.int p4), .unset] [(.int (67 : Int32)), (.int (0 : Int32)), (.ref b83), (.ref b83), (.ref b80), (.ref b80)])) _
              refine st86 _ ?_
              show Steps p.tables e below (T86.setTop (mkF m 355 #[.val (.int p1), .val (.int p2), .val (.int p3), .val (.int p4), .unset] [(.ref b83), (.ref b80), (.ref b80)])) _
              refine XS.dup X86.here hx rfl (hb hby d1_355) rfl rfl ?_
              show Steps p.tables e below (T86.setTop (mkF m 356 #[.val (.int p1), .val (.int p2), .val (.int p3), .val (.int p4), .unset] [(.ref b83), (.ref b83), (.ref b80), (.ref b80)])) _
              refine XS.iconst X86.here hx rfl (hb hby d1_356) ?_
              show Steps p.tables e below (T86.setTop (mkF m 357 #[.val (.int p1), .val (.int p2), .val (.int p3), .val (.int p4), .unset] [(.int (1 : Int32)), (.ref b83), (.ref b83), (.ref b80), (.ref b80)])) _
              refine XS.bipush X86.here hx rfl (hb hby d1_357) ?_
              show Steps p.tables e below (T86.setTop (mkF m 359 #[.val (.int p1), .val (.int p2), .val (.int p3), .val (.int p4), .unset] [(.int (104 : Int32)), (.int (1 : Int32)), (.ref b83), (.ref b83), (.ref b80), (.ref b80)])) _
              refine st89 _ ?_
              show Steps p.tables e below (T89.setTop (mkF m 360 #[.val (.int p1), .val (.int p2), .val (.int p3), .val (.int p4), .unset] [(.ref b83), (.ref b80), (.ref b80)])) _
              refine XS.dup X89.here hx rfl (hb hby d1_360) rfl rfl ?_
              show Steps p.tables e below (T89.setTop (mkF m 361 #[.val (.int p1), .val (.int p2), .val (.int p3), .val (.int p4), .unset] [(.ref b83), (.ref b83), (.ref b80), (.ref b80)])) _
              refine XS.iconst X89.here hx rfl (hb hby d1_361) ?_
              show Steps p.tables e below (T89.setTop (mkF m 362 #[.val (.int p1), .val (.int p2), .val (.int p3), .val (.int p4), .unset] [(.int (2 : Int32)), (.ref b83), (.ref b83), (.ref b80), (.ref b80)])) _
              refine XS.bipush X89.here hx rfl (hb hby d1_362) ?_
              show Steps p.tables e below (T89.setTop (mkF m 364 #[.val (.int p1), .val (.int p2), .val (.int p3), .val (.int p4), .unset] [(.int (97 : Int32)), (.int (2 : Int32)), (.ref b83), (.ref b83), (.ref b80), (.ref b80)])) _
              refine st92 _ ?_
              show Steps p.tables e below (T92.setTop (mkF m 365 #[.val (.int p1), .val (.int p2), .val (.int p3), .val (.int p4), .unset] [(.ref b83), (.ref b80), (.ref b80)])) _
              refine XS.dup X92.here hx rfl (hb hby d1_365) rfl rfl ?_
              show Steps p.tables e below (T92.setTop (mkF m 366 #[.val (.int p1), .val (.int p2), .val (.int p3), .val (.int p4), .unset] [(.ref b83), (.ref b83), (.ref b80), (.ref b80)])) _
              refine XS.iconst X92.here hx rfl (hb hby d1_366) ?_
              show Steps p.tables e below (T92.setTop (mkF m 367 #[.val (.int p1), .val (.int p2), .val (.int p3), .val (.int p4), .unset] [(.int (3 : Int32)), (.ref b83), (.ref b83), (.ref b80), (.ref b80)])) _
              refine XS.bipush X92.here hx rfl (hb hby d1_367) ?_
              show Steps p.tables e below (T92.setTop (mkF m 369 #[.val (.int p1), .val (.int p2), .val (.int p3), .val (.int p4), .unset] [(.int (108 : Int32)), (.int (3 : Int32)), (.ref b83), (.ref b83), (.ref b80), (.ref b80)])) _
              refine st95 _ ?_
              show Steps p.tables e below (T95.setTop (mkF m 370 #[.val (.int p1), .val (.int p2), .val (.int p3), .val (.int p4), .unset] [(.ref b83), (.ref b80), (.ref b80)])) _
              refine XS.dup X95.here hx rfl (hb hby d1_370) rfl rfl ?_
              show Steps p.tables e below (T95.setTop (mkF m 371 #[.val (.int p1), .val (.int p2), .val (.int p3), .val (.int p4), .unset] [(.ref b83), (.ref b83), (.ref b80), (.ref b80)])) _
              refine XS.iconst X95.here hx rfl (hb hby d1_371) ?_
              show Steps p.tables e below (T95.setTop (mkF m 372 #[.val (.int p1), .val (.int p2), .val (.int p3), .val (.int p4), .unset] [(.int (4 : Int32)), (.ref b83), (.ref b83), (.ref b80), (.ref b80)])) _
              refine XS.bipush X95.here hx rfl (hb hby d1_372) ?_
              show Steps p.tables e below (T95.setTop (mkF m 374 #[.val (.int p1), .val (.int p2), .val (.int p3), .val (.int p4), .unset] [(.int (108 : Int32)), (.int (4 : Int32)), (.ref b83), (.ref b83), (.ref b80), (.ref b80)])) _
              refine st98 _ ?_
              show Steps p.tables e below (T98.setTop (mkF m 375 #[.val (.int p1), .val (.int p2), .val (.int p3), .val (.int p4), .unset] [(.ref b83), (.ref b80), (.ref b80)])) _
              refine XS.dup X98.here hx rfl (hb hby d1_375) rfl rfl ?_
              show Steps p.tables e below (T98.setTop (mkF m 376 #[.val (.int p1), .val (.int p2), .val (.int p3), .val (.int p4), .unset] [(.ref b83), (.ref b83), (.ref b80), (.ref b80)])) _
              refine XS.iconst X98.here hx rfl (hb hby d1_376) ?_
              show Steps p.tables e below (T98.setTop (mkF m 377 #[.val (.int p1), .val (.int p2), .val (.int p3), .val (.int p4), .unset] [(.int (5 : Int32)), (.ref b83), (.ref b83), (.ref b80), (.ref b80)])) _
              refine XS.bipush X98.here hx rfl (hb hby d1_377) ?_
              show Steps p.tables e below (T98.setTop (mkF m 379 #[.val (.int p1), .val (.int p2), .val (.int p3), .val (.int p4), .unset] [(.int (101 : Int32)), (.int (5 : Int32)), (.ref b83), (.ref b83), (.ref b80), (.ref b80)])) _
              refine st101 _ ?_
              show Steps p.tables e below (T101.setTop (mkF m 380 #[.val (.int p1), .val (.int p2), .val (.int p3), .val (.int p4), .unset] [(.ref b83), (.ref b80), (.ref b80)])) _
              refine XS.dup X101.here hx rfl (hb hby d1_380) rfl rfl ?_
              show Steps p.tables e below (T101.setTop (mkF m 381 #[.val (.int p1), .val (.int p2), .val (.int p3), .val (.int p4), .unset] [(.ref b83), (.ref b83), (.ref b80), (.ref b80)])) _
              refine XS.bipush X101.here hx rfl (hb hby d1_381) ?_
              show Steps p.tables e below (T101.setTop (mkF m 383 #[.val (.int p1), .val (.int p2), .val (.int p3), .val (.int p4), .unset] [(.int (6 : Int32)), (.ref b83), (.ref b83), (.ref b80), (.ref b80)])) _
              refine XS.bipush X101.here hx rfl (hb hby d1_383) ?_
              show Steps p.tables e below (T101.setTop (mkF m 385 #[.val (.int p1), .val (.int p2), .val (.int p3), .val (.int p4), .unset] [(.int (110 : Int32)), (.int (6 : Int32)), (.ref b83), (.ref b83), (.ref b80), (.ref b80)])) _
              refine st104 _ ?_
              show Steps p.tables e below (T104.setTop (mkF m 386 #[.val (.int p1), .val (.int p2), .val (.int p3), .val (.int p4), .unset] [(.ref b83), (.ref b80), (.ref b80)])) _
              refine XS.dup X104.here hx rfl (hb hby d1_386) rfl rfl ?_
              show Steps p.tables e below (T104.setTop (mkF m 387 #[.val (.int p1), .val (.int p2), .val (.int p3), .val (.int p4), .unset] [(.ref b83), (.ref b83), (.ref b80), (.ref b80)])) _
              refine XS.bipush X104.here hx rfl (hb hby d1_387) ?_
              show Steps p.tables e below (T104.setTop (mkF m 389 #[.val (.int p1), .val (.int p2), .val (.int p3), .val (.int p4), .unset] [(.int (7 : Int32)), (.ref b83), (.ref b83), (.ref b80), (.ref b80)])) _
              refine XS.bipush X104.here hx rfl (hb hby d1_389) ?_
              show Steps p.tables e below (T104.setTop (mkF m 391 #[.val (.int p1), .val (.int p2), .val (.int p3), .val (.int p4), .unset] [(.int (103 : Int32)), (.int (7 : Int32)), (.ref b83), (.ref b83), (.ref b80), (.ref b80)])) _
              refine st107 _ ?_
              show Steps p.tables e below (T107.setTop (mkF m 392 #[.val (.int p1), .val (.int p2), .val (.int p3), .val (.int p4), .unset] [(.ref b83), (.ref b80), (.ref b80)])) _
              refine XS.dup X107.here hx rfl (hb hby d1_392) rfl rfl ?_
              show Steps p.tables e below (T107.setTop (mkF m 393 #[.val (.int p1), .val (.int p2), .val (.int p3), .val (.int p4), .unset] [(.ref b83), (.ref b83), (.ref b80), (.ref b80)])) _
              refine XS.bipush X107.here hx rfl (hb hby d1_393) ?_
              show Steps p.tables e below (T107.setTop (mkF m 395 #[.val (.int p1), .val (.int p2), .val (.int p3), .val (.int p4), .unset] [(.int (8 : Int32)), (.ref b83), (.ref b83), (.ref b80), (.ref b80)])) _
              refine XS.bipush X107.here hx rfl (hb hby d1_395) ?_
              show Steps p.tables e below (T107.setTop (mkF m 397 #[.val (.int p1), .val (.int p2), .val (.int p3), .val (.int p4), .unset] [(.int (101 : Int32)), (.int (8 : Int32)), (.ref b83), (.ref b83), (.ref b80), (.ref b80)])) _
              refine st110 _ ?_
              show Steps p.tables e below (T110.setTop (mkF m 398 #[.val (.int p1), .val (.int p2), .val (.int p3), .val (.int p4), .unset] [(.ref b83), (.ref b80), (.ref b80)])) _
              refine XS.dup X110.here hx rfl (hb hby d1_398) rfl rfl ?_
              show Steps p.tables e below (T110.setTop (mkF m 399 #[.val (.int p1), .val (.int p2), .val (.int p3), .val (.int p4), .unset] [(.ref b83), (.ref b83), (.ref b80), (.ref b80)])) _
              refine XS.bipush X110.here hx rfl (hb hby d1_399) ?_
              show Steps p.tables e below (T110.setTop (mkF m 401 #[.val (.int p1), .val (.int p2), .val (.int p3), .val (.int p4), .unset] [(.int (9 : Int32)), (.ref b83), (.ref b83), (.ref b80), (.ref b80)])) _
              refine XS.bipush X110.here hx rfl (hb hby d1_401) ?_
              show Steps p.tables e below (T110.setTop (mkF m 403 #[.val (.int p1), .val (.int p2), .val (.int p3), .val (.int p4), .unset] [(.int (79 : Int32)), (.int (9 : Int32)), (.ref b83), (.ref b83), (.ref b80), (.ref b80)])) _
              refine st113 _ ?_
              show Steps p.tables e below (T113.setTop (mkF m 404 #[.val (.int p1), .val (.int p2), .val (.int p3), .val (.int p4), .unset] [(.ref b83), (.ref b80), (.ref b80)])) _
              refine XS.dup X113.here hx rfl (hb hby d1_404) rfl rfl ?_
              show Steps p.tables e below (T113.setTop (mkF m 405 #[.val (.int p1), .val (.int p2), .val (.int p3), .val (.int p4), .unset] [(.ref b83), (.ref b83), (.ref b80), (.ref b80)])) _
              refine XS.bipush X113.here hx rfl (hb hby d1_405) ?_
              show Steps p.tables e below (T113.setTop (mkF m 407 #[.val (.int p1), .val (.int p2), .val (.int p3), .val (.int p4), .unset] [(.int (10 : Int32)), (.ref b83), (.ref b83), (.ref b80), (.ref b80)])) _
              refine XS.bipush X113.here hx rfl (hb hby d1_407) ?_
              show Steps p.tables e below (T113.setTop (mkF m 409 #[.val (.int p1), .val (.int p2), .val (.int p3), .val (.int p4), .unset] [(.int (77 : Int32)), (.int (10 : Int32)), (.ref b83), (.ref b83), (.ref b80), (.ref b80)])) _
              refine st116 _ ?_
              show Steps p.tables e below (T116.setTop (mkF m 410 #[.val (.int p1), .val (.int p2), .val (.int p3), .val (.int p4), .unset] [(.ref b83), (.ref b80), (.ref b80)])) _
              refine XS.dup X116.here hx rfl (hb hby d1_410) rfl rfl ?_
              show Steps p.tables e below (T116.setTop (mkF m 411 #[.val (.int p1), .val (.int p2), .val (.int p3), .val (.int p4), .unset] [(.ref b83), (.ref b83), (.ref b80), (.ref b80)])) _
              refine XS.bipush X116.here hx rfl (hb hby d1_411) ?_
              show Steps p.tables e below (T116.setTop (mkF m 413 #[.val (.int p1), .val (.int p2), .val (.int p3), .val (.int p4), .unset] [(.int (11 : Int32)), (.ref b83), (.ref b83), (.ref b80), (.ref b80)])) _
              refine XS.bipush X116.here hx rfl (hb hby d1_413) ?_
              show Steps p.tables e below (T116.setTop (mkF m 415 #[.val (.int p1), .val (.int p2), .val (.int p3), .val (.int p4), .unset] [(.int (65 : Int32)), (.int (11 : Int32)), (.ref b83), (.ref b83), (.ref b80), (.ref b80)])) _
              refine st119 _ ?_
              show Steps p.tables e below (T119.setTop (mkF m 416 #[.val (.int p1), .val (.int p2), .val (.int p3), .val (.int p4), .unset] [(.ref b83), (.ref b80), (.ref b80)])) _
              refine XS.dup X119.here hx rfl (hb hby d1_416) rfl rfl ?_
              show Steps p.tables e below (T119.setTop (mkF m 417 #[.val (.int p1), .val (.int p2), .val (.int p3), .val (.int p4), .unset] [(.ref b83), (.ref b83), (.ref b80), (.ref b80)])) _
              refine XS.bipush X119.here hx rfl (hb hby d1_417) ?_
              show Steps p.tables e below (T119.setTop (mkF m 419 #[.val (.int p1), .val (.int p2), .val (.int p3), .val (.int p4), .unset] [(.int (12 : Int32)), (.ref b83), (.ref b83), (.ref b80), (.ref b80)])) _
              refine XS.bipush X119.here hx rfl (hb hby d1_419) ?_
              show Steps p.tables e below (T119.setTop (mkF m 421 #[.val (.int p1), .val (.int p2), .val (.int p3), .val (.int p4), .unset] [(.int (84 : Int32)), (.int (12 : Int32)), (.ref b83), (.ref b83), (.ref b80), (.ref b80)])) _
              refine st122 _ ?_
              show Steps p.tables e below (T122.setTop (mkF m 422 #[.val (.int p1), .val (.int p2), .val (.int p3), .val (.int p4), .unset] [(.ref b83), (.ref b80), (.ref b80)])) _
              refine XS.dup X122.here hx rfl (hb hby d1_422) rfl rfl ?_
              show Steps p.tables e below (T122.setTop (mkF m 423 #[.val (.int p1), .val (.int p2), .val (.int p3), .val (.int p4), .unset] [(.ref b83), (.ref b83), (.ref b80), (.ref b80)])) _
              refine XS.bipush X122.here hx rfl (hb hby d1_423) ?_
              show Steps p.tables e below (T122.setTop (mkF m 425 #[.val (.int p1), .val (.int p2), .val (.int p3), .val (.int p4), .unset] [(.int (13 : Int32)), (.ref b83), (.ref b83), (.ref b80), (.ref b80)])) _
              refine XS.bipush X122.here hx rfl (hb hby d1_425) ?_
              show Steps p.tables e below (T122.setTop (mkF m 427 #[.val (.int p1), .val (.int p2), .val (.int p3), .val (.int p4), .unset] [(.int (79 : Int32)), (.int (13 : Int32)), (.ref b83), (.ref b83), (.ref b80), (.ref b80)])) _
              refine st125 _ ?_
              show Steps p.tables e below (T125.setTop (mkF m 428 #[.val (.int p1), .val (.int p2), .val (.int p3), .val (.int p4), .unset] [(.ref b83), (.ref b80), (.ref b80)])) _
              refine XS.dup X125.here hx rfl (hb hby d1_428) rfl rfl ?_
              show Steps p.tables e below (T125.setTop (mkF m 429 #[.val (.int p1), .val (.int p2), .val (.int p3), .val (.int p4), .unset] [(.ref b83), (.ref b83), (.ref b80), (.ref b80)])) _
              refine XS.bipush X125.here hx rfl (hb hby d1_429) ?_
              show Steps p.tables e below (T125.setTop (mkF m 431 #[.val (.int p1), .val (.int p2), .val (.int p3), .val (.int p4), .unset] [(.int (14 : Int32)), (.ref b83), (.ref b83), (.ref b80), (.ref b80)])) _
              refine XS.bipush X125.here hx rfl (hb hby d1_431) ?_
              show Steps p.tables e below (T125.setTop (mkF m 433 #[.val (.int p1), .val (.int p2), .val (.int p3), .val (.int p4), .unset] [(.int (84 : Int32)), (.int (14 : Int32)), (.ref b83), (.ref b83), (.ref b80), (.ref b80)])) _
              refine st128 _ ?_
              show Steps p.tables e below (T128.setTop (mkF m 434 #[.val (.int p1), .val (.int p2), .val (.int p3), .val (.int p4), .unset] [(.ref b83), (.ref b80), (.ref b80)])) _
              refine XS.dup X128.here hx rfl (hb hby d1_434) rfl rfl ?_
              show Steps p.tables e below (T128.setTop (mkF m 435 #[.val (.int p1), .val (.int p2), .val (.int p3), .val (.int p4), .unset] [(.ref b83), (.ref b83), (.ref b80), (.ref b80)])) _
              refine XS.bipush X128.here hx rfl (hb hby d1_435) ?_
              show Steps p.tables e below (T128.setTop (mkF m 437 #[.val (.int p1), .val (.int p2), .val (.int p3), .val (.int p4), .unset] [(.int (15 : Int32)), (.ref b83), (.ref b83), (.ref b80), (.ref b80)])) _
              refine XS.bipush X128.here hx rfl (hb hby d1_437) ?_
              show Steps p.tables e below (T128.setTop (mkF m 439 #[.val (.int p1), .val (.int p2), .val (.int p3), .val (.int p4), .unset] [(.int (80 : Int32)), (.int (15 : Int32)), (.ref b83), (.ref b83), (.ref b80), (.ref b80)])) _
              refine st131 _ ?_
              show Steps p.tables e below (T131.setTop (mkF m 440 #[.val (.int p1), .val (.int p2), .val (.int p3), .val (.int p4), .unset] [(.ref b83), (.ref b80), (.ref b80)])) _
              refine XS.dup X131.here hx rfl (hb hby d1_440) rfl rfl ?_
              show Steps p.tables e below (T131.setTop (mkF m 441 #[.val (.int p1), .val (.int p2), .val (.int p3), .val (.int p4), .unset] [(.ref b83), (.ref b83), (.ref b80), (.ref b80)])) _
              refine XS.bipush X131.here hx rfl (hb hby d1_441) ?_
              show Steps p.tables e below (T131.setTop (mkF m 443 #[.val (.int p1), .val (.int p2), .val (.int p3), .val (.int p4), .unset] [(.int (16 : Int32)), (.ref b83), (.ref b83), (.ref b80), (.ref b80)])) _
              refine XS.iloadN X131.here hx rfl (hb hby d1_443) rfl ?_
              show Steps p.tables e below (T131.setTop (mkF m 444 #[.val (.int p1), .val (.int p2), .val (.int p3), .val (.int p4), .unset] [(.int p4), (.int (16 : Int32)), (.ref b83), (.ref b83), (.ref b80), (.ref b80)])) _
              refine st134 _ ?_
              exact k
            obtain ⟨lq137, X137, N137⟩ : ∃ lq, Stand p l e ({ frames := 5, cells := 3, slots := 64, locals := 90 } : Room) (s.setVm s.vm) m #[(.int p1), (.int p2), (.int p3), (.int p4)] below meth c T134 lq 2 21 ∧ Fr n0 lq := ⟨_, X134, N134⟩
            obtain ⟨_, _, ⟨T138, L138, k138, n138⟩, -, X138, ⟨Lc138, hQ138, l138, y138, z138⟩, st138⟩ := X137.specialBack hx (y := (⟨"java/lang/String", "<init>", "([C)V"⟩ : MethodName)) rfl hown (mvT hZ (hw _ (List.mem_of_getElem? (i := 11) rfl))) (mvT hZ (hw _ (List.mem_of_getElem? (i := 12) rfl))) (mvT hZ (hw _ (List.mem_of_getElem? (i := 13) rfl))) (by decide) (StrChars.Road.backV (W := 1) hZ hws (kI := 4) (hw _ (List.mem_of_getElem? (i := 5) rfl)) (cs := ([nar .char (67 : Int32), nar .char (104 : Int32), nar .char (97 : Int32), nar .char (108 : Int32), nar .char (108 : Int32), nar .char (101 : Int32), nar .char (110 : Int32), nar .char (103 : Int32), nar .char (101 : Int32), nar .char (79 : Int32), nar .char (77 : Int32), nar .char (65 : Int32), nar .char (84 : Int32), nar .char (79 : Int32), nar .char (84 : Int32), nar .char (80 : Int32), nar .char p4] : List Int32)) (bs := (([nar .char (67 : Int32), nar .char (104 : Int32), nar .char (97 : Int32), nar .char (108 : Int32), nar .char (108 : Int32), nar .char (101 : Int32), nar .char (110 : Int32), nar .char (103 : Int32), nar .char (101 : Int32), nar .char (79 : Int32), nar .char (77 : Int32), nar .char (65 : Int32), nar .char (84 : Int32), nar .char (79 : Int32), nar .char (84 : Int32), nar .char (80 : Int32), nar .char p4] : List Int32)).map (fun c => c.toInt8.toInt32)) (n := 17) g_b80 Zs135 E_b80_134 F_b80_value_134 F_b80_coder_134 V134_b83 S_java_lang_String_COMPACT_STRINGS_134 P5 rfl rfl (by decide) (by decide) hp rfl (by decide) (by decide)) (g := (mkF m 445 #[.val (.int p1), .val (.int p2), .val (.int p3), .val (.int p4), .unset] [(.ref b83), (.ref b80), (.ref b80)])) rfl (by rw [hml]; rfl) (Steps.refl _) (a := b80) (argsL := [(.ref b83)]) (rest := [(.ref b80)]) (lenOf pd_5 rfl) rfl (by show 2 * 0 + _ ≤ _; exact Nat.le_of_eq rfl) (hb hby d1_445) (fun _ _ => ⟨rfl, e134, (by decide : 2 + 1 ≤ _), (by decide : 21 + 17 ≤ _)⟩)
            dsimp only [Pt.U, Pt.locs, Pt.cells, Pt.slots] at X138 l138 y138 z138 st138 hQ138
            subst l138 y138 z138
            obtain ⟨rfl, N138q, K138q, E138q, Fc138q, ta138, kb138, u1138, u2138, u3138, Fv138q, Vv138q⟩ := hQ138
            have N138 := Fr.app N137 N138q
            have E_b80_138 := E_b80_134.keep K138q
            have Zs139 := Nat.le_trans Zs135 K138q.1
            have hk140 := Nat.le_trans hk136 K138q.1
            have Kk138 := Kk134.trans K138q (allS (Or.inr sz_b80) all0)
            obtain ⟨fs, hr, hrun, hended, hEnd⟩ := Stand.leaveW (s := s) (vm₁ := s.vm) X138 hS0 (by exact hk140) (v := some (.ref b80)) (fun h => by rw [Bd.returns] at h; cases h)
            refine ⟨_, _, pre12 _ ?_, hrun, hended, _, _, rfl, ?_, ?_, hEnd.1, hEnd.2.1, hEnd.2.2.1, hEnd.2.2.2.mono (by decide) (by decide)⟩
            · show Steps p.tables e below (T134.setTop (mkF m 445 #[.val (.int p1), .val (.int p2), .val (.int p3), .val (.int p4), .unset] [(.ref b83), (.ref b80), (.ref b80)])) _
              refine st138.trans ?_
              show Steps p.tables e below (T138.setTop (mkF m 448 #[.val (.int p1), .val (.int p2), .val (.int p3), .val (.int p4), .unset] [(.ref b80)])) _
              exact retOut X138 hx Bd.returns rfl (Or.inr (Or.inr (Or.inr (Or.inr ⟨rfl, rfl, rfl⟩)))) (hb hby d1_448) hr
            · show Q1 Z p1 p2 p3 p4 G1 h0 n0 _ T138.heap _
              exact ⟨_, ([nar .char (67 : Int32), nar .char (104 : Int32), nar .char (97 : Int32), nar .char (108 : Int32), nar .char (108 : Int32), nar .char (101 : Int32), nar .char (110 : Int32), nar .char (103 : Int32), nar .char (101 : Int32), nar .char (79 : Int32), nar .char (77 : Int32), nar .char (65 : Int32), nar .char (84 : Int32), nar .char (79 : Int32), nar .char (84 : Int32), nar .char (80 : Int32), nar .char p4] : List Int32), rfl, N138, Kk138, ta138, kb138, 17, E138q, Fv138q, Fc138q, Vv138q, hp, rfl, by decide⟩
            · show CHr Z consts_1 s.vm s.heap T138.vm T138.heap
              rw [hh]
              exact CHr.trans (CHr.keep Kk138 sf0 HC) (CHv.at (s := s) (vm0 := s.vm) X138 hZ hEL (CHv.keep Kk138 sf0 HC))
          · skip
            have pre13 : ∀ t, Steps p.tables e below (s₁.setTop (mkF m 449 #[.val (.int p1), .val (.int p2), .val (.int p3), .val (.int p4), .unset] [])) t → Steps p.tables e below (s₁.setTop (entryFrame m #[(.int p1), (.int p2), (.int p3), (.int p4)] 5)) t := by
              intro t k
              refine pre10 t ?_
              show Steps p.tables e below (s₁.setTop (mkF m 238 #[.val (.int p1), .val (.int p2), .val (.int p3), .val (.int p4), .unset] [])) _
              refine XS.iloadN X0.here hx rfl (hb hby d1_238) rfl ?_
              show Steps p.tables e below (s₁.setTop (mkF m 239 #[.val (.int p1), .val (.int p2), .val (.int p3), .val (.int p4), .unset] [(.int p2)])) _
              refine XS.iconst X0.here hx rfl (hb hby d1_239) ?_
              show Steps p.tables e below (s₁.setTop (mkF m 240 #[.val (.int p1), .val (.int p2), .val (.int p3), .val (.int p4), .unset] [(.int (3 : Int32)), (.int p2)])) _
              refine XS.icmpYes X0.here hx rfl (pc0 := 240) (pc' := 449) rfl (hb hby d1_240) rfl (feq k3).2 (by decide) (by decide) ?_
              exact k
            by_cases k4 : p2 = 4
            · skip
              have hp : ∀ c ∈ ([nar .char p4, nar .char (67 : Int32), nar .char (104 : Int32), nar .char (97 : Int32), nar .char (108 : Int32), nar .char (108 : Int32), nar .char (101 : Int32), nar .char (110 : Int32), nar .char (103 : Int32), nar .char (101 : Int32), nar .char (79 : Int32), nar .char (77 : Int32), nar .char (65 : Int32), nar .char (84 : Int32), nar .char (79 : Int32), nar .char (84 : Int32), nar .char (80 : Int32)] : List Int32), ¬ c < 0 ∧ ¬ (255 : Int32) < c := (own_cc hcb (own_cc (by decide +kernel) (own_cc (by decide +kernel) (own_cc (by decide +kernel) (own_cc (by decide +kernel) (own_cc (by decide +kernel) (own_cc (by decide +kernel) (own_cc (by decide +kernel) (own_cc (by decide +kernel) (own_cc (by decide +kernel) (own_cc (by decide +kernel) (own_cc (by decide +kernel) (own_cc (by decide +kernel) (own_cc (by decide +kernel) (own_cc (by decide +kernel) (own_cc (by decide +kernel) (own_cc (by decide +kernel) own_cn)))))))))))))))))
              have pre14 : ∀ t, Steps p.tables e below (s₁.setTop (mkF m 553 #[.val (.int p1), .val (.int p2), .val (.int p3), .val (.int p4), .unset] [])) t → Steps p.tables e below (s₁.setTop (entryFrame m #[(.int p1), (.int p2), (.int p3), (.int p4)] 5)) t := by
                intro t k
                refine pre13 t ?_
                show Steps p.tables e below (s₁.setTop (mkF m 449 #[.val (.int p1), .val (.int p2), .val (.int p3), .val (.int p4), .unset] [])) _
                refine XS.iloadN X0.here hx rfl (hb hby d1_449) rfl ?_
                show Steps p.tables e below (s₁.setTop (mkF m 450 #[.val (.int p1), .val (.int p2), .val (.int p3), .val (.int p4), .unset] [(.int p2)])) _
                refine XS.iconst X0.here hx rfl (hb hby d1_450) ?_
                show Steps p.tables e below (s₁.setTop (mkF m 451 #[.val (.int p1), .val (.int p2), .val (.int p3), .val (.int p4), .unset] [(.int (4 : Int32)), (.int p2)])) _
                refine XS.icmpNo X0.here hx rfl (hb hby d1_451) rfl (teq k4).2 ?_
                show Steps p.tables e below (s₁.setTop (mkF m 454 #[.val (.int p1), .val (.int p2), .val (.int p3), .val (.int p4), .unset] [])) _
                refine XS.iloadN X0.here hx rfl (hb hby d1_454) rfl ?_
                show Steps p.tables e below (s₁.setTop (mkF m 455 #[.val (.int p1), .val (.int p2), .val (.int p3), .val (.int p4), .unset] [(.int p1)])) _
                refine XS.ifYes X0.here hx rfl (pc0 := 455) (pc' := 553) rfl (hb hby d1_455) rfl ((if0 _ _).trans (teq ce).1) (by decide) (by decide) ?_
                exact k
              obtain ⟨T141, h141, X141, e141, E141, A141, D141, -, st141⟩ := newO X0 hx hZ hown (hw _ (List.mem_of_getElem? (i := 4) rfl)) (hw _ (List.mem_of_getElem? (i := 5) rfl)) (hw _ (List.mem_of_getElem? (i := 6) rfl)) e0 (g := (mkF m 553 #[.val (.int p1), .val (.int p2), .val (.int p3), .val (.int p4), .unset] [])) rfl (hb hby d1_553) (by decide) (by decide)
              obtain ⟨b141, g141⟩ : ∃ z, z = h0.size := ⟨_, rfl⟩
              rw [← g141] at A141 D141 st141
              have g_b141 : n0 ≤ b141 := Nat.le_trans Z0 (Nat.le_of_eq g141.symm)
              have sz_b141 := Nat.le_trans KK0.1 (Nat.le_of_eq g141.symm)
              have S_java_lang_String_COMPACT_STRINGS_141 := S1.ext E141
              have Zs142 := Nat.le_trans Z0 E141.1
              have hk143 := Nat.le_trans hk0 E141.1
              have Kk141 := KK0.ext E141
              have F_coder_b141 : Fld Z h141 b141 "java/lang/String" "coder" "B" (.int (0 : Int32)) := D141 (Or.inr (hw _ (List.mem_of_getElem? (i := 34) rfl))) (ty := .byte) (by decide)
              have F_value_b141 : Fld Z h141 b141 "java/lang/String" "value" "[B" .null := D141 (Or.inr (hw _ (List.mem_of_getElem? (i := 36) rfl))) (ty := (.array .byte)) (by decide)
              obtain ⟨T144, h144, k144, X144, e144, E144, A144, st144⟩ := newP X141 hx hZ (hw _ (List.mem_of_getElem? (i := 10) rfl)) e141 (g := (mkF m 559 #[.val (.int p1), .val (.int p2), .val (.int p3), .val (.int p4), .unset] [(.int (17 : Int32)), (.ref b141), (.ref b141)])) rfl (hb hby d1_559) rfl (by decide) (cap := 17) (by decide) (by decide) (by decide) (by decide)
              obtain ⟨b144, g144⟩ : ∃ z, z = h141.size := ⟨_, rfl⟩
              rw [← g144] at A144 st144
              have ne_b141_b144 : b141 ≠ b144 := Nat.ne_of_lt (Nat.lt_of_lt_of_le F_coder_b141.lt (Nat.le_of_eq g144.symm))
              have g_b144 : n0 ≤ b144 := Nat.le_trans Zs142 (Nat.le_of_eq g144.symm)
              have sz_b144 := Nat.le_trans Kk141.1 (Nat.le_of_eq g144.symm)
              have S_java_lang_String_COMPACT_STRINGS_144 := S_java_lang_String_COMPACT_STRINGS_141.ext E144
              have F_b141_coder_144 := F_coder_b141.ext E144
              have F_b141_value_144 := F_value_b141.ext E144
              have E_b141_144 := A141.ext E144
              have Zs145 := Nat.le_trans Zs142 E144.1
              have hk146 := Nat.le_trans hk143 E144.1
              have Kk144 := Kk141.ext E144
              have V_b144 : Arv Z h144 b144 k144 .char (17 : Int32) [(.int (0 : Int32)), (.int (0 : Int32)), (.int (0 : Int32)), (.int (0 : Int32)), (.int (0 : Int32)), (.int (0 : Int32)), (.int (0 : Int32)), (.int (0 : Int32)), (.int (0 : Int32)), (.int (0 : Int32)), (.int (0 : Int32)), (.int (0 : Int32)), (.int (0 : Int32)), (.int (0 : Int32)), (.int (0 : Int32)), (.int (0 : Int32)), (.int (0 : Int32))] (.int (0 : Int32)) := (Arv.new A144 (by decide)).pad (pad_rep [] (.int (0 : Int32)) 17)
              obtain ⟨cl147, Ar147, q147, S147, N147m, H147, G147⟩ := id V_b144
              have hin147 : ¬ ((0 : Int32) < 0 ∨ cl147.slots.size ≤ ((0 : Int32)).toNatClampNeg) := inb_of S147 ⟨by decide, by decide⟩
              obtain ⟨T147, h147, X147, e147, W147, st147⟩ := stC X144 hx hZ e144 Ar147 (j := (0 : Int32)) hin147 (g := (mkF m 564 #[.val (.int p1), .val (.int p2), .val (.int p3), .val (.int p4), .unset] [(.int p4), (.int (0 : Int32)), (.ref b144), (.ref b144), (.ref b141), (.ref b141)])) rfl rfl (hb hby d1_564)
              have V147_b144 : Arv Z h147 b144 k144 .char (17 : Int32) [(.int (nar .char p4)), (.int (0 : Int32)), (.int (0 : Int32)), (.int (0 : Int32)), (.int (0 : Int32)), (.int (0 : Int32)), (.int (0 : Int32)), (.int (0 : Int32)), (.int (0 : Int32)), (.int (0 : Int32)), (.int (0 : Int32)), (.int (0 : Int32)), (.int (0 : Int32)), (.int (0 : Int32)), (.int (0 : Int32)), (.int (0 : Int32)), (.int (0 : Int32))] (.int (0 : Int32)) := Arv.set Ar147 q147 S147 N147m H147 G147 (fits_nar_char _) W147 0 rfl (Nat.le_of_ble_eq_true rfl)
              have S_java_lang_String_COMPACT_STRINGS_147 := S_java_lang_String_COMPACT_STRINGS_144.wr W147
              have F_b141_coder_147 := F_b141_coder_144.other W147 (Or.inl ne_b141_b144)
              have F_b141_value_147 := F_b141_value_144.other W147 (Or.inl ne_b141_b144)
              have E_b141_147 := E_b141_144.wr W147
              have Zs148 := Nat.le_trans Zs145 (Keep.of_wr W147).1
              have hk149 := Nat.le_trans hk146 (Keep.of_wr W147).1
              have Kk147 := Kk144.wr W147 (Or.inr sz_b144)
              have N147 := Fr.snoc X147 N0 g_b144
              obtain ⟨cl150, Ar150, q150, S150, N150m, H150, G150⟩ := id V147_b144
              have hin150 : ¬ ((1 : Int32) < 0 ∨ cl150.slots.size ≤ ((1 : Int32)).toNatClampNeg) := inb_of S150 ⟨by decide, by decide⟩
              obtain ⟨T150, h150, X150, e150, W150, st150⟩ := stC X147 hx hZ e147 Ar150 (j := (1 : Int32)) hin150 (g := (mkF m 569 #[.val (.int p1), .val (.int p2), .val (.int p3), .val (.int p4), .unset] [(.int (67 : Int32)), (.int (1 : Int32)), (.ref b144), (.ref b144), (.ref b141), (.ref b141)])) rfl rfl (hb hby d1_569)
              have V150_b144 : Arv Z h150 b144 k144 .char (17 : Int32) [(.int (nar .char p4)), (.int (nar .char (67 : Int32))), (.int (0 : Int32)), (.int (0 : Int32)), (.int (0 : Int32)), (.int (0 : Int32)), (.int (0 : Int32)), (.int (0 : Int32)), (.int (0 : Int32)), (.int (0 : Int32)), (.int (0 : Int32)), (.int (0 : Int32)), (.int (0 : Int32)), (.int (0 : Int32)), (.int (0 : Int32)), (.int (0 : Int32)), (.int (0 : Int32))] (.int (0 : Int32)) := Arv.set Ar150 q150 S150 N150m H150 G150 (fits_nar_char _) W150 1 rfl (Nat.le_of_ble_eq_true rfl)
              have S_java_lang_String_COMPACT_STRINGS_150 := S_java_lang_String_COMPACT_STRINGS_147.wr W150
              have F_b141_coder_150 := F_b141_coder_147.other W150 (Or.inl ne_b141_b144)
              have F_b141_value_150 := F_b141_value_147.other W150 (Or.inl ne_b141_b144)
              have E_b141_150 := E_b141_147.wr W150
              have Zs151 := Nat.le_trans Zs148 (Keep.of_wr W150).1
              have hk152 := Nat.le_trans hk149 (Keep.of_wr W150).1
              have Kk150 := Kk147.wr W150 (Or.inr sz_b144)
              have N150 := Fr.snoc X150 N147 g_b144
              obtain ⟨cl153, Ar153, q153, S153, N153m, H153, G153⟩ := id V150_b144
              have hin153 : ¬ ((2 : Int32) < 0 ∨ cl153.slots.size ≤ ((2 : Int32)).toNatClampNeg) := inb_of S153 ⟨by decide, by decide⟩
              obtain ⟨T153, h153, X153, e153, W153, st153⟩ := stC X150 hx hZ e150 Ar153 (j := (2 : Int32)) hin153 (g := (mkF m 574 #[.val (.int p1), .val (.int p2), .val (.int p3), .val (.int p4), .unset] [(.int (104 : Int32)), (.int (2 : Int32)), (.ref b144), (.ref b144), (.ref b141), (.ref b141)])) rfl rfl (hb hby d1_574)
              have V153_b144 : Arv Z h153 b144 k144 .char (17 : Int32) [(.int (nar .char p4)), (.int (nar .char (67 : Int32))), (.int (nar .char (104 : Int32))), (.int (0 : Int32)), (.int (0 : Int32)), (.int (0 : Int32)), (.int (0 : Int32)), (.int (0 : Int32)), (.int (0 : Int32)), (.int (0 : Int32)), (.int (0 : Int32)), (.int (0 : Int32)), (.int (0 : Int32)), (.int (0 : Int32)), (.int (0 : Int32)), (.int (0 : Int32)), (.int (0 : Int32))] (.int (0 : Int32)) := Arv.set Ar153 q153 S153 N153m H153 G153 (fits_nar_char _) W153 2 rfl (Nat.le_of_ble_eq_true rfl)
              have S_java_lang_String_COMPACT_STRINGS_153 := S_java_lang_String_COMPACT_STRINGS_150.wr W153
              have F_b141_coder_153 := F_b141_coder_150.other W153 (Or.inl ne_b141_b144)
              have F_b141_value_153 := F_b141_value_150.other W153 (Or.inl ne_b141_b144)
              have E_b141_153 := E_b141_150.wr W153
              have Zs154 := Nat.le_trans Zs151 (Keep.of_wr W153).1
              have hk155 := Nat.le_trans hk152 (Keep.of_wr W153).1
              have Kk153 := Kk150.wr W153 (Or.inr sz_b144)
              have N153 := Fr.snoc X153 N150 g_b144
              obtain ⟨cl156, Ar156, q156, S156, N156m, H156, G156⟩ := id V153_b144
              have hin156 : ¬ ((3 : Int32) < 0 ∨ cl156.slots.size ≤ ((3 : Int32)).toNatClampNeg) := inb_of S156 ⟨by decide, by decide⟩
              obtain ⟨T156, h156, X156, e156, W156, st156⟩ := stC X153 hx hZ e153 Ar156 (j := (3 : Int32)) hin156 (g := (mkF m 579 #[.val (.int p1), .val (.int p2), .val (.int p3), .val (.int p4), .unset] [(.int (97 : Int32)), (.int (3 : Int32)), (.ref b144), (.ref b144), (.ref b141), (.ref b141)])) rfl rfl (hb hby d1_579)
              have V156_b144 : Arv Z h156 b144 k144 .char (17 : Int32) [(.int (nar .char p4)), (.int (nar .char (67 : Int32))), (.int (nar .char (104 : Int32))), (.int (nar .char (97 : Int32))), (.int (0 : Int32)), (.int (0 : Int32)), (.int (0 : Int32)), (.int (0 : Int32)), (.int (0 : Int32)), (.int (0 : Int32)), (.int (0 : Int32)), (.int (0 : Int32)), (.int (0 : Int32)), (.int (0 : Int32)), (.int (0 : Int32)), (.int (0 : Int32)), (.int (0 : Int32))] (.int (0 : Int32)) := Arv.set Ar156 q156 S156 N156m H156 G156 (fits_nar_char _) W156 3 rfl (Nat.le_of_ble_eq_true rfl)
              have S_java_lang_String_COMPACT_STRINGS_156 := S_java_lang_String_COMPACT_STRINGS_153.wr W156
              have F_b141_coder_156 := F_b141_coder_153.other W156 (Or.inl ne_b141_b144)
              have F_b141_value_156 := F_b141_value_153.other W156 (Or.inl ne_b141_b144)
              have E_b141_156 := E_b141_153.wr W156
              have Zs157 := Nat.le_trans Zs154 (Keep.of_wr W156).1
              have hk158 := Nat.le_trans hk155 (Keep.of_wr W156).1
              have Kk156 := Kk153.wr W156 (Or.inr sz_b144)
              have N156 := Fr.snoc X156 N153 g_b144
              obtain ⟨cl159, Ar159, q159, S159, N159m, H159, G159⟩ := id V156_b144
              have hin159 : ¬ ((4 : Int32) < 0 ∨ cl159.slots.size ≤ ((4 : Int32)).toNatClampNeg) := inb_of S159 ⟨by decide, by decide⟩
              obtain ⟨T159, h159, X159, e159, W159, st159⟩ := stC X156 hx hZ e156 Ar159 (j := (4 : Int32)) hin159 (g := (mkF m 584 #[.val (.int p1), .val (.int p2), .val (.int p3), .val (.int p4), .unset] [(.int (108 : Int32)), (.int (4 : Int32)), (.ref b144), (.ref b144), (.ref b141), (.ref b141)])) rfl rfl (hb hby d1_584)
              have V159_b144 : Arv Z h159 b144 k144 .char (17 : Int32) [(.int (nar .char p4)), (.int (nar .char (67 : Int32))), (.int (nar .char (104 : Int32))), (.int (nar .char (97 : Int32))), (.int (nar .char (108 : Int32))), (.int (0 : Int32)), (.int (0 : Int32)), (.int (0 : Int32)), (.int (0 : Int32)), (.int (0 : Int32)), (.int (0 : Int32)), (.int (0 : Int32)), (.int (0 : Int32)), (.int (0 : Int32)), (.int (0 : Int32)), (.int (0 : Int32)), (.int (0 : Int32))] (.int (0 : Int32)) := Arv.set Ar159 q159 S159 N159m H159 G159 (fits_nar_char _) W159 4 rfl (Nat.le_of_ble_eq_true rfl)
              have S_java_lang_String_COMPACT_STRINGS_159 := S_java_lang_String_COMPACT_STRINGS_156.wr W159
              have F_b141_coder_159 := F_b141_coder_156.other W159 (Or.inl ne_b141_b144)
              have F_b141_value_159 := F_b141_value_156.other W159 (Or.inl ne_b141_b144)
              have E_b141_159 := E_b141_156.wr W159
              have Zs160 := Nat.le_trans Zs157 (Keep.of_wr W159).1
              have hk161 := Nat.le_trans hk158 (Keep.of_wr W159).1
              have Kk159 := Kk156.wr W159 (Or.inr sz_b144)
              have N159 := Fr.snoc X159 N156 g_b144
              obtain ⟨cl162, Ar162, q162, S162, N162m, H162, G162⟩ := id V159_b144
              have hin162 : ¬ ((5 : Int32) < 0 ∨ cl162.slots.size ≤ ((5 : Int32)).toNatClampNeg) := inb_of S162 ⟨by decide, by decide⟩
              obtain ⟨T162, h162, X162, e162, W162, st162⟩ := stC X159 hx hZ e159 Ar162 (j := (5 : Int32)) hin162 (g := (mkF m 589 #[.val (.int p1), .val (.int p2), .val (.int p3), .val (.int p4), .unset] [(.int (108 : Int32)), (.int (5 : Int32)), (.ref b144), (.ref b144), (.ref b141), (.ref b141)])) rfl rfl (hb hby d1_589)
              have V162_b144 : Arv Z h162 b144 k144 .char (17 : Int32) [(.int (nar .char p4)), (.int (nar .char (67 : Int32))), (.int (nar .char (104 : Int32))), (.int (nar .char (97 : Int32))), (.int (nar .char (108 : Int32))), (.int (nar .char (108 : Int32))), (.int (0 : Int32)), (.int (0 : Int32)), (.int (0 : Int32)), (.int (0 : Int32)), (.int (0 : Int32)), (.int (0 : Int32)), (.int (0 : Int32)), (.int (0 : Int32)), (.int (0 : Int32)), (.int (0 : Int32)), (.int (0 : Int32))] (.int (0 : Int32)) := Arv.set Ar162 q162 S162 N162m H162 G162 (fits_nar_char _) W162 5 rfl (Nat.le_of_ble_eq_true rfl)
              have S_java_lang_String_COMPACT_STRINGS_162 := S_java_lang_String_COMPACT_STRINGS_159.wr W162
              have F_b141_coder_162 := F_b141_coder_159.other W162 (Or.inl ne_b141_b144)
              have F_b141_value_162 := F_b141_value_159.other W162 (Or.inl ne_b141_b144)
              have E_b141_162 := E_b141_159.wr W162
              have Zs163 := Nat.le_trans Zs160 (Keep.of_wr W162).1
              have hk164 := Nat.le_trans hk161 (Keep.of_wr W162).1
              have Kk162 := Kk159.wr W162 (Or.inr sz_b144)
              have N162 := Fr.snoc X162 N159 g_b144
              obtain ⟨cl165, Ar165, q165, S165, N165m, H165, G165⟩ := id V162_b144
              have hin165 : ¬ ((6 : Int32) < 0 ∨ cl165.slots.size ≤ ((6 : Int32)).toNatClampNeg) := inb_of S165 ⟨by decide, by decide⟩
              obtain ⟨T165, h165, X165, e165, W165, st165⟩ := stC X162 hx hZ e162 Ar165 (j := (6 : Int32)) hin165 (g := (mkF m 595 #[.val (.int p1), .val (.int p2), .val (.int p3), .val (.int p4), .unset] [(.int (101 : Int32)), (.int (6 : Int32)), (.ref b144), (.ref b144), (.ref b141), (.ref b141)])) rfl rfl (hb hby d1_595)
              have V165_b144 : Arv Z h165 b144 k144 .char (17 : Int32) [(.int (nar .char p4)), (.int (nar .char (67 : Int32))), (.int (nar .char (104 : Int32))), (.int (nar .char (97 : Int32))), (.int (nar .char (108 : Int32))), (.int (nar .char (108 : Int32))), (.int (nar .char (101 : Int32))), (.int (0 : Int32)), (.int (0 : Int32)), (.int (0 : Int32)), (.int (0 : Int32)), (.int (0 : Int32)), (.int (0 : Int32)), (.int (0 : Int32)), (.int (0 : Int32)), (.int (0 : Int32)), (.int (0 : Int32))] (.int (0 : Int32)) := Arv.set Ar165 q165 S165 N165m H165 G165 (fits_nar_char _) W165 6 rfl (Nat.le_of_ble_eq_true rfl)
              have S_java_lang_String_COMPACT_STRINGS_165 := S_java_lang_String_COMPACT_STRINGS_162.wr W165
              have F_b141_coder_165 := F_b141_coder_162.other W165 (Or.inl ne_b141_b144)
              have F_b141_value_165 := F_b141_value_162.other W165 (Or.inl ne_b141_b144)
              have E_b141_165 := E_b141_162.wr W165
              have Zs166 := Nat.le_trans Zs163 (Keep.of_wr W165).1
              have hk167 := Nat.le_trans hk164 (Keep.of_wr W165).1
              have Kk165 := Kk162.wr W165 (Or.inr sz_b144)
              have N165 := Fr.snoc X165 N162 g_b144
              obtain ⟨cl168, Ar168, q168, S168, N168m, H168, G168⟩ := id V165_b144
              have hin168 : ¬ ((7 : Int32) < 0 ∨ cl168.slots.size ≤ ((7 : Int32)).toNatClampNeg) := inb_of S168 ⟨by decide, by decide⟩
              obtain ⟨T168, h168, X168, e168, W168, st168⟩ := stC X165 hx hZ e165 Ar168 (j := (7 : Int32)) hin168 (g := (mkF m 601 #[.val (.int p1), .val (.int p2), .val (.int p3), .val (.int p4), .unset] [(.int (110 : Int32)), (.int (7 : Int32)), (.ref b144), (.ref b144), (.ref b141), (.ref b141)])) rfl rfl (hb hby d1_601)
              have V168_b144 : Arv Z h168 b144 k144 .char (17 : Int32) [(.int (nar .char p4)), (.int (nar .char (67 : Int32))), (.int (nar .char (104 : Int32))), (.int (nar .char (97 : Int32))), (.int (nar .char (108 : Int32))), (.int (nar .char (108 : Int32))), (.int (nar .char (101 : Int32))), (.int (nar .char (110 : Int32))), (.int (0 : Int32)), (.int (0 : Int32)), (.int (0 : Int32)), (.int (0 : Int32)), (.int (0 : Int32)), (.int (0 : Int32)), (.int (0 : Int32)), (.int (0 : Int32)), (.int (0 : Int32))] (.int (0 : Int32)) := Arv.set Ar168 q168 S168 N168m H168 G168 (fits_nar_char _) W168 7 rfl (Nat.le_of_ble_eq_true rfl)
              have S_java_lang_String_COMPACT_STRINGS_168 := S_java_lang_String_COMPACT_STRINGS_165.wr W168
              have F_b141_coder_168 := F_b141_coder_165.other W168 (Or.inl ne_b141_b144)
              have F_b141_value_168 := F_b141_value_165.other W168 (Or.inl ne_b141_b144)
              have E_b141_168 := E_b141_165.wr W168
              have Zs169 := Nat.le_trans Zs166 (Keep.of_wr W168).1
              have hk170 := Nat.le_trans hk167 (Keep.of_wr W168).1
              have Kk168 := Kk165.wr W168 (Or.inr sz_b144)
              have N168 := Fr.snoc X168 N165 g_b144
              obtain ⟨cl171, Ar171, q171, S171, N171m, H171, G171⟩ := id V168_b144
              have hin171 : ¬ ((8 : Int32) < 0 ∨ cl171.slots.size ≤ ((8 : Int32)).toNatClampNeg) := inb_of S171 ⟨by decide, by decide⟩
              obtain ⟨T171, h171, X171, e171, W171, st171⟩ := stC X168 hx hZ e168 Ar171 (j := (8 : Int32)) hin171 (g := (mkF m 607 #[.val (.int p1), .val (.int p2), .val (.int p3), .val (.int p4), .unset] [(.int (103 : Int32)), (.int (8 : Int32)), (.ref b144), (.ref b144), (.ref b141), (.ref b141)])) rfl rfl (hb hby d1_607)
              have V171_b144 : Arv Z h171 b144 k144 .char (17 : Int32) [(.int (nar .char p4)), (.int (nar .char (67 : Int32))), (.int (nar .char (104 : Int32))), (.int (nar .char (97 : Int32))), (.int (nar .char (108 : Int32))), (.int (nar .char (108 : Int32))), (.int (nar .char (101 : Int32))), (.int (nar .char (110 : Int32))), (.int (nar .char (103 : Int32))), (.int (0 : Int32)), (.int (0 : Int32)), (.int (0 : Int32)), (.int (0 : Int32)), (.int (0 : Int32)), (.int (0 : Int32)), (.int (0 : Int32)), (.int (0 : Int32))] (.int (0 : Int32)) := Arv.set Ar171 q171 S171 N171m H171 G171 (fits_nar_char _) W171 8 rfl (Nat.le_of_ble_eq_true rfl)
              have S_java_lang_String_COMPACT_STRINGS_171 := S_java_lang_String_COMPACT_STRINGS_168.wr W171
              have F_b141_coder_171 := F_b141_coder_168.other W171 (Or.inl ne_b141_b144)
              have F_b141_value_171 := F_b141_value_168.other W171 (Or.inl ne_b141_b144)
              have E_b141_171 := E_b141_168.wr W171
              have Zs172 := Nat.le_trans Zs169 (Keep.of_wr W171).1
              have hk173 := Nat.le_trans hk170 (Keep.of_wr W171).1
              have Kk171 := Kk168.wr W171 (Or.inr sz_b144)
              have N171 := Fr.snoc X171 N168 g_b144
              obtain ⟨cl174, Ar174, q174, S174, N174m, H174, G174⟩ := id V171_b144
              have hin174 : ¬ ((9 : Int32) < 0 ∨ cl174.slots.size ≤ ((9 : Int32)).toNatClampNeg) := inb_of S174 ⟨by decide, by decide⟩
              obtain ⟨T174, h174, X174, e174, W174, st174⟩ := stC X171 hx hZ e171 Ar174 (j := (9 : Int32)) hin174 (g := (mkF m 613 #[.val (.int p1), .val (.int p2), .val (.int p3), .val (.int p4), .unset] [(.int (101 : Int32)), (.int (9 : Int32)), (.ref b144), (.ref b144), (.ref b141), (.ref b141)])) rfl rfl (hb hby d1_613)
              have V174_b144 : Arv Z h174 b144 k144 .char (17 : Int32) [(.int (nar .char p4)), (.int (nar .char (67 : Int32))), (.int (nar .char (104 : Int32))), (.int (nar .char (97 : Int32))), (.int (nar .char (108 : Int32))), (.int (nar .char (108 : Int32))), (.int (nar .char (101 : Int32))), (.int (nar .char (110 : Int32))), (.int (nar .char (103 : Int32))), (.int (nar .char (101 : Int32))), (.int (0 : Int32)), (.int (0 : Int32)), (.int (0 : Int32)), (.int (0 : Int32)), (.int (0 : Int32)), (.int (0 : Int32)), (.int (0 : Int32))] (.int (0 : Int32)) := Arv.set Ar174 q174 S174 N174m H174 G174 (fits_nar_char _) W174 9 rfl (Nat.le_of_ble_eq_true rfl)
              have S_java_lang_String_COMPACT_STRINGS_174 := S_java_lang_String_COMPACT_STRINGS_171.wr W174
              have F_b141_coder_174 := F_b141_coder_171.other W174 (Or.inl ne_b141_b144)
              have F_b141_value_174 := F_b141_value_171.other W174 (Or.inl ne_b141_b144)
              have E_b141_174 := E_b141_171.wr W174
              have Zs175 := Nat.le_trans Zs172 (Keep.of_wr W174).1
              have hk176 := Nat.le_trans hk173 (Keep.of_wr W174).1
              have Kk174 := Kk171.wr W174 (Or.inr sz_b144)
              have N174 := Fr.snoc X174 N171 g_b144
              obtain ⟨cl177, Ar177, q177, S177, N177m, H177, G177⟩ := id V174_b144
              have hin177 : ¬ ((10 : Int32) < 0 ∨ cl177.slots.size ≤ ((10 : Int32)).toNatClampNeg) := inb_of S177 ⟨by decide, by decide⟩
              obtain ⟨T177, h177, X177, e177, W177, st177⟩ := stC X174 hx hZ e174 Ar177 (j := (10 : Int32)) hin177 (g := (mkF m 619 #[.val (.int p1), .val (.int p2), .val (.int p3), .val (.int p4), .unset] [(.int (79 : Int32)), (.int (10 : Int32)), (.ref b144), (.ref b144), (.ref b141), (.ref b141)])) rfl rfl (hb hby d1_619)
              have V177_b144 : Arv Z h177 b144 k144 .char (17 : Int32) [(.int (nar .char p4)), (.int (nar .char (67 : Int32))), (.int (nar .char (104 : Int32))), (.int (nar .char (97 : Int32))), (.int (nar .char (108 : Int32))), (.int (nar .char (108 : Int32))), (.int (nar .char (101 : Int32))), (.int (nar .char (110 : Int32))), (.int (nar .char (103 : Int32))), (.int (nar .char (101 : Int32))), (.int (nar .char (79 : Int32))), (.int (0 : Int32)), (.int (0 : Int32)), (.int (0 : Int32)), (.int (0 : Int32)), (.int (0 : Int32)), (.int (0 : Int32))] (.int (0 : Int32)) := Arv.set Ar177 q177 S177 N177m H177 G177 (fits_nar_char _) W177 10 rfl (Nat.le_of_ble_eq_true rfl)
              have S_java_lang_String_COMPACT_STRINGS_177 := S_java_lang_String_COMPACT_STRINGS_174.wr W177
              have F_b141_coder_177 := F_b141_coder_174.other W177 (Or.inl ne_b141_b144)
              have F_b141_value_177 := F_b141_value_174.other W177 (Or.inl ne_b141_b144)
              have E_b141_177 := E_b141_174.wr W177
              have Zs178 := Nat.le_trans Zs175 (Keep.of_wr W177).1
              have hk179 := Nat.le_trans hk176 (Keep.of_wr W177).1
              have Kk177 := Kk174.wr W177 (Or.inr sz_b144)
              have N177 := Fr.snoc X177 N174 g_b144
              obtain ⟨cl180, Ar180, q180, S180, N180m, H180, G180⟩ := id V177_b144
              have hin180 : ¬ ((11 : Int32) < 0 ∨ cl180.slots.size ≤ ((11 : Int32)).toNatClampNeg) := inb_of S180 ⟨by decide, by decide⟩
              obtain ⟨T180, h180, X180, e180, W180, st180⟩ := stC X177 hx hZ e177 Ar180 (j := (11 : Int32)) hin180 (g := (mkF m 625 #[.val (.int p1), .val (.int p2), .val (.int p3), .val (.int p4), .unset] [(.int (77 : Int32)), (.int (11 : Int32)), (.ref b144), (.ref b144), (.ref b141), (.ref b141)])) rfl rfl (hb hby d1_625)
              have V180_b144 : Arv Z h180 b144 k144 .char (17 : Int32) [(.int (nar .char p4)), (.int (nar .char (67 : Int32))), (.int (nar .char (104 : Int32))), (.int (nar .char (97 : Int32))), (.int (nar .char (108 : Int32))), (.int (nar .char (108 : Int32))), (.int (nar .char (101 : Int32))), (.int (nar .char (110 : Int32))), (.int (nar .char (103 : Int32))), (.int (nar .char (101 : Int32))), (.int (nar .char (79 : Int32))), (.int (nar .char (77 : Int32))), (.int (0 : Int32)), (.int (0 : Int32)), (.int (0 : Int32)), (.int (0 : Int32)), (.int (0 : Int32))] (.int (0 : Int32)) := Arv.set Ar180 q180 S180 N180m H180 G180 (fits_nar_char _) W180 11 rfl (Nat.le_of_ble_eq_true rfl)
              have S_java_lang_String_COMPACT_STRINGS_180 := S_java_lang_String_COMPACT_STRINGS_177.wr W180
              have F_b141_coder_180 := F_b141_coder_177.other W180 (Or.inl ne_b141_b144)
              have F_b141_value_180 := F_b141_value_177.other W180 (Or.inl ne_b141_b144)
              have E_b141_180 := E_b141_177.wr W180
              have Zs181 := Nat.le_trans Zs178 (Keep.of_wr W180).1
              have hk182 := Nat.le_trans hk179 (Keep.of_wr W180).1
              have Kk180 := Kk177.wr W180 (Or.inr sz_b144)
              have N180 := Fr.snoc X180 N177 g_b144
              obtain ⟨cl183, Ar183, q183, S183, N183m, H183, G183⟩ := id V180_b144
              have hin183 : ¬ ((12 : Int32) < 0 ∨ cl183.slots.size ≤ ((12 : Int32)).toNatClampNeg) := inb_of S183 ⟨by decide, by decide⟩
              obtain ⟨T183, h183, X183, e183, W183, st183⟩ := stC X180 hx hZ e180 Ar183 (j := (12 : Int32)) hin183 (g := (mkF m 631 #[.val (.int p1), .val (.int p2), .val (.int p3), .val (.int p4), .unset] [(.int (65 : Int32)), (.int (12 : Int32)), (.ref b144), (.ref b144), (.ref b141), (.ref b141)])) rfl rfl (hb hby d1_631)
              have V183_b144 : Arv Z h183 b144 k144 .char (17 : Int32) [(.int (nar .char p4)), (.int (nar .char (67 : Int32))), (.int (nar .char (104 : Int32))), (.int (nar .char (97 : Int32))), (.int (nar .char (108 : Int32))), (.int (nar .char (108 : Int32))), (.int (nar .char (101 : Int32))), (.int (nar .char (110 : Int32))), (.int (nar .char (103 : Int32))), (.int (nar .char (101 : Int32))), (.int (nar .char (79 : Int32))), (.int (nar .char (77 : Int32))), (.int (nar .char (65 : Int32))), (.int (0 : Int32)), (.int (0 : Int32)), (.int (0 : Int32)), (.int (0 : Int32))] (.int (0 : Int32)) := Arv.set Ar183 q183 S183 N183m H183 G183 (fits_nar_char _) W183 12 rfl (Nat.le_of_ble_eq_true rfl)
              have S_java_lang_String_COMPACT_STRINGS_183 := S_java_lang_String_COMPACT_STRINGS_180.wr W183
              have F_b141_coder_183 := F_b141_coder_180.other W183 (Or.inl ne_b141_b144)
              have F_b141_value_183 := F_b141_value_180.other W183 (Or.inl ne_b141_b144)
              have E_b141_183 := E_b141_180.wr W183
              have Zs184 := Nat.le_trans Zs181 (Keep.of_wr W183).1
              have hk185 := Nat.le_trans hk182 (Keep.of_wr W183).1
              have Kk183 := Kk180.wr W183 (Or.inr sz_b144)
              have N183 := Fr.snoc X183 N180 g_b144
              obtain ⟨cl186, Ar186, q186, S186, N186m, H186, G186⟩ := id V183_b144
              have hin186 : ¬ ((13 : Int32) < 0 ∨ cl186.slots.size ≤ ((13 : Int32)).toNatClampNeg) := inb_of S186 ⟨by decide, by decide⟩
              obtain ⟨T186, h186, X186, e186, W186, st186⟩ := stC X183 hx hZ e183 Ar186 (j := (13 : Int32)) hin186 (g := (mkF m 637 #[.val (.int p1), .val (.int p2), .val (.int p3), .val (.int p4), .unset] [(.int (84 : Int32)), (.int (13 : Int32)), (.ref b144), (.ref b144), (.ref b141), (.ref b141)])) rfl rfl (hb hby d1_637)
              have V186_b144 : Arv Z h186 b144 k144 .char (17 : Int32) [(.int (nar .char p4)), (.int (nar .char (67 : Int32))), (.int (nar .char (104 : Int32))), (.int (nar .char (97 : Int32))), (.int (nar .char (108 : Int32))), (.int (nar .char (108 : Int32))), (.int (nar .char (101 : Int32))), (.int (nar .char (110 : Int32))), (.int (nar .char (103 : Int32))), (.int (nar .char (101 : Int32))), (.int (nar .char (79 : Int32))), (.int (nar .char (77 : Int32))), (.int (nar .char (65 : Int32))), (.int (nar .char (84 : Int32))), (.int (0 : Int32)), (.int (0 : Int32)), (.int (0 : Int32))] (.int (0 : Int32)) := Arv.set Ar186 q186 S186 N186m H186 G186 (fits_nar_char _) W186 13 rfl (Nat.le_of_ble_eq_true rfl)
              have S_java_lang_String_COMPACT_STRINGS_186 := S_java_lang_String_COMPACT_STRINGS_183.wr W186
              have F_b141_coder_186 := F_b141_coder_183.other W186 (Or.inl ne_b141_b144)
              have F_b141_value_186 := F_b141_value_183.other W186 (Or.inl ne_b141_b144)
              have E_b141_186 := E_b141_183.wr W186
              have Zs187 := Nat.le_trans Zs184 (Keep.of_wr W186).1
              have hk188 := Nat.le_trans hk185 (Keep.of_wr W186).1
              have Kk186 := Kk183.wr W186 (Or.inr sz_b144)
              have N186 := Fr.snoc X186 N183 g_b144
              obtain ⟨cl189, Ar189, q189, S189, N189m, H189, G189⟩ := id V186_b144
              have hin189 : ¬ ((14 : Int32) < 0 ∨ cl189.slots.size ≤ ((14 : Int32)).toNatClampNeg) := inb_of S189 ⟨by decide, by decide⟩
              obtain ⟨T189, h189, X189, e189, W189, st189⟩ := stC X186 hx hZ e186 Ar189 (j := (14 : Int32)) hin189 (g := (mkF m 643 #[.val (.int p1), .val (.int p2), .val (.int p3), .val (.int p4), .unset] [(.int (79 : Int32)), (.int (14 : Int32)), (.ref b144), (.ref b144), (.ref b141), (.ref b141)])) rfl rfl (hb hby d1_643)
              have V189_b144 : Arv Z h189 b144 k144 .char (17 : Int32) [(.int (nar .char p4)), (.int (nar .char (67 : Int32))), (.int (nar .char (104 : Int32))), (.int (nar .char (97 : Int32))), (.int (nar .char (108 : Int32))), (.int (nar .char (108 : Int32))), (.int (nar .char (101 : Int32))), (.int (nar .char (110 : Int32))), (.int (nar .char (103 : Int32))), (.int (nar .char (101 : Int32))), (.int (nar .char (79 : Int32))), (.int (nar .char (77 : Int32))), (.int (nar .char (65 : Int32))), (.int (nar .char (84 : Int32))), (.int (nar .char (79 : Int32))), (.int (0 : Int32)), (.int (0 : Int32))] (.int (0 : Int32)) := Arv.set Ar189 q189 S189 N189m H189 G189 (fits_nar_char _) W189 14 rfl (Nat.le_of_ble_eq_true rfl)
              have S_java_lang_String_COMPACT_STRINGS_189 := S_java_lang_String_COMPACT_STRINGS_186.wr W189
              have F_b141_coder_189 := F_b141_coder_186.other W189 (Or.inl ne_b141_b144)
              have F_b141_value_189 := F_b141_value_186.other W189 (Or.inl ne_b141_b144)
              have E_b141_189 := E_b141_186.wr W189
              have Zs190 := Nat.le_trans Zs187 (Keep.of_wr W189).1
              have hk191 := Nat.le_trans hk188 (Keep.of_wr W189).1
              have Kk189 := Kk186.wr W189 (Or.inr sz_b144)
              have N189 := Fr.snoc X189 N186 g_b144
              obtain ⟨cl192, Ar192, q192, S192, N192m, H192, G192⟩ := id V189_b144
              have hin192 : ¬ ((15 : Int32) < 0 ∨ cl192.slots.size ≤ ((15 : Int32)).toNatClampNeg) := inb_of S192 ⟨by decide, by decide⟩
              obtain ⟨T192, h192, X192, e192, W192, st192⟩ := stC X189 hx hZ e189 Ar192 (j := (15 : Int32)) hin192 (g := (mkF m 649 #[.val (.int p1), .val (.int p2), .val (.int p3), .val (.int p4), .unset] [(.int (84 : Int32)), (.int (15 : Int32)), (.ref b144), (.ref b144), (.ref b141), (.ref b141)])) rfl rfl (hb hby d1_649)
              have V192_b144 : Arv Z h192 b144 k144 .char (17 : Int32) [(.int (nar .char p4)), (.int (nar .char (67 : Int32))), (.int (nar .char (104 : Int32))), (.int (nar .char (97 : Int32))), (.int (nar .char (108 : Int32))), (.int (nar .char (108 : Int32))), (.int (nar .char (101 : Int32))), (.int (nar .char (110 : Int32))), (.int (nar .char (103 : Int32))), (.int (nar .char (101 : Int32))), (.int (nar .char (79 : Int32))), (.int (nar .char (77 : Int32))), (.int (nar .char (65 : Int32))), (.int (nar .char (84 : Int32))), (.int (nar .char (79 : Int32))), (.int (nar .char (84 : Int32))), (.int (0 : Int32))] (.int (0 : Int32)) := Arv.set Ar192 q192 S192 N192m H192 G192 (fits_nar_char _) W192 15 rfl (Nat.le_of_ble_eq_true rfl)
              have S_java_lang_String_COMPACT_STRINGS_192 := S_java_lang_String_COMPACT_STRINGS_189.wr W192
              have F_b141_coder_192 := F_b141_coder_189.other W192 (Or.inl ne_b141_b144)
              have F_b141_value_192 := F_b141_value_189.other W192 (Or.inl ne_b141_b144)
              have E_b141_192 := E_b141_189.wr W192
              have Zs193 := Nat.le_trans Zs190 (Keep.of_wr W192).1
              have hk194 := Nat.le_trans hk191 (Keep.of_wr W192).1
              have Kk192 := Kk189.wr W192 (Or.inr sz_b144)
              have N192 := Fr.snoc X192 N189 g_b144
              obtain ⟨cl195, Ar195, q195, S195, N195m, H195, G195⟩ := id V192_b144
              have hin195 : ¬ ((16 : Int32) < 0 ∨ cl195.slots.size ≤ ((16 : Int32)).toNatClampNeg) := inb_of S195 ⟨by decide, by decide⟩
              obtain ⟨T195, h195, X195, e195, W195, st195⟩ := stC X192 hx hZ e192 Ar195 (j := (16 : Int32)) hin195 (g := (mkF m 655 #[.val (.int p1), .val (.int p2), .val (.int p3), .val (.int p4), .unset] [(.int (80 : Int32)), (.int (16 : Int32)), (.ref b144), (.ref b144), (.ref b141), (.ref b141)])) rfl rfl (hb hby d1_655)
              have V195_b144 : Arv Z h195 b144 k144 .char (17 : Int32) [(.int (nar .char p4)), (.int (nar .char (67 : Int32))), (.int (nar .char (104 : Int32))), (.int (nar .char (97 : Int32))), (.int (nar .char (108 : Int32))), (.int (nar .char (108 : Int32))), (.int (nar .char (101 : Int32))), (.int (nar .char (110 : Int32))), (.int (nar .char (103 : Int32))), (.int (nar .char (101 : Int32))), (.int (nar .char (79 : Int32))), (.int (nar .char (77 : Int32))), (.int (nar .char (65 : Int32))), (.int (nar .char (84 : Int32))), (.int (nar .char (79 : Int32))), (.int (nar .char (84 : Int32))), (.int (nar .char (80 : Int32)))] (.int (0 : Int32)) := Arv.set Ar195 q195 S195 N195m H195 G195 (fits_nar_char _) W195 16 rfl (Nat.le_of_ble_eq_true rfl)
              have S_java_lang_String_COMPACT_STRINGS_195 := S_java_lang_String_COMPACT_STRINGS_192.wr W195
              have F_b141_coder_195 := F_b141_coder_192.other W195 (Or.inl ne_b141_b144)
              have F_b141_value_195 := F_b141_value_192.other W195 (Or.inl ne_b141_b144)
              have E_b141_195 := E_b141_192.wr W195
              have Zs196 := Nat.le_trans Zs193 (Keep.of_wr W195).1
              have hk197 := Nat.le_trans hk194 (Keep.of_wr W195).1
              have Kk195 := Kk192.wr W195 (Or.inr sz_b144)
              have N195 := Fr.snoc X195 N192 g_b144
              have pre15 : ∀ t, Steps p.tables e below (T195.setTop (mkF m 656 #[.val (.int p1), .val (.int p2), .val (.int p3), .val (.int p4), .unset] [(.ref b144), (.ref b141), (.ref b141)])) t → Steps p.tables e below (s₁.setTop (entryFrame m #[(.int p1), (.int p2), (.int p3), (.int p4)] 5)) t := by
                intro t k
                refine pre14 t ?_
                show Steps p.tables e below (s₁.setTop (mkF m 553 #[.val (.int p1), .val (.int p2), .val (.int p3), .val (.int p4), .unset] [])) _
                refine st141 _ ?_
                show Steps p.tables e below (T141.setTop (mkF m 556 #[.val (.int p1), .val (.int p2), .val (.int p3), .val (.int p4), .unset] [(.ref b141)])) _
                refine XS.dup X141.here hx rfl (hb hby d1_556) rfl rfl ?_
                show Steps p.tables e below (T141.setTop (mkF m 557 #[.val (.int p1), .val (.int p2), .val (.int p3), .val (.int p4), .unset] [(.ref b141), (.ref b141)])) _
                refine XS.bipush X141.here hx rfl (hb hby d1_557) ?_
                show Steps p.tables e below (T141.setTop (mkF m 559 #[.val (.int p1), .val (.int p2), .val (.int p3), .val (.int p4), .unset] [(.int (17 : Int32)), (.ref b141), (.ref b141)])) _
                refine st144 _ ?_
                show Steps p.tables e below (T144.setTop (mkF m 561 #[.val (.int p1), .val (.int p2), .val (.int p3), .val (.int p4), .unset] [(.ref b144), (.ref b141), (.ref b141)])) _
                refine XS.dup X144.here hx rfl (hb hby d1_561) rfl rfl ?_
                show Steps p.tables e below (T144.setTop (mkF m 562 #[.val (.int p1), .val (.int p2), .val (.int p3), .val (.int p4), .unset] [(.ref b144), (.ref b144), (.ref b141), (.ref b141)])) _
                refine XS.iconst X144.here hx rfl (hb hby d1_562) ?_
                show Steps p.tables e below (T144.setTop (mkF m 563 #[.val (.int p1), .val (.int p2), .val (.int p3), .val (.int p4), .unset] [(.int (0 : Int32)), (.ref b144), (.ref b144), (.ref b141), (.ref b141)])) _
                refine XS.iloadN X144.here hx rfl (hb hby d1_563) rfl ?_
                show Steps p.tables e below (T144.setTop (mkF m 564 #[.val (.int p1), .val (.int p2), .val (.int p3), .val (.int p4), .unset] [(.int p4), (.int (0 : Int32)), (.ref b144), (.ref b144), (.ref b141), (.ref b141)])) _
                refine st147 _ ?_
                show Steps p.tables e below (T147.setTop (mkF m 565 #[.val (.int p1), .val (.int p2), .val (.int p3), .val (.int p4), .unset] [(.ref b144), (.ref b141), (.ref b141)])) _
                refine XS.dup X147.here hx rfl (hb hby d1_565) rfl rfl ?_
                show Steps p.tables e below (T147.setTop (mkF m 566 #[.val (.int p1), .val (.int p2), .val (.int p3), .val (.int p4), .unset] [(.ref b144), (.ref b144), (.ref b141), (.ref b141)])) _
                refine XS.iconst X147.here hx rfl (hb hby d1_566) ?_
                show Steps p.tables e below (T147.setTop (mkF m 567 #[.val (.int p1), .val (.int p2), .val (.int p3), .val (.int p4), .unset] [(.int (1 : Int32)), (.ref b144), (.ref b144), (.ref b141), (.ref b141)])) _
                refine XS.bipush X147.here hx rfl (hb hby d1_567) ?_
                show Steps p.tables e below (T147.setTop (mkF m 569 #[.val (.int p1), .val (.int p2), .val (.int p3), .val (.int p4), .unset] [(.int (67 : Int32)), (.int (1 : Int32)), (.ref b144), (.ref b144), (.ref b141), (.ref b141)])) _
                refine st150 _ ?_
                show Steps p.tables e below (T150.setTop (mkF m 570 #[.val (.int p1), .val (.int p2), .val (.int p3), .val (.int p4), .unset] [(.ref b144), (.ref b141), (.ref b141)])) _
                refine XS.dup X150.here hx rfl (hb hby d1_570) rfl rfl ?_
                show Steps p.tables e below (T150.setTop (mkF m 571 #[.val (.int p1), .val (.int p2), .val (.int p3), .val (.int p4), .unset] [(.ref b144), (.ref b144), (.ref b141), (.ref b141)])) _
                refine XS.iconst X150.here hx rfl (hb hby d1_571) ?_
                show Steps p.tables e below (T150.setTop (mkF m 572 #[.val (.int p1), .val (.int p2), .val (.int p3), .val (.int p4), .unset] [(.int (2 : Int32)), (.ref b144), (.ref b144), (.ref b141), (.ref b141)])) _
                refine XS.bipush X150.here hx rfl (hb hby d1_572) ?_
                show Steps p.tables e below (T150.setTop (mkF m 574 #[.val (.int p1), .val (.int p2), .val (.int p3), .val (.int p4), .unset] [(.int (104 : Int32)), (.int (2 : Int32)), (.ref b144), (.ref b144), (.ref b141), (.ref b141)])) _
                refine st153 _ ?_
                show Steps p.tables e below (T153.setTop (mkF m 575 #[.val (.int p1), .val (.int p2), .val (.int p3), .val (.int p4), .unset] [(.ref b144), (.ref b141), (.ref b141)])) _
                refine XS.dup X153.here hx rfl (hb hby d1_575) rfl rfl ?_
                show Steps p.tables e below (T153.setTop (mkF m 576 #[.val (.int p1), .val (.int p2), .val (.int p3), .val (.int p4), .unset] [(.ref b144), (.ref b144), (.ref b141), (.ref b141)])) _
                refine XS.iconst X153.here hx rfl (hb hby d1_576) ?_
                show Steps p.tables e below (T153.setTop (mkF m 577 #[.val (.int p1), .val (.int p2), .val (.int p3), .val (.int p4), .unset] [(.int (3 : Int32)), (.ref b144), (.ref b144), (.ref b141), (.ref b141)])) _
                refine XS.bipush X153.here hx rfl (hb hby d1_577) ?_
                show Steps p.tables e below (T153.setTop (mkF m 579 #[.val (.int p1), .val (.int p2), .val (.int p3), .val (.int p4), .unset] [(.int (97 : Int32)), (.int (3 : Int32)), (.ref b144), (.ref b144), (.ref b141), (.ref b141)])) _
                refine st156 _ ?_
                show Steps p.tables e below (T156.setTop (mkF m 580 #[.val (.int p1), .val (.int p2), .val (.int p3), .val (.int p4), .unset] [(.ref b144), (.ref b141), (.ref b141)])) _
                refine XS.dup X156.here hx rfl (hb hby d1_580) rfl rfl ?_
                show Steps p.tables e below (T156.setTop (mkF m 581 #[.val (.int p1), .val (.int p2), .val (.int p3), .val (.int p4), .unset] [(.ref b144), (.ref b144), (.ref b141), (.ref b141)])) _
                refine XS.iconst X156.here hx rfl (hb hby d1_581) ?_
                show Steps p.tables e below (T156.setTop (mkF m 582 #[.val (.int p1), .val (.int p2), .val (.int p3), .val (.int p4), .unset] [(.int (4 : Int32)), (.ref b144), (.ref b144), (.ref b141), (.ref b141)])) _
                refine XS.bipush X156.here hx rfl (hb hby d1_582) ?_
                show Steps p.tables e below (T156.setTop (mkF m 584 #[.val (.int p1), .val (.int p2), .val (.int p3), .val (.int p4), .unset] [(.int (108 : Int32)), (.int (4 : Int32)), (.ref b144), (.ref b144), (.ref b141), (.ref b141)])) _
                refine st159 _ ?_
                show Steps p.tables e below (T159.setTop (mkF m 585 #[.val (.int p1), .val (.int p2), .val (.int p3), .val (.int p4), .unset] [(.ref b144), (.ref b141), (.ref b141)])) _
                refine XS.dup X159.here hx rfl (hb hby d1_585) rfl rfl ?_
                show Steps p.tables e below (T159.setTop (mkF m 586 #[.val (.int p1), .val (.int p2), .val (.int p3), .val (.int p4), .unset] [(.ref b144), (.ref b144), (.ref b141), (.ref b141)])) _
                refine XS.iconst X159.here hx rfl (hb hby d1_586) ?_
                show Steps p.tables e below (T159.setTop (mkF m 587 #[.val (.int p1), .val (.int p2), .val (.int p3), .val (.int p4), .unset] [(.int (5 : Int32)), (.ref b144), (.ref b144), (.ref b141), (.ref b141)])) _
                refine XS.bipush X159.here hx rfl (hb hby d1_587) ?_
                show Steps p.tables e below (T159.setTop (mkF m 589 #[.val (.int p1), .val (.int p2), .val (.int p3), .val (.int p4), .unset] [(.int (108 : Int32)), (.int (5 : Int32)), (.ref b144), (.ref b144), (.ref b141), (.ref b141)])) _
                refine st162 _ ?_
                show Steps p.tables e below (T162.setTop (mkF m 590 #[.val (.int p1), .val (.int p2), .val (.int p3), .val (.int p4), .unset] [(.ref b144), (.ref b141), (.ref b141)])) _
                refine XS.dup X162.here hx rfl (hb hby d1_590) rfl rfl ?_
                show Steps p.tables e below (T162.setTop (mkF m 591 #[.val (.int p1), .val (.int p2), .val (.int p3), .val (.int p4), .unset] [(.ref b144), (.ref b144), (.ref b141), (.ref b141)])) _
                refine XS.bipush X162.here hx rfl (hb hby d1_591) ?_
                show Steps p.tables e below (T162.setTop (mkF m 593 #[.val (.int p1), .val (.int p2), .val (.int p3), .val (.int p4), .unset] [(.int (6 : Int32)), (.ref b144), (.ref b144), (.ref b141), (.ref b141)])) _
                refine XS.bipush X162.here hx rfl (hb hby d1_593) ?_
                show Steps p.tables e below (T162.setTop (mkF m 595 #[.val (.int p1), .val (.int p2), .val (.int p3), .val (.int p4), .unset] [(.int (101 : Int32)), (.int (6 : Int32)), (.ref b144), (.ref b144), (.ref b141), (.ref b141)])) _
                refine st165 _ ?_
                show Steps p.tables e below (T165.setTop (mkF m 596 #[.val (.int p1), .val (.int p2), .val (.int p3), .val (.int p4), .unset] [(.ref b144), (.ref b141), (.ref b141)])) _
                refine XS.dup X165.here hx rfl (hb hby d1_596) rfl rfl ?_
                show Steps p.tables e below (T165.setTop (mkF m 597 #[.val (.int p1), .val (.int p2), .val (.int p3), .val (.int p4), .unset] [(.ref b144), (.ref b144), (.ref b141), (.ref b141)])) _
                refine XS.bipush X165.here hx rfl (hb hby d1_597) ?_
                show Steps p.tables e below (T165.setTop (mkF m 599 #[.val (.int p1), .val (.int p2), .val (.int p3), .val (.int p4), .unset] [(.int (7 : Int32)), (.ref b144), (.ref b144), (.ref b141), (.ref b141)])) _
                refine XS.bipush X165.here hx rfl (hb hby d1_599) ?_
                show Steps p.tables e below (T165.setTop (mkF m 601 #[.val (.int p1), .val (.int p2), .val (.int p3), .val (.int p4), .unset] [(.int (110 : Int32)), (.int (7 : Int32)), (.ref b144), (.ref b144), (.ref b141), (.ref b141)])) _
                refine st168 _ ?_
                show Steps p.tables e below (T168.setTop (mkF m 602 #[.val (.int p1), .val (.int p2), .val (.int p3), .val (.int p4), .unset] [(.ref b144), (.ref b141), (.ref b141)])) _
                refine XS.dup X168.here hx rfl (hb hby d1_602) rfl rfl ?_
                show Steps p.tables e below (T168.setTop (mkF m 603 #[.val (.int p1), .val (.int p2), .val (.int p3), .val (.int p4), .unset] [(.ref b144), (.ref b144), (.ref b141), (.ref b141)])) _
                refine XS.bipush X168.here hx rfl (hb hby d1_603) ?_
                show Steps p.tables e below (T168.setTop (mkF m 605 #[.val (.int p1), .val (.int p2), .val (.int p3), .val (.int p4), .unset] [(.int (8 : Int32)), (.ref b144), (.ref b144), (.ref b141), (.ref b141)])) _
                refine XS.bipush X168.here hx rfl (hb hby d1_605) ?_
                show Steps p.tables e below (T168.setTop (mkF m 607 #[.val (.int p1), .val (.int p2), .val (.int p3), .val (.int p4), .unset] [(.int (103 : Int32)), (.int (8 : Int32)), (.ref b144), (.ref b144), (.ref b141), (.ref b141)])) _
                refine st171 _ ?_
                show Steps p.tables e below (T171.setTop (mkF m 608 #[.val (.int p1), .val (.int p2), .val (.int p3), .val (.int p4), .unset] [(.ref b144), (.ref b141), (.ref b141)])) _
                refine XS.dup X171.here hx rfl (hb hby d1_608) rfl rfl ?_
                show Steps p.tables e below (T171.setTop (mkF m 609 #[.val (.int p1), .val (.int p2), .val (.int p3), .val (.int p4), .unset] [(.ref b144), (.ref b144), (.ref b141), (.ref b141)])) _
                refine XS.bipush X171.here hx rfl (hb hby d1_609) ?_
                show Steps p.tables e below (T171.setTop (mkF m 611 #[.val (.int p1), .val (.int p2), .val (.int p3), .val (.int p4), .unset] [(.int (9 : Int32)), (.ref b144), (.ref b144), (.ref b141), (.ref b141)])) _
                refine XS.bipush X171.here hx rfl (hb hby d1_611) ?_
                show Steps p.tables e below (T171.setTop (mkF m 613 #[.val (.int p1), .val (.int p2), .val (.int p3), .val (.int p4), .unset] [(.int (101 : Int32)), (.int (9 : Int32)), (.ref b144), (.ref b144), (.ref b141), (.ref b141)])) _
                refine st174 _ ?_
                show Steps p.tables e below (T174.setTop (mkF m 614 #[.val (.int p1), .val (.int p2), .val (.int p3), .val (.int p4), .unset] [(.ref b144), (.ref b141), (.ref b141)])) _
                refine XS.dup X174.here hx rfl (hb hby d1_614) rfl rfl ?_
                show Steps p.tables e below (T174.setTop (mkF m 615 #[.val (.int p1), .val (.int p2), .val (.int p3), .val (.int p4), .unset] [(.ref b144), (.ref b144), (.ref b141), (.ref b141)])) _
                refine XS.bipush X174.here hx rfl (hb hby d1_615) ?_
                show Steps p.tables e below (T174.setTop (mkF m 617 #[.val (.int p1), .val (.int p2), .val (.int p3), .val (.int p4), .unset] [(.int (10 : Int32)), (.ref b144), (.ref b144), (.ref b141), (.ref b141)])) _
                refine XS.bipush X174.here hx rfl (hb hby d1_617) ?_
                show Steps p.tables e below (T174.setTop (mkF m 619 #[.val (.int p1), .val (.int p2), .val (.int p3), .val (.int p4), .unset] [(.int (79 : Int32)), (.int (10 : Int32)), (.ref b144), (.ref b144), (.ref b141), (.ref b141)])) _
                refine st177 _ ?_
                show Steps p.tables e below (T177.setTop (mkF m 620 #[.val (.int p1), .val (.int p2), .val (.int p3), .val (.int p4), .unset] [(.ref b144), (.ref b141), (.ref b141)])) _
                refine XS.dup X177.here hx rfl (hb hby d1_620) rfl rfl ?_
                show Steps p.tables e below (T177.setTop (mkF m 621 #[.val (.int p1), .val (.int p2), .val (.int p3), .val (.int p4), .unset] [(.ref b144), (.ref b144), (.ref b141), (.ref b141)])) _
                refine XS.bipush X177.here hx rfl (hb hby d1_621) ?_
                show Steps p.tables e below (T177.setTop (mkF m 623 #[.val (.int p1), .val (.int p2), .val (.int p3), .val (.int p4), .unset] [(.int (11 : Int32)), (.ref b144), (.ref b144), (.ref b141), (.ref b141)])) _
                refine XS.bipush X177.here hx rfl (hb hby d1_623) ?_
                show Steps p.tables e below (T177.setTop (mkF m 625 #[.val (.int p1), .val (.int p2), .val (.int p3), .val (.int p4), .unset] [(.int (77 : Int32)), (.int (11 : Int32)), (.ref b144), (.ref b144), (.ref b141), (.ref b141)])) _
                refine st180 _ ?_
                show Steps p.tables e below (T180.setTop (mkF m 626 #[.val (.int p1), .val (.int p2), .val (.int p3), .val (.int p4), .unset] [(.ref b144), (.ref b141), (.ref b141)])) _
                refine XS.dup X180.here hx rfl (hb hby d1_626) rfl rfl ?_
                show Steps p.tables e below (T180.setTop (mkF m 627 #[.val (.int p1), .val (.int p2), .val (.int p3), .val (.int p4), .unset] [(.ref b144), (.ref b144), (.ref b141), (.ref b141)])) _
                refine XS.bipush X180.here hx rfl (hb hby d1_627) ?_
                show Steps p.tables e below (T180.setTop (mkF m 629 #[.val (.int p1), .val (.int p2), .val (.int p3), .val (.int p4), .unset] [(.int (12 : Int32)), (.ref b144), (.ref b144), (.ref b141), (.ref b141)])) _
                refine XS.bipush X180.here hx rfl (hb hby d1_629) ?_
                show Steps p.tables e below (T180.setTop (mkF m 631 #[.val (.int p1), .val (.int p2), .val (.int p3), .val (.int p4), .unset] [(.int (65 : Int32)), (.int (12 : Int32)), (.ref b144), (.ref b144), (.ref b141), (.ref b141)])) _
                refine st183 _ ?_
                show Steps p.tables e below (T183.setTop (mkF m 632 #[.val (.int p1), .val (.int p2), .val (.int p3), .val (.int p4), .unset] [(.ref b144), (.ref b141), (.ref b141)])) _
                refine XS.dup X183.here hx rfl (hb hby d1_632) rfl rfl ?_
                show Steps p.tables e below (T183.setTop (mkF m 633 #[.val (.int p1), .val (.int p2), .val (.int p3), .val (.int p4), .unset] [(.ref b144), (.ref b144), (.ref b141), (.ref b141)])) _
                refine XS.bipush X183.here hx rfl (hb hby d1_633) ?_
                show Steps p.tables e below (T183.setTop (mkF m 635 #[.val (.int p1), .val (.int p2), .val (.int p3), .val (.int p4), .unset] [(.int (13 : Int32)), (.ref b144), (.ref b144), (.ref b141), (.ref b141)])) _
                refine XS.bipush X183.here hx rfl (hb hby d1_635) ?_
                show Steps p.tables e below (T183.setTop (mkF m 637 #[.val (.int p1), .val (.int p2), .val (.int p3), .val (.int p4), .unset] [(.int (84 : Int32)), (.int (13 : Int32)), (.ref b144), (.ref b144), (.ref b141), (.ref b141)])) _
                refine st186 _ ?_
                show Steps p.tables e below (T186.setTop (mkF m 638 #[.val (.int p1), .val (.int p2), .val (.int p3), .val (.int p4), .unset] [(.ref b144), (.ref b141), (.ref b141)])) _
                refine XS.dup X186.here hx rfl (hb hby d1_638) rfl rfl ?_
                show Steps p.tables e below (T186.setTop (mkF m 639 #[.val (.int p1), .val (.int p2), .val (.int p3), .val (.int p4), .unset] [(.ref b144), (.ref b144), (.ref b141), (.ref b141)])) _
                refine XS.bipush X186.here hx rfl (hb hby d1_639) ?_
                show Steps p.tables e below (T186.setTop (mkF m 641 #[.val (.int p1), .val (.int p2), .val (.int p3), .val (.int p4), .unset] [(.int (14 : Int32)), (.ref b144), (.ref b144), (.ref b141), (.ref b141)])) _
                refine XS.bipush X186.here hx rfl (hb hby d1_641) ?_
                show Steps p.tables e below (T186.setTop (mkF m 643 #[.val (.int p1), .val (.int p2), .val (.int p3), .val (.int p4), .unset] [(.int (79 : Int32)), (.int (14 : Int32)), (.ref b144), (.ref b144), (.ref b141), (.ref b141)])) _
                refine st189 _ ?_
                show Steps p.tables e below (T189.setTop (mkF m 644 #[.val (.int p1), .val (.int p2), .val (.int p3), .val (.int p4), .unset] [(.ref b144), (.ref b141), (.ref b141)])) _
                refine XS.dup X189.here hx rfl (hb hby d1_644) rfl rfl ?_
                show Steps p.tables e below (T189.setTop (mkF m 645 #[.val (.int p1), .val (.int p2), .val (.int p3), .val (.int p4), .unset] [(.ref b144), (.ref b144), (.ref b141), (.ref b141)])) _
                refine XS.bipush X189.here hx rfl (hb hby d1_645) ?_
                show Steps p.tables e below (T189.setTop (mkF m 647 #[.val (.int p1), .val (.int p2), .val (.int p3), .val (.int p4), .unset] [(.int (15 : Int32)), (.ref b144), (.ref b144), (.ref b141), (.ref b141)])) _
                refine XS.bipush X189.here hx rfl (hb hby d1_647) ?_
                show Steps p.tables e below (T189.setTop (mkF m 649 #[.val (.int p1), .val (.int p2), .val (.int p3), .val (.int p4), .unset] [(.int (84 : Int32)), (.int (15 : Int32)), (.ref b144), (.ref b144), (.ref b141), (.ref b141)])) _
                refine st192 _ ?_
                show Steps p.tables e below (T192.setTop (mkF m 650 #[.val (.int p1), .val (.int p2), .val (.int p3), .val (.int p4), .unset] [(.ref b144), (.ref b141), (.ref b141)])) _
                refine XS.dup X192.here hx rfl (hb hby d1_650) rfl rfl ?_
                show Steps p.tables e below (T192.setTop (mkF m 651 #[.val (.int p1), .val (.int p2), .val (.int p3), .val (.int p4), .unset] [(.ref b144), (.ref b144), (.ref b141), (.ref b141)])) _
                refine XS.bipush X192.here hx rfl (hb hby d1_651) ?_
                show Steps p.tables e below (T192.setTop (mkF m 653 #[.val (.int p1), .val (.int p2), .val (.int p3), .val (.int p4), .unset] [(.int (16 : Int32)), (.ref b144), (.ref b144), (.ref b141), (.ref b141)])) _
                refine XS.bipush X192.here hx rfl (hb hby d1_653) ?_
                show Steps p.tables e below (T192.setTop (mkF m 655 #[.val (.int p1), .val (.int p2), .val (.int p3), .val (.int p4), .unset] [(.int (80 : Int32)), (.int (16 : Int32)), (.ref b144), (.ref b144), (.ref b141), (.ref b141)])) _
                refine st195 _ ?_
                exact k
              obtain ⟨lq198, X198, N198⟩ : ∃ lq, Stand p l e ({ frames := 5, cells := 3, slots := 64, locals := 90 } : Room) (s.setVm s.vm) m #[(.int p1), (.int p2), (.int p3), (.int p4)] below meth c T195 lq 2 21 ∧ Fr n0 lq := ⟨_, X195, N195⟩
              obtain ⟨_, _, ⟨T199, L199, k199, n199⟩, -, X199, ⟨Lc199, hQ199, l199, y199, z199⟩, st199⟩ := X198.specialBack hx (y := (⟨"java/lang/String", "<init>", "([C)V"⟩ : MethodName)) rfl hown (mvT hZ (hw _ (List.mem_of_getElem? (i := 11) rfl))) (mvT hZ (hw _ (List.mem_of_getElem? (i := 12) rfl))) (mvT hZ (hw _ (List.mem_of_getElem? (i := 13) rfl))) (by decide) (StrChars.Road.backV (W := 1) hZ hws (kI := 4) (hw _ (List.mem_of_getElem? (i := 5) rfl)) (cs := ([nar .char p4, nar .char (67 : Int32), nar .char (104 : Int32), nar .char (97 : Int32), nar .char (108 : Int32), nar .char (108 : Int32), nar .char (101 : Int32), nar .char (110 : Int32), nar .char (103 : Int32), nar .char (101 : Int32), nar .char (79 : Int32), nar .char (77 : Int32), nar .char (65 : Int32), nar .char (84 : Int32), nar .char (79 : Int32), nar .char (84 : Int32), nar .char (80 : Int32)] : List Int32)) (bs := (([nar .char p4, nar .char (67 : Int32), nar .char (104 : Int32), nar .char (97 : Int32), nar .char (108 : Int32), nar .char (108 : Int32), nar .char (101 : Int32), nar .char (110 : Int32), nar .char (103 : Int32), nar .char (101 : Int32), nar .char (79 : Int32), nar .char (77 : Int32), nar .char (65 : Int32), nar .char (84 : Int32), nar .char (79 : Int32), nar .char (84 : Int32), nar .char (80 : Int32)] : List Int32)).map (fun c => c.toInt8.toInt32)) (n := 17) g_b141 Zs196 E_b141_195 F_b141_value_195 F_b141_coder_195 V195_b144 S_java_lang_String_COMPACT_STRINGS_195 P5 rfl rfl (by decide) (by decide) hp rfl (by decide) (by decide)) (g := (mkF m 656 #[.val (.int p1), .val (.int p2), .val (.int p3), .val (.int p4), .unset] [(.ref b144), (.ref b141), (.ref b141)])) rfl (by rw [hml]; rfl) (Steps.refl _) (a := b141) (argsL := [(.ref b144)]) (rest := [(.ref b141)]) (lenOf pd_5 rfl) rfl (by show 2 * 0 + _ ≤ _; exact Nat.le_of_eq rfl) (hb hby d1_656) (fun _ _ => ⟨rfl, e195, (by decide : 2 + 1 ≤ _), (by decide : 21 + 17 ≤ _)⟩)
              dsimp only [Pt.U, Pt.locs, Pt.cells, Pt.slots] at X199 l199 y199 z199 st199 hQ199
              subst l199 y199 z199
              obtain ⟨rfl, N199q, K199q, E199q, Fc199q, ta199, kb199, u1199, u2199, u3199, Fv199q, Vv199q⟩ := hQ199
              have N199 := Fr.app N198 N199q
              have E_b141_199 := E_b141_195.keep K199q
              have Zs200 := Nat.le_trans Zs196 K199q.1
              have hk201 := Nat.le_trans hk197 K199q.1
              have Kk199 := Kk195.trans K199q (allS (Or.inr sz_b141) all0)
              obtain ⟨fs, hr, hrun, hended, hEnd⟩ := Stand.leaveW (s := s) (vm₁ := s.vm) X199 hS0 (by exact hk201) (v := some (.ref b141)) (fun h => by rw [Bd.returns] at h; cases h)
              refine ⟨_, _, pre15 _ ?_, hrun, hended, _, _, rfl, ?_, ?_, hEnd.1, hEnd.2.1, hEnd.2.2.1, hEnd.2.2.2.mono (by decide) (by decide)⟩
              · show Steps p.tables e below (T195.setTop (mkF m 656 #[.val (.int p1), .val (.int p2), .val (.int p3), .val (.int p4), .unset] [(.ref b144), (.ref b141), (.ref b141)])) _
                refine st199.trans ?_
                show Steps p.tables e below (T199.setTop (mkF m 659 #[.val (.int p1), .val (.int p2), .val (.int p3), .val (.int p4), .unset] [(.ref b141)])) _
                exact retOut X199 hx Bd.returns rfl (Or.inr (Or.inr (Or.inr (Or.inr ⟨rfl, rfl, rfl⟩)))) (hb hby d1_659) hr
              · show Q1 Z p1 p2 p3 p4 G1 h0 n0 _ T199.heap _
                exact ⟨_, ([nar .char p4, nar .char (67 : Int32), nar .char (104 : Int32), nar .char (97 : Int32), nar .char (108 : Int32), nar .char (108 : Int32), nar .char (101 : Int32), nar .char (110 : Int32), nar .char (103 : Int32), nar .char (101 : Int32), nar .char (79 : Int32), nar .char (77 : Int32), nar .char (65 : Int32), nar .char (84 : Int32), nar .char (79 : Int32), nar .char (84 : Int32), nar .char (80 : Int32)] : List Int32), rfl, N199, Kk199, ta199, kb199, 17, E199q, Fv199q, Fc199q, Vv199q, hp, rfl, by decide⟩
              · show CHr Z consts_1 s.vm s.heap T199.vm T199.heap
                rw [hh]
                exact CHr.trans (CHr.keep Kk199 sf0 HC) (CHv.at (s := s) (vm0 := s.vm) X199 hZ hEL (CHv.keep Kk199 sf0 HC))
            · skip
              have pre16 : ∀ t, Steps p.tables e below (s₁.setTop (mkF m 660 #[.val (.int p1), .val (.int p2), .val (.int p3), .val (.int p4), .unset] [])) t → Steps p.tables e below (s₁.setTop (entryFrame m #[(.int p1), (.int p2), (.int p3), (.int p4)] 5)) t := by
                intro t k
                refine pre13 t ?_
                show Steps p.tables e below (s₁.setTop (mkF m 449 #[.val (.int p1), .val (.int p2), .val (.int p3), .val (.int p4), .unset] [])) _
                refine XS.iloadN X0.here hx rfl (hb hby d1_449) rfl ?_
                show Steps p.tables e below (s₁.setTop (mkF m 450 #[.val (.int p1), .val (.int p2), .val (.int p3), .val (.int p4), .unset] [(.int p2)])) _
                refine XS.iconst X0.here hx rfl (hb hby d1_450) ?_
                show Steps p.tables e below (s₁.setTop (mkF m 451 #[.val (.int p1), .val (.int p2), .val (.int p3), .val (.int p4), .unset] [(.int (4 : Int32)), (.int p2)])) _
                refine XS.icmpYes X0.here hx rfl (pc0 := 451) (pc' := 660) rfl (hb hby d1_451) rfl (feq k4).2 (by decide) (by decide) ?_
                exact k
              by_cases k5 : p2 = 5
              · skip
                have pre17 : ∀ t, Steps p.tables e below (s₁.setTop (mkF m 672 #[.val (.int p1), .val (.int p2), .val (.int p3), .val (.int p4), .unset] [])) t → Steps p.tables e below (s₁.setTop (entryFrame m #[(.int p1), (.int p2), (.int p3), (.int p4)] 5)) t := by
                  intro t k
                  refine pre16 t ?_
                  show Steps p.tables e below (s₁.setTop (mkF m 660 #[.val (.int p1), .val (.int p2), .val (.int p3), .val (.int p4), .unset] [])) _
                  refine XS.iloadN X0.here hx rfl (hb hby d1_660) rfl ?_
                  show Steps p.tables e below (s₁.setTop (mkF m 661 #[.val (.int p1), .val (.int p2), .val (.int p3), .val (.int p4), .unset] [(.int p2)])) _
                  refine XS.iconst X0.here hx rfl (hb hby d1_661) ?_
                  show Steps p.tables e below (s₁.setTop (mkF m 662 #[.val (.int p1), .val (.int p2), .val (.int p3), .val (.int p4), .unset] [(.int (5 : Int32)), (.int p2)])) _
                  refine XS.icmpNo X0.here hx rfl (hb hby d1_662) rfl (teq k5).2 ?_
                  show Steps p.tables e below (s₁.setTop (mkF m 665 #[.val (.int p1), .val (.int p2), .val (.int p3), .val (.int p4), .unset] [])) _
                  refine XS.iloadN X0.here hx rfl (hb hby d1_665) rfl ?_
                  show Steps p.tables e below (s₁.setTop (mkF m 666 #[.val (.int p1), .val (.int p2), .val (.int p3), .val (.int p4), .unset] [(.int p1)])) _
                  refine XS.ifYes X0.here hx rfl (pc0 := 666) (pc' := 672) rfl (hb hby d1_666) rfl ((if0 _ _).trans (teq ce).1) (by decide) (by decide) ?_
                  exact k
                obtain ⟨sl202, T202, h202, ki202, bv202, kb202, X202, e202, E202, hSi202, hki202, hZ, hown, Ea202, Fc202, Fv202, Va202, la202, lb202, hC202, hL202, hsf202, st202⟩ := ldcCH (s := s) (vm0 := s.vm) X0 hx hZ hown (hw _ (List.mem_of_getElem? (i := 102) rfl)) wS e0 hS0 hk0 hEL (List.mem_of_getElem? (i := 3) rfl) (CHv.keep KK0 sf0 HC) (vs := (([84, 79, 84, 80] : List Int32).map (fun c => c.toInt8.toInt32)).map Value.int) (z := (4 : Int32)) ⟨by decide +kernel, by decide +kernel⟩ (by decide) (by decide) (g := (mkF m 672 #[.val (.int p1), .val (.int p2), .val (.int p3), .val (.int p4), .unset] [])) rfl (hb hby d1_672) (n := 16) (by decide +kernel) (by decide) (by decide) (by decide)
                have S_java_lang_String_COMPACT_STRINGS_202 := S1.ext E202
                have Zs203 := Nat.le_trans Z0 E202.1
                have hk204 := Nat.le_trans hk0 E202.1
                have Kk202 := KK0.ext E202
                have CRn202 := CHr.trans (CHr.keep KK0 sf0 HC) hC202
                have KK202 := Keep.refl h202 ([] : List Addr)
                obtain ⟨fs, hr, hrun, hended, hEnd⟩ := Stand.leaveW (s := s) (vm₁ := T202.vm) X202 hSi202 (by rw [e202]; exact hki202) (v := some (.ref sl202)) (fun h => by rw [Bd.returns] at h; cases h)
                refine ⟨_, _, pre17 _ ?_, hrun, hended, _, _, rfl, ?_, ?_, hEnd.1, hEnd.2.1, hEnd.2.2.1, hEnd.2.2.2.mono (by decide) (by decide)⟩
                · show Steps p.tables e below (s₁.setTop (mkF m 672 #[.val (.int p1), .val (.int p2), .val (.int p3), .val (.int p4), .unset] [])) _
                  refine st202 _ ?_
                  show Steps p.tables e below (T202.setTop (mkF m 674 #[.val (.int p1), .val (.int p2), .val (.int p3), .val (.int p4), .unset] [(.ref sl202)])) _
                  exact retOut X202 hx Bd.returns rfl (Or.inr (Or.inr (Or.inr (Or.inr ⟨rfl, rfl, rfl⟩)))) (hb hby d1_674) hr
                · show Q1 Z p1 p2 p3 p4 G1 h0 n0 _ T202.heap _
                  rw [e202]
                  exact ⟨_, ([84, 79, 84, 80] : List Int32), rfl, N0, Kk202, bv202, kb202, 4, Ea202, Fv202, Fc202, Va202, by decide +kernel, rfl, by decide⟩
                · show CHr Z consts_1 s.vm s.heap T202.vm T202.heap
                  rw [hh, e202]
                  exact CHr.trans (CHr.trans CRn202 (CHr.keep KK202 sf0 hC202.1)) (CHv.at (s := s) (vm0 := T202.vm) X202 hZ hEL (CHv.keep KK202 sf0 hC202.1))
              · skip
                have pre18 : ∀ t, Steps p.tables e below (s₁.setTop (mkF m 675 #[.val (.int p1), .val (.int p2), .val (.int p3), .val (.int p4), .unset] [])) t → Steps p.tables e below (s₁.setTop (entryFrame m #[(.int p1), (.int p2), (.int p3), (.int p4)] 5)) t := by
                  intro t k
                  refine pre16 t ?_
                  show Steps p.tables e below (s₁.setTop (mkF m 660 #[.val (.int p1), .val (.int p2), .val (.int p3), .val (.int p4), .unset] [])) _
                  refine XS.iloadN X0.here hx rfl (hb hby d1_660) rfl ?_
                  show Steps p.tables e below (s₁.setTop (mkF m 661 #[.val (.int p1), .val (.int p2), .val (.int p3), .val (.int p4), .unset] [(.int p2)])) _
                  refine XS.iconst X0.here hx rfl (hb hby d1_661) ?_
                  show Steps p.tables e below (s₁.setTop (mkF m 662 #[.val (.int p1), .val (.int p2), .val (.int p3), .val (.int p4), .unset] [(.int (5 : Int32)), (.int p2)])) _
                  refine XS.icmpYes X0.here hx rfl (pc0 := 662) (pc' := 675) rfl (hb hby d1_662) rfl (feq k5).2 (by decide) (by decide) ?_
                  exact k
                by_cases k6 : p2 = 6
                · skip
                  have pre19 : ∀ t, Steps p.tables e below (s₁.setTop (mkF m 681 #[.val (.int p1), .val (.int p2), .val (.int p3), .val (.int p4), .unset] [])) t → Steps p.tables e below (s₁.setTop (entryFrame m #[(.int p1), (.int p2), (.int p3), (.int p4)] 5)) t := by
                    intro t k
                    refine pre18 t ?_
                    show Steps p.tables e below (s₁.setTop (mkF m 675 #[.val (.int p1), .val (.int p2), .val (.int p3), .val (.int p4), .unset] [])) _
                    refine XS.iloadN X0.here hx rfl (hb hby d1_675) rfl ?_
                    show Steps p.tables e below (s₁.setTop (mkF m 676 #[.val (.int p1), .val (.int p2), .val (.int p3), .val (.int p4), .unset] [(.int p2)])) _
                    refine XS.bipush X0.here hx rfl (hb hby d1_676) ?_
                    show Steps p.tables e below (s₁.setTop (mkF m 678 #[.val (.int p1), .val (.int p2), .val (.int p3), .val (.int p4), .unset] [(.int (6 : Int32)), (.int p2)])) _
                    refine XS.icmpNo X0.here hx rfl (hb hby d1_678) rfl (teq k6).2 ?_
                    exact k
                  obtain ⟨sl205, T205, h205, ki205, bv205, kb205, X205, e205, E205, hSi205, hki205, hZ, hown, Ea205, Fc205, Fv205, Va205, la205, lb205, hC205, hL205, hsf205, st205⟩ := ldcCH (s := s) (vm0 := s.vm) X0 hx hZ hown (hw _ (List.mem_of_getElem? (i := 103) rfl)) wS e0 hS0 hk0 hEL (List.mem_of_getElem? (i := 4) rfl) (CHv.keep KK0 sf0 HC) (vs := (([] : List Int32).map (fun c => c.toInt8.toInt32)).map Value.int) (z := (0 : Int32)) ⟨by decide +kernel, by decide +kernel⟩ (by decide) (by decide) (g := (mkF m 681 #[.val (.int p1), .val (.int p2), .val (.int p3), .val (.int p4), .unset] [])) rfl (hb hby d1_681) (n := 0) (by decide +kernel) (by decide) (by decide) (by decide)
                  have S_java_lang_String_COMPACT_STRINGS_205 := S1.ext E205
                  have Zs206 := Nat.le_trans Z0 E205.1
                  have hk207 := Nat.le_trans hk0 E205.1
                  have Kk205 := KK0.ext E205
                  have CRn205 := CHr.trans (CHr.keep KK0 sf0 HC) hC205
                  have KK205 := Keep.refl h205 ([] : List Addr)
                  obtain ⟨fs, hr, hrun, hended, hEnd⟩ := Stand.leaveW (s := s) (vm₁ := T205.vm) X205 hSi205 (by rw [e205]; exact hki205) (v := some (.ref sl205)) (fun h => by rw [Bd.returns] at h; cases h)
                  refine ⟨_, _, pre19 _ ?_, hrun, hended, _, _, rfl, ?_, ?_, hEnd.1, hEnd.2.1, hEnd.2.2.1, hEnd.2.2.2.mono (by decide) (by decide)⟩
                  · show Steps p.tables e below (s₁.setTop (mkF m 681 #[.val (.int p1), .val (.int p2), .val (.int p3), .val (.int p4), .unset] [])) _
                    refine st205 _ ?_
                    show Steps p.tables e below (T205.setTop (mkF m 683 #[.val (.int p1), .val (.int p2), .val (.int p3), .val (.int p4), .unset] [(.ref sl205)])) _
                    exact retOut X205 hx Bd.returns rfl (Or.inr (Or.inr (Or.inr (Or.inr ⟨rfl, rfl, rfl⟩)))) (hb hby d1_683) hr
                  · show Q1 Z p1 p2 p3 p4 G1 h0 n0 _ T205.heap _
                    rw [e205]
                    exact ⟨_, ([] : List Int32), rfl, N0, Kk205, bv205, kb205, 0, Ea205, Fv205, Fc205, Va205, by decide +kernel, rfl, by decide⟩
                  · show CHr Z consts_1 s.vm s.heap T205.vm T205.heap
                    rw [hh, e205]
                    exact CHr.trans (CHr.trans CRn205 (CHr.keep KK205 sf0 hC205.1)) (CHv.at (s := s) (vm0 := T205.vm) X205 hZ hEL (CHv.keep KK205 sf0 hC205.1))
                · skip
                  have pre20 : ∀ t, Steps p.tables e below (s₁.setTop (mkF m 684 #[.val (.int p1), .val (.int p2), .val (.int p3), .val (.int p4), .unset] [])) t → Steps p.tables e below (s₁.setTop (entryFrame m #[(.int p1), (.int p2), (.int p3), (.int p4)] 5)) t := by
                    intro t k
                    refine pre18 t ?_
                    show Steps p.tables e below (s₁.setTop (mkF m 675 #[.val (.int p1), .val (.int p2), .val (.int p3), .val (.int p4), .unset] [])) _
                    refine XS.iloadN X0.here hx rfl (hb hby d1_675) rfl ?_
                    show Steps p.tables e below (s₁.setTop (mkF m 676 #[.val (.int p1), .val (.int p2), .val (.int p3), .val (.int p4), .unset] [(.int p2)])) _
                    refine XS.bipush X0.here hx rfl (hb hby d1_676) ?_
                    show Steps p.tables e below (s₁.setTop (mkF m 678 #[.val (.int p1), .val (.int p2), .val (.int p3), .val (.int p4), .unset] [(.int (6 : Int32)), (.int p2)])) _
                    refine XS.icmpYes X0.here hx rfl (pc0 := 678) (pc' := 684) rfl (hb hby d1_678) rfl (feq k6).2 (by decide) (by decide) ?_
                    exact k
                  have hp : ∀ c ∈ ([nar .char (67 : Int32), nar .char (104 : Int32), nar .char (97 : Int32), nar .char (108 : Int32), nar .char (108 : Int32), nar .char (101 : Int32), nar .char (110 : Int32), nar .char (103 : Int32), nar .char (101 : Int32)] : List Int32), ¬ c < 0 ∧ ¬ (255 : Int32) < c := (own_cc (by decide +kernel) (own_cc (by decide +kernel) (own_cc (by decide +kernel) (own_cc (by decide +kernel) (own_cc (by decide +kernel) (own_cc (by decide +kernel) (own_cc (by decide +kernel) (own_cc (by decide +kernel) (own_cc (by decide +kernel) own_cn)))))))))
                  obtain ⟨T208, h208, X208, e208, E208, A208, D208, -, st208⟩ := newO X0 hx hZ hown (hw _ (List.mem_of_getElem? (i := 4) rfl)) (hw _ (List.mem_of_getElem? (i := 5) rfl)) (hw _ (List.mem_of_getElem? (i := 6) rfl)) e0 (g := (mkF m 684 #[.val (.int p1), .val (.int p2), .val (.int p3), .val (.int p4), .unset] [])) rfl (hb hby d1_684) (by decide) (by decide)
                  obtain ⟨b208, g208⟩ : ∃ z, z = h0.size := ⟨_, rfl⟩
                  rw [← g208] at A208 D208 st208
                  have g_b208 : n0 ≤ b208 := Nat.le_trans Z0 (Nat.le_of_eq g208.symm)
                  have sz_b208 := Nat.le_trans KK0.1 (Nat.le_of_eq g208.symm)
                  have S_java_lang_String_COMPACT_STRINGS_208 := S1.ext E208
                  have Zs209 := Nat.le_trans Z0 E208.1
                  have hk210 := Nat.le_trans hk0 E208.1
                  have Kk208 := KK0.ext E208
                  have F_coder_b208 : Fld Z h208 b208 "java/lang/String" "coder" "B" (.int (0 : Int32)) := D208 (Or.inr (hw _ (List.mem_of_getElem? (i := 34) rfl))) (ty := .byte) (by decide)
                  have F_value_b208 : Fld Z h208 b208 "java/lang/String" "value" "[B" .null := D208 (Or.inr (hw _ (List.mem_of_getElem? (i := 36) rfl))) (ty := (.array .byte)) (by decide)
                  obtain ⟨T211, h211, k211, X211, e211, E211, A211, st211⟩ := newP X208 hx hZ (hw _ (List.mem_of_getElem? (i := 10) rfl)) e208 (g := (mkF m 690 #[.val (.int p1), .val (.int p2), .val (.int p3), .val (.int p4), .unset] [(.int (9 : Int32)), (.ref b208), (.ref b208)])) rfl (hb hby d1_690) rfl (by decide) (cap := 9) (by decide) (by decide) (by decide) (by decide)
                  obtain ⟨b211, g211⟩ : ∃ z, z = h208.size := ⟨_, rfl⟩
                  rw [← g211] at A211 st211
                  have ne_b208_b211 : b208 ≠ b211 := Nat.ne_of_lt (Nat.lt_of_lt_of_le F_coder_b208.lt (Nat.le_of_eq g211.symm))
                  have g_b211 : n0 ≤ b211 := Nat.le_trans Zs209 (Nat.le_of_eq g211.symm)
                  have sz_b211 := Nat.le_trans Kk208.1 (Nat.le_of_eq g211.symm)
                  have S_java_lang_String_COMPACT_STRINGS_211 := S_java_lang_String_COMPACT_STRINGS_208.ext E211
                  have F_b208_coder_211 := F_coder_b208.ext E211
                  have F_b208_value_211 := F_value_b208.ext E211
                  have E_b208_211 := A208.ext E211
                  have Zs212 := Nat.le_trans Zs209 E211.1
                  have hk213 := Nat.le_trans hk210 E211.1
                  have Kk211 := Kk208.ext E211
                  have V_b211 : Arv Z h211 b211 k211 .char (9 : Int32) [(.int (0 : Int32)), (.int (0 : Int32)), (.int (0 : Int32)), (.int (0 : Int32)), (.int (0 : Int32)), (.int (0 : Int32)), (.int (0 : Int32)), (.int (0 : Int32)), (.int (0 : Int32))] (.int (0 : Int32)) := (Arv.new A211 (by decide)).pad (pad_rep [] (.int (0 : Int32)) 9)
                  obtain ⟨cl214, Ar214, q214, S214, N214m, H214, G214⟩ := id V_b211
                  have hin214 : ¬ ((0 : Int32) < 0 ∨ cl214.slots.size ≤ ((0 : Int32)).toNatClampNeg) := inb_of S214 ⟨by decide, by decide⟩
                  obtain ⟨T214, h214, X214, e214, W214, st214⟩ := stC X211 hx hZ e211 Ar214 (j := (0 : Int32)) hin214 (g := (mkF m 696 #[.val (.int p1), .val (.int p2), .val (.int p3), .val (.int p4), .unset] [(.int (67 : Int32)), (.int (0 : Int32)), (.ref b211), (.ref b211), (.ref b208), (.ref b208)])) rfl rfl (hb hby d1_696)
                  have V214_b211 : Arv Z h214 b211 k211 .char (9 : Int32) [(.int (nar .char (67 : Int32))), (.int (0 : Int32)), (.int (0 : Int32)), (.int (0 : Int32)), (.int (0 : Int32)), (.int (0 : Int32)), (.int (0 : Int32)), (.int (0 : Int32)), (.int (0 : Int32))] (.int (0 : Int32)) := Arv.set Ar214 q214 S214 N214m H214 G214 (fits_nar_char _) W214 0 rfl (Nat.le_of_ble_eq_true rfl)
                  have S_java_lang_String_COMPACT_STRINGS_214 := S_java_lang_String_COMPACT_STRINGS_211.wr W214
                  have F_b208_coder_214 := F_b208_coder_211.other W214 (Or.inl ne_b208_b211)
                  have F_b208_value_214 := F_b208_value_211.other W214 (Or.inl ne_b208_b211)
                  have E_b208_214 := E_b208_211.wr W214
                  have Zs215 := Nat.le_trans Zs212 (Keep.of_wr W214).1
                  have hk216 := Nat.le_trans hk213 (Keep.of_wr W214).1
                  have Kk214 := Kk211.wr W214 (Or.inr sz_b211)
                  have N214 := Fr.snoc X214 N0 g_b211
                  obtain ⟨cl217, Ar217, q217, S217, N217m, H217, G217⟩ := id V214_b211
                  have hin217 : ¬ ((1 : Int32) < 0 ∨ cl217.slots.size ≤ ((1 : Int32)).toNatClampNeg) := inb_of S217 ⟨by decide, by decide⟩
                  obtain ⟨T217, h217, X217, e217, W217, st217⟩ := stC X214 hx hZ e214 Ar217 (j := (1 : Int32)) hin217 (g := (mkF m 701 #[.val (.int p1), .val (.int p2), .val (.int p3), .val (.int p4), .unset] [(.int (104 : Int32)), (.int (1 : Int32)), (.ref b211), (.ref b211), (.ref b208), (.ref b208)])) rfl rfl (hb hby d1_701)
                  have V217_b211 : Arv Z h217 b211 k211 .char (9 : Int32) [(.int (nar .char (67 : Int32))), (.int (nar .char (104 : Int32))), (.int (0 : Int32)), (.int (0 : Int32)), (.int (0 : Int32)), (.int (0 : Int32)), (.int (0 : Int32)), (.int (0 : Int32)), (.int (0 : Int32))] (.int (0 : Int32)) := Arv.set Ar217 q217 S217 N217m H217 G217 (fits_nar_char _) W217 1 rfl (Nat.le_of_ble_eq_true rfl)
                  have S_java_lang_String_COMPACT_STRINGS_217 := S_java_lang_String_COMPACT_STRINGS_214.wr W217
                  have F_b208_coder_217 := F_b208_coder_214.other W217 (Or.inl ne_b208_b211)
                  have F_b208_value_217 := F_b208_value_214.other W217 (Or.inl ne_b208_b211)
                  have E_b208_217 := E_b208_214.wr W217
                  have Zs218 := Nat.le_trans Zs215 (Keep.of_wr W217).1
                  have hk219 := Nat.le_trans hk216 (Keep.of_wr W217).1
                  have Kk217 := Kk214.wr W217 (Or.inr sz_b211)
                  have N217 := Fr.snoc X217 N214 g_b211
                  obtain ⟨cl220, Ar220, q220, S220, N220m, H220, G220⟩ := id V217_b211
                  have hin220 : ¬ ((2 : Int32) < 0 ∨ cl220.slots.size ≤ ((2 : Int32)).toNatClampNeg) := inb_of S220 ⟨by decide, by decide⟩
                  obtain ⟨T220, h220, X220, e220, W220, st220⟩ := stC X217 hx hZ e217 Ar220 (j := (2 : Int32)) hin220 (g := (mkF m 706 #[.val (.int p1), .val (.int p2), .val (.int p3), .val (.int p4), .unset] [(.int (97 : Int32)), (.int (2 : Int32)), (.ref b211), (.ref b211), (.ref b208), (.ref b208)])) rfl rfl (hb hby d1_706)
                  have V220_b211 : Arv Z h220 b211 k211 .char (9 : Int32) [(.int (nar .char (67 : Int32))), (.int (nar .char (104 : Int32))), (.int (nar .char (97 : Int32))), (.int (0 : Int32)), (.int (0 : Int32)), (.int (0 : Int32)), (.int (0 : Int32)), (.int (0 : Int32)), (.int (0 : Int32))] (.int (0 : Int32)) := Arv.set Ar220 q220 S220 N220m H220 G220 (fits_nar_char _) W220 2 rfl (Nat.le_of_ble_eq_true rfl)
                  have S_java_lang_String_COMPACT_STRINGS_220 := S_java_lang_String_COMPACT_STRINGS_217.wr W220
                  have F_b208_coder_220 := F_b208_coder_217.other W220 (Or.inl ne_b208_b211)
                  have F_b208_value_220 := F_b208_value_217.other W220 (Or.inl ne_b208_b211)
                  have E_b208_220 := E_b208_217.wr W220
                  have Zs221 := Nat.le_trans Zs218 (Keep.of_wr W220).1
                  have hk222 := Nat.le_trans hk219 (Keep.of_wr W220).1
                  have Kk220 := Kk217.wr W220 (Or.inr sz_b211)
                  have N220 := Fr.snoc X220 N217 g_b211
                  obtain ⟨cl223, Ar223, q223, S223, N223m, H223, G223⟩ := id V220_b211
                  have hin223 : ¬ ((3 : Int32) < 0 ∨ cl223.slots.size ≤ ((3 : Int32)).toNatClampNeg) := inb_of S223 ⟨by decide, by decide⟩
                  obtain ⟨T223, h223, X223, e223, W223, st223⟩ := stC X220 hx hZ e220 Ar223 (j := (3 : Int32)) hin223 (g := (mkF m 711 #[.val (.int p1), .val (.int p2), .val (.int p3), .val (.int p4), .unset] [(.int (108 : Int32)), (.int (3 : Int32)), (.ref b211), (.ref b211), (.ref b208), (.ref b208)])) rfl rfl (hb hby d1_711)
                  have V223_b211 : Arv Z h223 b211 k211 .char (9 : Int32) [(.int (nar .char (67 : Int32))), (.int (nar .char (104 : Int32))), (.int (nar .char (97 : Int32))), (.int (nar .char (108 : Int32))), (.int (0 : Int32)), (.int (0 : Int32)), (.int (0 : Int32)), (.int (0 : Int32)), (.int (0 : Int32))] (.int (0 : Int32)) := Arv.set Ar223 q223 S223 N223m H223 G223 (fits_nar_char _) W223 3 rfl (Nat.le_of_ble_eq_true rfl)
                  have S_java_lang_String_COMPACT_STRINGS_223 := S_java_lang_String_COMPACT_STRINGS_220.wr W223
                  have F_b208_coder_223 := F_b208_coder_220.other W223 (Or.inl ne_b208_b211)
                  have F_b208_value_223 := F_b208_value_220.other W223 (Or.inl ne_b208_b211)
                  have E_b208_223 := E_b208_220.wr W223
                  have Zs224 := Nat.le_trans Zs221 (Keep.of_wr W223).1
                  have hk225 := Nat.le_trans hk222 (Keep.of_wr W223).1
                  have Kk223 := Kk220.wr W223 (Or.inr sz_b211)
                  have N223 := Fr.snoc X223 N220 g_b211
                  obtain ⟨cl226, Ar226, q226, S226, N226m, H226, G226⟩ := id V223_b211
                  have hin226 : ¬ ((4 : Int32) < 0 ∨ cl226.slots.size ≤ ((4 : Int32)).toNatClampNeg) := inb_of S226 ⟨by decide, by decide⟩
                  obtain ⟨T226, h226, X226, e226, W226, st226⟩ := stC X223 hx hZ e223 Ar226 (j := (4 : Int32)) hin226 (g := (mkF m 716 #[.val (.int p1), .val (.int p2), .val (.int p3), .val (.int p4), .unset] [(.int (108 : Int32)), (.int (4 : Int32)), (.ref b211), (.ref b211), (.ref b208), (.ref b208)])) rfl rfl (hb hby d1_716)
                  have V226_b211 : Arv Z h226 b211 k211 .char (9 : Int32) [(.int (nar .char (67 : Int32))), (.int (nar .char (104 : Int32))), (.int (nar .char (97 : Int32))), (.int (nar .char (108 : Int32))), (.int (nar .char (108 : Int32))), (.int (0 : Int32)), (.int (0 : Int32)), (.int (0 : Int32)), (.int (0 : Int32))] (.int (0 : Int32)) := Arv.set Ar226 q226 S226 N226m H226 G226 (fits_nar_char _) W226 4 rfl (Nat.le_of_ble_eq_true rfl)
                  have S_java_lang_String_COMPACT_STRINGS_226 := S_java_lang_String_COMPACT_STRINGS_223.wr W226
                  have F_b208_coder_226 := F_b208_coder_223.other W226 (Or.inl ne_b208_b211)
                  have F_b208_value_226 := F_b208_value_223.other W226 (Or.inl ne_b208_b211)
                  have E_b208_226 := E_b208_223.wr W226
                  have Zs227 := Nat.le_trans Zs224 (Keep.of_wr W226).1
                  have hk228 := Nat.le_trans hk225 (Keep.of_wr W226).1
                  have Kk226 := Kk223.wr W226 (Or.inr sz_b211)
                  have N226 := Fr.snoc X226 N223 g_b211
                  obtain ⟨cl229, Ar229, q229, S229, N229m, H229, G229⟩ := id V226_b211
                  have hin229 : ¬ ((5 : Int32) < 0 ∨ cl229.slots.size ≤ ((5 : Int32)).toNatClampNeg) := inb_of S229 ⟨by decide, by decide⟩
                  obtain ⟨T229, h229, X229, e229, W229, st229⟩ := stC X226 hx hZ e226 Ar229 (j := (5 : Int32)) hin229 (g := (mkF m 721 #[.val (.int p1), .val (.int p2), .val (.int p3), .val (.int p4), .unset] [(.int (101 : Int32)), (.int (5 : Int32)), (.ref b211), (.ref b211), (.ref b208), (.ref b208)])) rfl rfl (hb hby d1_721)
                  have V229_b211 : Arv Z h229 b211 k211 .char (9 : Int32) [(.int (nar .char (67 : Int32))), (.int (nar .char (104 : Int32))), (.int (nar .char (97 : Int32))), (.int (nar .char (108 : Int32))), (.int (nar .char (108 : Int32))), (.int (nar .char (101 : Int32))), (.int (0 : Int32)), (.int (0 : Int32)), (.int (0 : Int32))] (.int (0 : Int32)) := Arv.set Ar229 q229 S229 N229m H229 G229 (fits_nar_char _) W229 5 rfl (Nat.le_of_ble_eq_true rfl)
                  have S_java_lang_String_COMPACT_STRINGS_229 := S_java_lang_String_COMPACT_STRINGS_226.wr W229
                  have F_b208_coder_229 := F_b208_coder_226.other W229 (Or.inl ne_b208_b211)
                  have F_b208_value_229 := F_b208_value_226.other W229 (Or.inl ne_b208_b211)
                  have E_b208_229 := E_b208_226.wr W229
                  have Zs230 := Nat.le_trans Zs227 (Keep.of_wr W229).1
                  have hk231 := Nat.le_trans hk228 (Keep.of_wr W229).1
                  have Kk229 := Kk226.wr W229 (Or.inr sz_b211)
                  have N229 := Fr.snoc X229 N226 g_b211
                  obtain ⟨cl232, Ar232, q232, S232, N232m, H232, G232⟩ := id V229_b211
                  have hin232 : ¬ ((6 : Int32) < 0 ∨ cl232.slots.size ≤ ((6 : Int32)).toNatClampNeg) := inb_of S232 ⟨by decide, by decide⟩
                  obtain ⟨T232, h232, X232, e232, W232, st232⟩ := stC X229 hx hZ e229 Ar232 (j := (6 : Int32)) hin232 (g := (mkF m 727 #[.val (.int p1), .val (.int p2), .val (.int p3), .val (.int p4), .unset] [(.int (110 : Int32)), (.int (6 : Int32)), (.ref b211), (.ref b211), (.ref b208), (.ref b208)])) rfl rfl (hb hby d1_727)
                  have V232_b211 : Arv Z h232 b211 k211 .char (9 : Int32) [(.int (nar .char (67 : Int32))), (.int (nar .char (104 : Int32))), (.int (nar .char (97 : Int32))), (.int (nar .char (108 : Int32))), (.int (nar .char (108 : Int32))), (.int (nar .char (101 : Int32))), (.int (nar .char (110 : Int32))), (.int (0 : Int32)), (.int (0 : Int32))] (.int (0 : Int32)) := Arv.set Ar232 q232 S232 N232m H232 G232 (fits_nar_char _) W232 6 rfl (Nat.le_of_ble_eq_true rfl)
                  have S_java_lang_String_COMPACT_STRINGS_232 := S_java_lang_String_COMPACT_STRINGS_229.wr W232
                  have F_b208_coder_232 := F_b208_coder_229.other W232 (Or.inl ne_b208_b211)
                  have F_b208_value_232 := F_b208_value_229.other W232 (Or.inl ne_b208_b211)
                  have E_b208_232 := E_b208_229.wr W232
                  have Zs233 := Nat.le_trans Zs230 (Keep.of_wr W232).1
                  have hk234 := Nat.le_trans hk231 (Keep.of_wr W232).1
                  have Kk232 := Kk229.wr W232 (Or.inr sz_b211)
                  have N232 := Fr.snoc X232 N229 g_b211
                  obtain ⟨cl235, Ar235, q235, S235, N235m, H235, G235⟩ := id V232_b211
                  have hin235 : ¬ ((7 : Int32) < 0 ∨ cl235.slots.size ≤ ((7 : Int32)).toNatClampNeg) := inb_of S235 ⟨by decide, by decide⟩
                  obtain ⟨T235, h235, X235, e235, W235, st235⟩ := stC X232 hx hZ e232 Ar235 (j := (7 : Int32)) hin235 (g := (mkF m 733 #[.val (.int p1), .val (.int p2), .val (.int p3), .val (.int p4), .unset] [(.int (103 : Int32)), (.int (7 : Int32)), (.ref b211), (.ref b211), (.ref b208), (.ref b208)])) rfl rfl (hb hby d1_733)
                  have V235_b211 : Arv Z h235 b211 k211 .char (9 : Int32) [(.int (nar .char (67 : Int32))), (.int (nar .char (104 : Int32))), (.int (nar .char (97 : Int32))), (.int (nar .char (108 : Int32))), (.int (nar .char (108 : Int32))), (.int (nar .char (101 : Int32))), (.int (nar .char (110 : Int32))), (.int (nar .char (103 : Int32))), (.int (0 : Int32))] (.int (0 : Int32)) := Arv.set Ar235 q235 S235 N235m H235 G235 (fits_nar_char _) W235 7 rfl (Nat.le_of_ble_eq_true rfl)
                  have S_java_lang_String_COMPACT_STRINGS_235 := S_java_lang_String_COMPACT_STRINGS_232.wr W235
                  have F_b208_coder_235 := F_b208_coder_232.other W235 (Or.inl ne_b208_b211)
                  have F_b208_value_235 := F_b208_value_232.other W235 (Or.inl ne_b208_b211)
                  have E_b208_235 := E_b208_232.wr W235
                  have Zs236 := Nat.le_trans Zs233 (Keep.of_wr W235).1
                  have hk237 := Nat.le_trans hk234 (Keep.of_wr W235).1
                  have Kk235 := Kk232.wr W235 (Or.inr sz_b211)
                  have N235 := Fr.snoc X235 N232 g_b211
                  obtain ⟨cl238, Ar238, q238, S238, N238m, H238, G238⟩ := id V235_b211
                  have hin238 : ¬ ((8 : Int32) < 0 ∨ cl238.slots.size ≤ ((8 : Int32)).toNatClampNeg) := inb_of S238 ⟨by decide, by decide⟩
                  obtain ⟨T238, h238, X238, e238, W238, st238⟩ := stC X235 hx hZ e235 Ar238 (j := (8 : Int32)) hin238 (g := (mkF m 739 #[.val (.int p1), .val (.int p2), .val (.int p3), .val (.int p4), .unset] [(.int (101 : Int32)), (.int (8 : Int32)), (.ref b211), (.ref b211), (.ref b208), (.ref b208)])) rfl rfl (hb hby d1_739)
                  have V238_b211 : Arv Z h238 b211 k211 .char (9 : Int32) [(.int (nar .char (67 : Int32))), (.int (nar .char (104 : Int32))), (.int (nar .char (97 : Int32))), (.int (nar .char (108 : Int32))), (.int (nar .char (108 : Int32))), (.int (nar .char (101 : Int32))), (.int (nar .char (110 : Int32))), (.int (nar .char (103 : Int32))), (.int (nar .char (101 : Int32)))] (.int (0 : Int32)) := Arv.set Ar238 q238 S238 N238m H238 G238 (fits_nar_char _) W238 8 rfl (Nat.le_of_ble_eq_true rfl)
                  have S_java_lang_String_COMPACT_STRINGS_238 := S_java_lang_String_COMPACT_STRINGS_235.wr W238
                  have F_b208_coder_238 := F_b208_coder_235.other W238 (Or.inl ne_b208_b211)
                  have F_b208_value_238 := F_b208_value_235.other W238 (Or.inl ne_b208_b211)
                  have E_b208_238 := E_b208_235.wr W238
                  have Zs239 := Nat.le_trans Zs236 (Keep.of_wr W238).1
                  have hk240 := Nat.le_trans hk237 (Keep.of_wr W238).1
                  have Kk238 := Kk235.wr W238 (Or.inr sz_b211)
                  have N238 := Fr.snoc X238 N235 g_b211
                  have pre21 : ∀ t, Steps p.tables e below (T238.setTop (mkF m 740 #[.val (.int p1), .val (.int p2), .val (.int p3), .val (.int p4), .unset] [(.ref b211), (.ref b208), (.ref b208)])) t → Steps p.tables e below (s₁.setTop (entryFrame m #[(.int p1), (.int p2), (.int p3), (.int p4)] 5)) t := by
                    intro t k
                    refine pre20 t ?_
                    show Steps p.tables e below (s₁.setTop (mkF m 684 #[.val (.int p1), .val (.int p2), .val (.int p3), .val (.int p4), .unset] [])) _
                    refine st208 _ ?_
                    show Steps p.tables e below (T208.setTop (mkF m 687 #[.val (.int p1), .val (.int p2), .val (.int p3), .val (.int p4), .unset] [(.ref b208)])) _
                    refine XS.dup X208.here hx rfl (hb hby d1_687) rfl rfl ?_
                    show Steps p.tables e below (T208.setTop (mkF m 688 #[.val (.int p1), .val (.int p2), .val (.int p3), .val (.int p4), .unset] [(.ref b208), (.ref b208)])) _
                    refine XS.bipush X208.here hx rfl (hb hby d1_688) ?_
                    show Steps p.tables e below (T208.setTop (mkF m 690 #[.val (.int p1), .val (.int p2), .val (.int p3), .val (.int p4), .unset] [(.int (9 : Int32)), (.ref b208), (.ref b208)])) _
                    refine st211 _ ?_
                    show Steps p.tables e below (T211.setTop (mkF m 692 #[.val (.int p1), .val (.int p2), .val (.int p3), .val (.int p4), .unset] [(.ref b211), (.ref b208), (.ref b208)])) _
                    refine XS.dup X211.here hx rfl (hb hby d1_692) rfl rfl ?_
                    show Steps p.tables e below (T211.setTop (mkF m 693 #[.val (.int p1), .val (.int p2), .val (.int p3), .val (.int p4), .unset] [(.ref b211), (.ref b211), (.ref b208), (.ref b208)])) _
                    refine XS.iconst X211.here hx rfl (hb hby d1_693) ?_
                    show Steps p.tables e below (T211.setTop (mkF m 694 #[.val (.int p1), .val (.int p2), .val (.int p3), .val (.int p4), .unset] [(.int (0 : Int32)), (.ref b211), (.ref b211), (.ref b208), (.ref b208)])) _
                    refine XS.bipush X211.here hx rfl (hb hby d1_694) ?_
                    show Steps p.tables e below (T211.setTop (mkF m 696 #[.val (.int p1), .val (.int p2), .val (.int p3), .val (.int p4), .unset] [(.int (67 : Int32)), (.int (0 : Int32)), (.ref b211), (.ref b211), (.ref b208), (.ref b208)])) _
                    refine st214 _ ?_
                    show Steps p.tables e below (T214.setTop (mkF m 697 #[.val (.int p1), .val (.int p2), .val (.int p3), .val (.int p4), .unset] [(.ref b211), (.ref b208), (.ref b208)])) _
                    refine XS.dup X214.here hx rfl (hb hby d1_697) rfl rfl ?_
                    show Steps p.tables e below (T214.setTop (mkF m 698 #[.val (.int p1), .val (.int p2), .val (.int p3), .val (.int p4), .unset] [(.ref b211), (.ref b211), (.ref b208), (.ref b208)])) _
                    refine XS.iconst X214.here hx rfl (hb hby d1_698) ?_
                    show Steps p.tables e below (T214.setTop (mkF m 699 #[.val (.int p1), .val (.int p2), .val (.int p3), .val (.int p4), .unset] [(.int (1 : Int32)), (.ref b211), (.ref b211), (.ref b208), (.ref b208)])) _
                    refine XS.bipush X214.here hx rfl (hb hby d1_699) ?_
                    show Steps p.tables e below (T214.setTop (mkF m 701 #[.val (.int p1), .val (.int p2), .val (.int p3), .val (.int p4), .unset] [(.int (104 : Int32)), (.int (1 : Int32)), (.ref b211), (.ref b211), (.ref b208), (.ref b208)])) _
                    refine st217 _ ?_
                    show Steps p.tables e below (T217.setTop (mkF m 702 #[.val (.int p1), .val (.int p2), .val (.int p3), .val (.int p4), .unset] [(.ref b211), (.ref b208), (.ref b208)])) _
                    refine XS.dup X217.here hx rfl (hb hby d1_702) rfl rfl ?_
                    show Steps p.tables e below (T217.setTop (mkF m 703 #[.val (.int p1), .val (.int p2), .val (.int p3), .val (.int p4), .unset] [(.ref b211), (.ref b211), (.ref b208), (.ref b208)])) _
                    refine XS.iconst X217.here hx rfl (hb hby d1_703) ?_
                    show Steps p.tables e below (T217.setTop (mkF m 704 #[.val (.int p1), .val (.int p2), .val (.int p3), .val (.int p4), .unset] [(.int (2 : Int32)), (.ref b211), (.ref b211), (.ref b208), (.ref b208)])) _
                    refine XS.bipush X217.here hx rfl (hb hby d1_704) ?_
                    show Steps p.tables e below (T217.setTop (mkF m 706 #[.val (.int p1), .val (.int p2), .val (.int p3), .val (.int p4), .unset] [(.int (97 : Int32)), (.int (2 : Int32)), (.ref b211), (.ref b211), (.ref b208), (.ref b208)])) _
                    refine st220 _ ?_
                    show Steps p.tables e below (T220.setTop (mkF m 707 #[.val (.int p1), .val (.int p2), .val (.int p3), .val (.int p4), .unset] [(.ref b211), (.ref b208), (.ref b208)])) _
                    refine XS.dup X220.here hx rfl (hb hby d1_707) rfl rfl ?_
                    show Steps p.tables e below (T220.setTop (mkF m 708 #[.val (.int p1), .val (.int p2), .val (.int p3), .val (.int p4), .unset] [(.ref b211), (.ref b211), (.ref b208), (.ref b208)])) _
                    refine XS.iconst X220.here hx rfl (hb hby d1_708) ?_
                    show Steps p.tables e below (T220.setTop (mkF m 709 #[.val (.int p1), .val (.int p2), .val (.int p3), .val (.int p4), .unset] [(.int (3 : Int32)), (.ref b211), (.ref b211), (.ref b208), (.ref b208)])) _
                    refine XS.bipush X220.here hx rfl (hb hby d1_709) ?_
                    show Steps p.tables e below (T220.setTop (mkF m 711 #[.val (.int p1), .val (.int p2), .val (.int p3), .val (.int p4), .unset] [(.int (108 : Int32)), (.int (3 : Int32)), (.ref b211), (.ref b211), (.ref b208), (.ref b208)])) _
                    refine st223 _ ?_
                    show Steps p.tables e below (T223.setTop (mkF m 712 #[.val (.int p1), .val (.int p2), .val (.int p3), .val (.int p4), .unset] [(.ref b211), (.ref b208), (.ref b208)])) _
                    refine XS.dup X223.here hx rfl (hb hby d1_712) rfl rfl ?_
                    show Steps p.tables e below (T223.setTop (mkF m 713 #[.val (.int p1), .val (.int p2), .val (.int p3), .val (.int p4), .unset] [(.ref b211), (.ref b211), (.ref b208), (.ref b208)])) _
                    refine XS.iconst X223.here hx rfl (hb hby d1_713) ?_
                    show Steps p.tables e below (T223.setTop (mkF m 714 #[.val (.int p1), .val (.int p2), .val (.int p3), .val (.int p4), .unset] [(.int (4 : Int32)), (.ref b211), (.ref b211), (.ref b208), (.ref b208)])) _
                    refine XS.bipush X223.here hx rfl (hb hby d1_714) ?_
                    show Steps p.tables e below (T223.setTop (mkF m 716 #[.val (.int p1), .val (.int p2), .val (.int p3), .val (.int p4), .unset] [(.int (108 : Int32)), (.int (4 : Int32)), (.ref b211), (.ref b211), (.ref b208), (.ref b208)])) _
                    refine st226 _ ?_
                    show Steps p.tables e below (T226.setTop (mkF m 717 #[.val (.int p1), .val (.int p2), .val (.int p3), .val (.int p4), .unset] [(.ref b211), (.ref b208), (.ref b208)])) _
                    refine XS.dup X226.here hx rfl (hb hby d1_717) rfl rfl ?_
                    show Steps p.tables e below (T226.setTop (mkF m 718 #[.val (.int p1), .val (.int p2), .val (.int p3), .val (.int p4), .unset] [(.ref b211), (.ref b211), (.ref b208), (.ref b208)])) _
                    refine XS.iconst X226.here hx rfl (hb hby d1_718) ?_
                    show Steps p.tables e below (T226.setTop (mkF m 719 #[.val (.int p1), .val (.int p2), .val (.int p3), .val (.int p4), .unset] [(.int (5 : Int32)), (.ref b211), (.ref b211), (.ref b208), (.ref b208)])) _
                    refine XS.bipush X226.here hx rfl (hb hby d1_719) ?_
                    show Steps p.tables e below (T226.setTop (mkF m 721 #[.val (.int p1), .val (.int p2), .val (.int p3), .val (.int p4), .unset] [(.int (101 : Int32)), (.int (5 : Int32)), (.ref b211), (.ref b211), (.ref b208), (.ref b208)])) _
                    refine st229 _ ?_
                    show Steps p.tables e below (T229.setTop (mkF m 722 #[.val (.int p1), .val (.int p2), .val (.int p3), .val (.int p4), .unset] [(.ref b211), (.ref b208), (.ref b208)])) _
                    refine XS.dup X229.here hx rfl (hb hby d1_722) rfl rfl ?_
                    show Steps p.tables e below (T229.setTop (mkF m 723 #[.val (.int p1), .val (.int p2), .val (.int p3), .val (.int p4), .unset] [(.ref b211), (.ref b211), (.ref b208), (.ref b208)])) _
                    refine XS.bipush X229.here hx rfl (hb hby d1_723) ?_
                    show Steps p.tables e below (T229.setTop (mkF m 725 #[.val (.int p1), .val (.int p2), .val (.int p3), .val (.int p4), .unset] [(.int (6 : Int32)), (.ref b211), (.ref b211), (.ref b208), (.ref b208)])) _
                    refine XS.bipush X229.here hx rfl (hb hby d1_725) ?_
                    show Steps p.tables e below (T229.setTop (mkF m 727 #[.val (.int p1), .val (.int p2), .val (.int p3), .val (.int p4), .unset] [(.int (110 : Int32)), (.int (6 : Int32)), (.ref b211), (.ref b211), (.ref b208), (.ref b208)])) _
                    refine st232 _ ?_
                    show Steps p.tables e below (T232.setTop (mkF m 728 #[.val (.int p1), .val (.int p2), .val (.int p3), .val (.int p4), .unset] [(.ref b211), (.ref b208), (.ref b208)])) _
                    refine XS.dup X232.here hx rfl (hb hby d1_728) rfl rfl ?_
                    show Steps p.tables e below (T232.setTop (mkF m 729 #[.val (.int p1), .val (.int p2), .val (.int p3), .val (.int p4), .unset] [(.ref b211), (.ref b211), (.ref b208), (.ref b208)])) _
                    refine XS.bipush X232.here hx rfl (hb hby d1_729) ?_
                    show Steps p.tables e below (T232.setTop (mkF m 731 #[.val (.int p1), .val (.int p2), .val (.int p3), .val (.int p4), .unset] [(.int (7 : Int32)), (.ref b211), (.ref b211), (.ref b208), (.ref b208)])) _
                    refine XS.bipush X232.here hx rfl (hb hby d1_731) ?_
                    show Steps p.tables e below (T232.setTop (mkF m 733 #[.val (.int p1), .val (.int p2), .val (.int p3), .val (.int p4), .unset] [(.int (103 : Int32)), (.int (7 : Int32)), (.ref b211), (.ref b211), (.ref b208), (.ref b208)])) _
                    refine st235 _ ?_
                    show Steps p.tables e below (T235.setTop (mkF m 734 #[.val (.int p1), .val (.int p2), .val (.int p3), .val (.int p4), .unset] [(.ref b211), (.ref b208), (.ref b208)])) _
                    refine XS.dup X235.here hx rfl (hb hby d1_734) rfl rfl ?_
                    show Steps p.tables e below (T235.setTop (mkF m 735 #[.val (.int p1), .val (.int p2), .val (.int p3), .val (.int p4), .unset] [(.ref b211), (.ref b211), (.ref b208), (.ref b208)])) _
                    refine XS.bipush X235.here hx rfl (hb hby d1_735) ?_
                    show Steps p.tables e below (T235.setTop (mkF m 737 #[.val (.int p1), .val (.int p2), .val (.int p3), .val (.int p4), .unset] [(.int (8 : Int32)), (.ref b211), (.ref b211), (.ref b208), (.ref b208)])) _
                    refine XS.bipush X235.here hx rfl (hb hby d1_737) ?_
                    show Steps p.tables e below (T235.setTop (mkF m 739 #[.val (.int p1), .val (.int p2), .val (.int p3), .val (.int p4), .unset] [(.int (101 : Int32)), (.int (8 : Int32)), (.ref b211), (.ref b211), (.ref b208), (.ref b208)])) _
                    refine st238 _ ?_
                    exact k
                  obtain ⟨lq241, X241, N241⟩ : ∃ lq, Stand p l e ({ frames := 5, cells := 3, slots := 64, locals := 90 } : Room) (s.setVm s.vm) m #[(.int p1), (.int p2), (.int p3), (.int p4)] below meth c T238 lq 2 13 ∧ Fr n0 lq := ⟨_, X238, N238⟩
                  obtain ⟨_, _, ⟨T242, L242, k242, n242⟩, -, X242, ⟨Lc242, hQ242, l242, y242, z242⟩, st242⟩ := X241.specialBack hx (y := (⟨"java/lang/String", "<init>", "([C)V"⟩ : MethodName)) rfl hown (mvT hZ (hw _ (List.mem_of_getElem? (i := 11) rfl))) (mvT hZ (hw _ (List.mem_of_getElem? (i := 12) rfl))) (mvT hZ (hw _ (List.mem_of_getElem? (i := 13) rfl))) (by decide) (StrChars.Road.backV (W := 1) hZ hws (kI := 4) (hw _ (List.mem_of_getElem? (i := 5) rfl)) (cs := ([nar .char (67 : Int32), nar .char (104 : Int32), nar .char (97 : Int32), nar .char (108 : Int32), nar .char (108 : Int32), nar .char (101 : Int32), nar .char (110 : Int32), nar .char (103 : Int32), nar .char (101 : Int32)] : List Int32)) (bs := (([nar .char (67 : Int32), nar .char (104 : Int32), nar .char (97 : Int32), nar .char (108 : Int32), nar .char (108 : Int32), nar .char (101 : Int32), nar .char (110 : Int32), nar .char (103 : Int32), nar .char (101 : Int32)] : List Int32)).map (fun c => c.toInt8.toInt32)) (n := 9) g_b208 Zs239 E_b208_238 F_b208_value_238 F_b208_coder_238 V238_b211 S_java_lang_String_COMPACT_STRINGS_238 P5 rfl rfl (by decide) (by decide) hp rfl (by decide) (by decide)) (g := (mkF m 740 #[.val (.int p1), .val (.int p2), .val (.int p3), .val (.int p4), .unset] [(.ref b211), (.ref b208), (.ref b208)])) rfl (by rw [hml]; rfl) (Steps.refl _) (a := b208) (argsL := [(.ref b211)]) (rest := [(.ref b208)]) (lenOf pd_5 rfl) rfl (by show 2 * 0 + _ ≤ _; exact Nat.le_of_eq rfl) (hb hby d1_740) (fun _ _ => ⟨rfl, e238, (by decide : 2 + 1 ≤ _), (by decide : 13 + 9 ≤ _)⟩)
                  dsimp only [Pt.U, Pt.locs, Pt.cells, Pt.slots] at X242 l242 y242 z242 st242 hQ242
                  subst l242 y242 z242
                  obtain ⟨rfl, N242q, K242q, E242q, Fc242q, ta242, kb242, u1242, u2242, u3242, Fv242q, Vv242q⟩ := hQ242
                  have N242 := Fr.app N241 N242q
                  have E_b208_242 := E_b208_238.keep K242q
                  have Zs243 := Nat.le_trans Zs239 K242q.1
                  have hk244 := Nat.le_trans hk240 K242q.1
                  have Kk242 := Kk238.trans K242q (allS (Or.inr sz_b208) all0)
                  obtain ⟨fs, hr, hrun, hended, hEnd⟩ := Stand.leaveW (s := s) (vm₁ := s.vm) X242 hS0 (by exact hk244) (v := some (.ref b208)) (fun h => by rw [Bd.returns] at h; cases h)
                  refine ⟨_, _, pre21 _ ?_, hrun, hended, _, _, rfl, ?_, ?_, hEnd.1, hEnd.2.1, hEnd.2.2.1, hEnd.2.2.2.mono (by decide) (by decide)⟩
                  · show Steps p.tables e below (T238.setTop (mkF m 740 #[.val (.int p1), .val (.int p2), .val (.int p3), .val (.int p4), .unset] [(.ref b211), (.ref b208), (.ref b208)])) _
                    refine st242.trans ?_
                    show Steps p.tables e below (T242.setTop (mkF m 743 #[.val (.int p1), .val (.int p2), .val (.int p3), .val (.int p4), .unset] [(.ref b208)])) _
                    exact retOut X242 hx Bd.returns rfl (Or.inr (Or.inr (Or.inr (Or.inr ⟨rfl, rfl, rfl⟩)))) (hb hby d1_743) hr
                  · show Q1 Z p1 p2 p3 p4 G1 h0 n0 _ T242.heap _
                    exact ⟨_, ([nar .char (67 : Int32), nar .char (104 : Int32), nar .char (97 : Int32), nar .char (108 : Int32), nar .char (108 : Int32), nar .char (101 : Int32), nar .char (110 : Int32), nar .char (103 : Int32), nar .char (101 : Int32)] : List Int32), rfl, N242, Kk242, ta242, kb242, 9, E242q, Fv242q, Fc242q, Vv242q, hp, rfl, by decide⟩
                  · show CHr Z consts_1 s.vm s.heap T242.vm T242.heap
                    rw [hh]
                    exact CHr.trans (CHr.keep Kk242 sf0 HC) (CHv.at (s := s) (vm0 := s.vm) X242 hZ hEL (CHv.keep Kk242 sf0 HC))
  · skip
    by_cases k0 : p2 = 0
    · skip
      have pre22 : ∀ t, Steps p.tables e below (s₁.setTop (mkF m 4 #[.val (.int p1), .val (.int p2), .val (.int p3), .val (.int p4), .unset] [])) t → Steps p.tables e below (s₁.setTop (entryFrame m #[(.int p1), (.int p2), (.int p3), (.int p4)] 5)) t := by
        intro t k
        refine pre0 t ?_
        show Steps p.tables e below (s₁.setTop (mkF m 0 #[.val (.int p1), .val (.int p2), .val (.int p3), .val (.int p4), .unset] [])) _
        refine XS.iloadN X0.here hx rfl (hb hby d1_0) rfl ?_
        show Steps p.tables e below (s₁.setTop (mkF m 1 #[.val (.int p1), .val (.int p2), .val (.int p3), .val (.int p4), .unset] [(.int p2)])) _
        refine XS.ifNo X0.here hx rfl (hb hby d1_1) rfl ((if0 _ _).trans (teq k0).2) ?_
        exact k
      obtain ⟨T245, h245, X245, e245, E245, A245, D245, -, st245⟩ := newO X0 hx hZ hown (hw _ (List.mem_of_getElem? (i := 4) rfl)) (hw _ (List.mem_of_getElem? (i := 5) rfl)) (hw _ (List.mem_of_getElem? (i := 6) rfl)) e0 (g := (mkF m 4 #[.val (.int p1), .val (.int p2), .val (.int p3), .val (.int p4), .unset] [])) rfl (hb hby d1_4) (by decide) (by decide)
      obtain ⟨b245, g245⟩ : ∃ z, z = h0.size := ⟨_, rfl⟩
      rw [← g245] at A245 D245 st245
      have g_b245 : n0 ≤ b245 := Nat.le_trans Z0 (Nat.le_of_eq g245.symm)
      have sz_b245 := Nat.le_trans KK0.1 (Nat.le_of_eq g245.symm)
      have S_java_lang_String_COMPACT_STRINGS_245 := S1.ext E245
      have Zs246 := Nat.le_trans Z0 E245.1
      have hk247 := Nat.le_trans hk0 E245.1
      have Kk245 := KK0.ext E245
      have F_coder_b245 : Fld Z h245 b245 "java/lang/String" "coder" "B" (.int (0 : Int32)) := D245 (Or.inr (hw _ (List.mem_of_getElem? (i := 34) rfl))) (ty := .byte) (by decide)
      have F_value_b245 : Fld Z h245 b245 "java/lang/String" "value" "[B" .null := D245 (Or.inr (hw _ (List.mem_of_getElem? (i := 36) rfl))) (ty := (.array .byte)) (by decide)
      obtain ⟨_, _, ⟨T248, L248, k248, n248⟩, -, X248, ⟨Lc248, hQ248, l248, y248, z248⟩, st248⟩ := Jvm.LawKit.callS X245 hx (y := (⟨"com/example/sekisho/sekisho/registration/FactorOfKeyPinLaw", "keyChars", "(Z)[C"⟩ : MethodName)) hown (mvT hZ (hw _ (List.mem_of_getElem? (i := 7) rfl))) (mvT hZ (hw _ (List.mem_of_getElem? (i := 8) rfl))) (mvT hZ (hw _ (List.mem_of_getElem? (i := 2) rfl))) (mvT hZ (hw _ (List.mem_of_getElem? (i := 9) rfl))) (by decide) (backOf (W := 2) (rm2k1 l Z a0 hw [] p1 h245 n0 Zs246 ce) hZ (hw _ (List.mem_of_getElem? (i := 9) rfl)) (hw _ (List.mem_of_getElem? (i := 2) rfl)) (by decide) (by decide)) (g := (mkF m 9 #[.val (.int p1), .val (.int p2), .val (.int p3), .val (.int p4), .unset] [(.int p1), (.ref b245), (.ref b245)])) rfl (by rw [hml]; rfl) (argsL := [(.int p1)]) (rest := [(.ref b245), (.ref b245)]) (lenOf pd_4 rfl) rfl (by show 2 * 0 + _ ≤ _; exact Nat.le_of_eq rfl) (hb hby d1_9) (fun _ _ => ⟨rfl, e245, (by decide : 1 + 1 ≤ _), (by decide : 4 + 16 ≤ _)⟩)
      dsimp only [Pt.U, Pt.locs, Pt.cells, Pt.slots] at X248 l248 y248 z248 st248 hQ248
      subst l248 y248 z248
      obtain ⟨ba, kc, rfl, N248q, K248q, g248q, V248q⟩ := hQ248
      have gba : n0 ≤ ba := Nat.le_trans Zs246 g248q
      have sba := Nat.le_trans Kk245.1 g248q
      have N248 := Fr.app N0 N248q
      have S_java_lang_String_COMPACT_STRINGS_248 := own_sta0 S_java_lang_String_COMPACT_STRINGS_245 K248q
      have F_b245_coder_248 := F_coder_b245.keep K248q nin0
      have F_b245_value_248 := F_value_b245.keep K248q nin0
      have E_b245_248 := A245.keep K248q
      have Zs249 := Nat.le_trans Zs246 K248q.1
      have hk250 := Nat.le_trans hk247 K248q.1
      have Kk248 := Kk245.trans K248q all0
      have V248r : Arv Z T248.heap ba kc .char (14 : Int32) [(.int (nar .char (67 : Int32))), (.int (nar .char (104 : Int32))), (.int (nar .char (97 : Int32))), (.int (nar .char (108 : Int32))), (.int (nar .char (108 : Int32))), (.int (nar .char (101 : Int32))), (.int (nar .char (110 : Int32))), (.int (nar .char (103 : Int32))), (.int (nar .char (101 : Int32))), (.int (nar .char (69 : Int32))), (.int (nar .char (109 : Int32))), (.int (nar .char (97 : Int32))), (.int (nar .char (105 : Int32))), (.int (nar .char (108 : Int32)))] (.int (0 : Int32)) := V248q
      have pre23 : ∀ t, Steps p.tables e below (T248.setTop (mkF m 12 #[.val (.int p1), .val (.int p2), .val (.int p3), .val (.int p4), .unset] [(.ref ba), (.ref b245), (.ref b245)])) t → Steps p.tables e below (s₁.setTop (entryFrame m #[(.int p1), (.int p2), (.int p3), (.int p4)] 5)) t := by
        intro t k
        refine pre22 t ?_
        show Steps p.tables e below (s₁.setTop (mkF m 4 #[.val (.int p1), .val (.int p2), .val (.int p3), .val (.int p4), .unset] [])) _
        refine st245 _ ?_
        show Steps p.tables e below (T245.setTop (mkF m 7 #[.val (.int p1), .val (.int p2), .val (.int p3), .val (.int p4), .unset] [(.ref b245)])) _
        refine XS.dup X245.here hx rfl (hb hby d1_7) rfl rfl ?_
        show Steps p.tables e below (T245.setTop (mkF m 8 #[.val (.int p1), .val (.int p2), .val (.int p3), .val (.int p4), .unset] [(.ref b245), (.ref b245)])) _
        refine XS.iloadN X245.here hx rfl (hb hby d1_8) rfl ?_
        show Steps p.tables e below (T245.setTop (mkF m 9 #[.val (.int p1), .val (.int p2), .val (.int p3), .val (.int p4), .unset] [(.int p1), (.ref b245), (.ref b245)])) _
        refine st248 _ ?_
        exact k
      obtain ⟨lq251, X251, N251⟩ : ∃ lq, Stand p l e ({ frames := 5, cells := 3, slots := 64, locals := 90 } : Room) (s.setVm s.vm) m #[(.int p1), (.int p2), (.int p3), (.int p4)] below meth c T248 lq 2 20 ∧ Fr n0 lq := ⟨_, X248, N248⟩
      have Vc : Arv Z T248.heap ba kc .char (14 : Int32) (own_c1.map Value.int) (.int (0 : Int32)) := V248r
      obtain ⟨_, _, ⟨T252, L252, k252, n252⟩, -, X252, ⟨Lc252, hQ252, l252, y252, z252⟩, st252⟩ := X251.specialBack hx (y := (⟨"java/lang/String", "<init>", "([C)V"⟩ : MethodName)) rfl hown (mvT hZ (hw _ (List.mem_of_getElem? (i := 11) rfl))) (mvT hZ (hw _ (List.mem_of_getElem? (i := 12) rfl))) (mvT hZ (hw _ (List.mem_of_getElem? (i := 13) rfl))) (by decide) (StrChars.Road.backV (W := 1) hZ hws (kI := 4) (hw _ (List.mem_of_getElem? (i := 5) rfl)) (cs := own_c1) (bs := (own_c1).map (fun c => c.toInt8.toInt32)) (n := 14) g_b245 Zs249 E_b245_248 F_b245_value_248 F_b245_coder_248 Vc S_java_lang_String_COMPACT_STRINGS_248 P5 rfl rfl (by decide) (by decide) own_hc1 rfl (by decide) (by decide)) (g := (mkF m 12 #[.val (.int p1), .val (.int p2), .val (.int p3), .val (.int p4), .unset] [(.ref ba), (.ref b245), (.ref b245)])) rfl (by rw [hml]; rfl) (Steps.refl _) (a := b245) (argsL := [(.ref ba)]) (rest := [(.ref b245)]) (lenOf pd_5 rfl) rfl (by show 2 * 0 + _ ≤ _; exact Nat.le_of_eq rfl) (hb hby d1_12) (fun _ _ => ⟨rfl, rfl, (by decide : 2 + 1 ≤ _), (by decide : 20 + 14 ≤ _)⟩)
      dsimp only [Pt.U, Pt.locs, Pt.cells, Pt.slots] at X252 l252 y252 z252 st252 hQ252
      subst l252 y252 z252
      obtain ⟨rfl, N252q, K252q, E252q, Fc252q, ta252, kb252, u1252, u2252, u3252, Fv252q, Vv252q⟩ := hQ252
      have N252 := Fr.app N251 N252q
      have E_b245_252 := E_b245_248.keep K252q
      have Zs253 := Nat.le_trans Zs249 K252q.1
      have hk254 := Nat.le_trans hk250 K252q.1
      have Kk252 := Kk248.trans K252q (allS (Or.inr sz_b245) all0)
      obtain ⟨fs, hr, hrun, hended, hEnd⟩ := Stand.leaveW (s := s) (vm₁ := s.vm) X252 hS0 (by exact hk254) (v := some (.ref b245)) (fun h => by rw [Bd.returns] at h; cases h)
      refine ⟨_, _, pre23 _ ?_, hrun, hended, _, _, rfl, ?_, ?_, hEnd.1, hEnd.2.1, hEnd.2.2.1, hEnd.2.2.2.mono (by decide) (by decide)⟩
      · show Steps p.tables e below (T248.setTop (mkF m 12 #[.val (.int p1), .val (.int p2), .val (.int p3), .val (.int p4), .unset] [(.ref ba), (.ref b245), (.ref b245)])) _
        refine st252.trans ?_
        show Steps p.tables e below (T252.setTop (mkF m 15 #[.val (.int p1), .val (.int p2), .val (.int p3), .val (.int p4), .unset] [(.ref b245)])) _
        exact retOut X252 hx Bd.returns rfl (Or.inr (Or.inr (Or.inr (Or.inr ⟨rfl, rfl, rfl⟩)))) (hb hby d1_15) hr
      · show Q1 Z p1 p2 p3 p4 G1 h0 n0 _ T252.heap _
        exact ⟨_, own_c1, rfl, N252, Kk252, ta252, kb252, 14, E252q, Fv252q, Fc252q, Vv252q, own_hc1, rfl, by decide⟩
      · show CHr Z consts_1 s.vm s.heap T252.vm T252.heap
        rw [hh]
        exact CHr.trans (CHr.keep Kk252 sf0 HC) (CHv.at (s := s) (vm0 := s.vm) X252 hZ hEL (CHv.keep Kk252 sf0 HC))
    · skip
      have pre24 : ∀ t, Steps p.tables e below (s₁.setTop (mkF m 16 #[.val (.int p1), .val (.int p2), .val (.int p3), .val (.int p4), .unset] [])) t → Steps p.tables e below (s₁.setTop (entryFrame m #[(.int p1), (.int p2), (.int p3), (.int p4)] 5)) t := by
        intro t k
        refine pre0 t ?_
        show Steps p.tables e below (s₁.setTop (mkF m 0 #[.val (.int p1), .val (.int p2), .val (.int p3), .val (.int p4), .unset] [])) _
        refine XS.iloadN X0.here hx rfl (hb hby d1_0) rfl ?_
        show Steps p.tables e below (s₁.setTop (mkF m 1 #[.val (.int p1), .val (.int p2), .val (.int p3), .val (.int p4), .unset] [(.int p2)])) _
        refine XS.ifYes X0.here hx rfl (pc0 := 1) (pc' := 16) rfl (hb hby d1_1) rfl ((if0 _ _).trans (feq k0).2) (by decide) (by decide) ?_
        exact k
      by_cases k1 : p2 = 1
      · skip
        have pre25 : ∀ t, Steps p.tables e below (s₁.setTop (mkF m 21 #[.val (.int p1), .val (.int p2), .val (.int p3), .val (.int p4), .unset] [])) t → Steps p.tables e below (s₁.setTop (entryFrame m #[(.int p1), (.int p2), (.int p3), (.int p4)] 5)) t := by
          intro t k
          refine pre24 t ?_
          show Steps p.tables e below (s₁.setTop (mkF m 16 #[.val (.int p1), .val (.int p2), .val (.int p3), .val (.int p4), .unset] [])) _
          refine XS.iloadN X0.here hx rfl (hb hby d1_16) rfl ?_
          show Steps p.tables e below (s₁.setTop (mkF m 17 #[.val (.int p1), .val (.int p2), .val (.int p3), .val (.int p4), .unset] [(.int p2)])) _
          refine XS.iconst X0.here hx rfl (hb hby d1_17) ?_
          show Steps p.tables e below (s₁.setTop (mkF m 18 #[.val (.int p1), .val (.int p2), .val (.int p3), .val (.int p4), .unset] [(.int (1 : Int32)), (.int p2)])) _
          refine XS.icmpNo X0.here hx rfl (hb hby d1_18) rfl (teq k1).2 ?_
          exact k
        obtain ⟨_, _, ⟨T255, L255, k255, n255⟩, -, X255, ⟨Lc255, hQ255, l255, y255, z255⟩, st255⟩ := Jvm.LawKit.callS X0 hx (y := (⟨"com/example/sekisho/sekisho/registration/FactorOfKeyPinLaw", "keyChars", "(Z)[C"⟩ : MethodName)) hown (mvT hZ (hw _ (List.mem_of_getElem? (i := 7) rfl))) (mvT hZ (hw _ (List.mem_of_getElem? (i := 8) rfl))) (mvT hZ (hw _ (List.mem_of_getElem? (i := 2) rfl))) (mvT hZ (hw _ (List.mem_of_getElem? (i := 9) rfl))) (by decide) (backOf (W := 0) (rm2k1 l Z a0 hw [] p1 h0 n0 Z0 ce) hZ (hw _ (List.mem_of_getElem? (i := 9) rfl)) (hw _ (List.mem_of_getElem? (i := 2) rfl)) (by decide) (by decide)) (g := (mkF m 22 #[.val (.int p1), .val (.int p2), .val (.int p3), .val (.int p4), .unset] [(.int p1)])) rfl (by rw [hml]; rfl) (argsL := [(.int p1)]) (rest := []) (lenOf pd_4 rfl) rfl (by show 2 * 0 + _ ≤ _; exact Nat.le_of_eq rfl) (hb hby d1_22) (fun _ _ => ⟨rfl, e0, (by decide : 0 + 1 ≤ _), (by decide : 0 + 16 ≤ _)⟩)
        dsimp only [Pt.U, Pt.locs, Pt.cells, Pt.slots] at X255 l255 y255 z255 st255 hQ255
        subst l255 y255 z255
        obtain ⟨ba, kc, rfl, N255q, K255q, g255q, V255q⟩ := hQ255
        have gba : n0 ≤ ba := Nat.le_trans Z0 g255q
        have sba := Nat.le_trans KK0.1 g255q
        have N255 := Fr.app N0 N255q
        have S_java_lang_String_COMPACT_STRINGS_255 := own_sta0 S1 K255q
        have Zs256 := Nat.le_trans Z0 K255q.1
        have hk257 := Nat.le_trans hk0 K255q.1
        have Kk255 := KK0.trans K255q all0
        have V255r : Arv Z T255.heap ba kc .char (14 : Int32) [(.int (nar .char (67 : Int32))), (.int (nar .char (104 : Int32))), (.int (nar .char (97 : Int32))), (.int (nar .char (108 : Int32))), (.int (nar .char (108 : Int32))), (.int (nar .char (101 : Int32))), (.int (nar .char (110 : Int32))), (.int (nar .char (103 : Int32))), (.int (nar .char (101 : Int32))), (.int (nar .char (69 : Int32))), (.int (nar .char (109 : Int32))), (.int (nar .char (97 : Int32))), (.int (nar .char (105 : Int32))), (.int (nar .char (108 : Int32)))] (.int (0 : Int32)) := V255q
        have pre26 : ∀ t, Steps p.tables e below (T255.setTop (mkF m 27 #[.val (.int p1), .val (.int p2), .val (.int p3), .val (.int p4), .val (.ref ba)] [])) t → Steps p.tables e below (s₁.setTop (entryFrame m #[(.int p1), (.int p2), (.int p3), (.int p4)] 5)) t := by
          intro t k
          refine pre25 t ?_
          show Steps p.tables e below (s₁.setTop (mkF m 21 #[.val (.int p1), .val (.int p2), .val (.int p3), .val (.int p4), .unset] [])) _
          refine XS.iloadN X0.here hx rfl (hb hby d1_21) rfl ?_
          show Steps p.tables e below (s₁.setTop (mkF m 22 #[.val (.int p1), .val (.int p2), .val (.int p3), .val (.int p4), .unset] [(.int p1)])) _
          refine st255 _ ?_
          show Steps p.tables e below (T255.setTop (mkF m 25 #[.val (.int p1), .val (.int p2), .val (.int p3), .val (.int p4), .unset] [(.ref ba)])) _
          refine XS.astore X255.here hx rfl (hb hby d1_25) rfl rfl (l' := #[.val (.int p1), .val (.int p2), .val (.int p3), .val (.int p4), .val (.ref ba)]) rfl ?_
          exact k
        have hmd := own_md p3 (t := (14 : Int32)) (k := 14) (by decide) (by decide)
        obtain ⟨cl258, Ar258, -, S258, N258m, H258, -⟩ := id V255r
        obtain ⟨cl259, Ar259, q259, S259, N259m, H259, G259⟩ := id V255r
        have hin259 : ¬ (((p3 &&& (2147483647 : Int32)) % (14 : Int32)) < 0 ∨ cl259.slots.size ≤ (((p3 &&& (2147483647 : Int32)) % (14 : Int32))).toNatClampNeg) := inb_of S259 hmd.1
        obtain ⟨T259, h259, X259, e259, W259, st259⟩ := stC X255 hx hZ rfl Ar259 (j := ((p3 &&& (2147483647 : Int32)) % (14 : Int32))) hin259 (g := (mkF m 38 #[.val (.int p1), .val (.int p2), .val (.int p3), .val (.int p4), .val (.ref ba)] [(.int p4), (.int ((p3 &&& (2147483647 : Int32)) % (14 : Int32))), (.ref ba)])) rfl rfl (hb hby d1_38)
        have V259_ba : Arv Z h259 ba kc .char (14 : Int32) ([(.int (nar .char (67 : Int32))), (.int (nar .char (104 : Int32))), (.int (nar .char (97 : Int32))), (.int (nar .char (108 : Int32))), (.int (nar .char (108 : Int32))), (.int (nar .char (101 : Int32))), (.int (nar .char (110 : Int32))), (.int (nar .char (103 : Int32))), (.int (nar .char (101 : Int32))), (.int (nar .char (69 : Int32))), (.int (nar .char (109 : Int32))), (.int (nar .char (97 : Int32))), (.int (nar .char (105 : Int32))), (.int (nar .char (108 : Int32)))].set (((p3 &&& (2147483647 : Int32)) % (14 : Int32))).toNatClampNeg (.int (nar .char p4))) (.int (0 : Int32)) := Arv.set Ar259 q259 S259 N259m H259 G259 (fits_nar_char _) W259 (((p3 &&& (2147483647 : Int32)) % (14 : Int32))).toNatClampNeg rfl hmd.2
        have S_java_lang_String_COMPACT_STRINGS_259 := S_java_lang_String_COMPACT_STRINGS_255.wr W259
        have Zs260 := Nat.le_trans Zs256 (Keep.of_wr W259).1
        have hk261 := Nat.le_trans hk257 (Keep.of_wr W259).1
        have Kk259 := Kk255.wr W259 (Or.inr sba)
        have N259 := Fr.snoc X259 N255 gba
        obtain ⟨T262, h262, X262, e262, E262, A262, D262, -, st262⟩ := newO X259 hx hZ hown (hw _ (List.mem_of_getElem? (i := 4) rfl)) (hw _ (List.mem_of_getElem? (i := 5) rfl)) (hw _ (List.mem_of_getElem? (i := 6) rfl)) e259 (g := (mkF m 39 #[.val (.int p1), .val (.int p2), .val (.int p3), .val (.int p4), .val (.ref ba)] [])) rfl (hb hby d1_39) (by decide) (by decide)
        obtain ⟨b262, g262⟩ : ∃ z, z = h259.size := ⟨_, rfl⟩
        rw [← g262] at A262 D262 st262
        have ne_ba_b262 : ba ≠ b262 := Nat.ne_of_lt (Nat.lt_of_lt_of_le V259_ba.lt (Nat.le_of_eq g262.symm))
        have g_b262 : n0 ≤ b262 := Nat.le_trans Zs260 (Nat.le_of_eq g262.symm)
        have sz_b262 := Nat.le_trans Kk259.1 (Nat.le_of_eq g262.symm)
        have S_java_lang_String_COMPACT_STRINGS_262 := S_java_lang_String_COMPACT_STRINGS_259.ext E262
        have V_ba_262 := V259_ba.ext E262
        have Zs263 := Nat.le_trans Zs260 E262.1
        have hk264 := Nat.le_trans hk261 E262.1
        have Kk262 := Kk259.ext E262
        have F_coder_b262 : Fld Z h262 b262 "java/lang/String" "coder" "B" (.int (0 : Int32)) := D262 (Or.inr (hw _ (List.mem_of_getElem? (i := 34) rfl))) (ty := .byte) (by decide)
        have F_value_b262 : Fld Z h262 b262 "java/lang/String" "value" "[B" .null := D262 (Or.inr (hw _ (List.mem_of_getElem? (i := 36) rfl))) (ty := (.array .byte)) (by decide)
        have pre27 : ∀ t, Steps p.tables e below (T262.setTop (mkF m 45 #[.val (.int p1), .val (.int p2), .val (.int p3), .val (.int p4), .val (.ref ba)] [(.ref ba), (.ref b262), (.ref b262)])) t → Steps p.tables e below (s₁.setTop (entryFrame m #[(.int p1), (.int p2), (.int p3), (.int p4)] 5)) t := by
          intro t k
          refine pre26 t ?_
          show Steps p.tables e below (T255.setTop (mkF m 27 #[.val (.int p1), .val (.int p2), .val (.int p3), .val (.int p4), .val (.ref ba)] [])) _
          refine XS.aload X255.here hx rfl (hb hby d1_27) rfl rfl ?_
          show Steps p.tables e below (T255.setTop (mkF m 29 #[.val (.int p1), .val (.int p2), .val (.int p3), .val (.int p4), .val (.ref ba)] [(.ref ba)])) _
          refine XS.iloadN X255.here hx rfl (hb hby d1_29) rfl ?_
          show Steps p.tables e below (T255.setTop (mkF m 30 #[.val (.int p1), .val (.int p2), .val (.int p3), .val (.int p4), .val (.ref ba)] [(.int p3), (.ref ba)])) _
          refine X255.ldcInt hx hown (mvT hZ (hw _ (List.mem_of_getElem? (i := 101) rfl))) (g := (mkF m 30 #[.val (.int p1), .val (.int p2), .val (.int p3), .val (.int p4), .val (.ref ba)] [(.int p3), (.ref ba)])) rfl (hb hby d1_30) _ ?_
          show Steps p.tables e below (T255.setTop (mkF m 32 #[.val (.int p1), .val (.int p2), .val (.int p3), .val (.int p4), .val (.ref ba)] [(.int (2147483647 : Int32)), (.int p3), (.ref ba)])) _
          refine XS.iand X255.here hx rfl (hb hby d1_32) rfl ?_
          show Steps p.tables e below (T255.setTop (mkF m 33 #[.val (.int p1), .val (.int p2), .val (.int p3), .val (.int p4), .val (.ref ba)] [(.int (p3 &&& (2147483647 : Int32))), (.ref ba)])) _
          refine XS.aload X255.here hx rfl (hb hby d1_33) rfl rfl ?_
          show Steps p.tables e below (T255.setTop (mkF m 35 #[.val (.int p1), .val (.int p2), .val (.int p3), .val (.int p4), .val (.ref ba)] [(.ref ba), (.int (p3 &&& (2147483647 : Int32))), (.ref ba)])) _
          refine X255.arraylength hx (by exact Ar258.1) (State.isArrayOf_alike hZ.alike Ar258.2.1) (g := (mkF m 35 #[.val (.int p1), .val (.int p2), .val (.int p3), .val (.int p4), .val (.ref ba)] [(.ref ba), (.int (p3 &&& (2147483647 : Int32))), (.ref ba)])) rfl rfl (hb hby d1_35) _ ?_
          rw [len_of S258 N258m]
          show Steps p.tables e below (T255.setTop (mkF m 36 #[.val (.int p1), .val (.int p2), .val (.int p3), .val (.int p4), .val (.ref ba)] [(.int (14 : Int32)), (.int (p3 &&& (2147483647 : Int32))), (.ref ba)])) _
          refine iremM X255 hx rfl (hb hby d1_36) rfl (by decide) ?_
          show Steps p.tables e below (T255.setTop (mkF m 37 #[.val (.int p1), .val (.int p2), .val (.int p3), .val (.int p4), .val (.ref ba)] [(.int ((p3 &&& (2147483647 : Int32)) % (14 : Int32))), (.ref ba)])) _
          refine XS.iloadN X255.here hx rfl (hb hby d1_37) rfl ?_
          show Steps p.tables e below (T255.setTop (mkF m 38 #[.val (.int p1), .val (.int p2), .val (.int p3), .val (.int p4), .val (.ref ba)] [(.int p4), (.int ((p3 &&& (2147483647 : Int32)) % (14 : Int32))), (.ref ba)])) _
          refine st259 _ ?_
          show Steps p.tables e below (T259.setTop (mkF m 39 #[.val (.int p1), .val (.int p2), .val (.int p3), .val (.int p4), .val (.ref ba)] [])) _
          refine st262 _ ?_
          show Steps p.tables e below (T262.setTop (mkF m 42 #[.val (.int p1), .val (.int p2), .val (.int p3), .val (.int p4), .val (.ref ba)] [(.ref b262)])) _
          refine XS.dup X262.here hx rfl (hb hby d1_42) rfl rfl ?_
          show Steps p.tables e below (T262.setTop (mkF m 43 #[.val (.int p1), .val (.int p2), .val (.int p3), .val (.int p4), .val (.ref ba)] [(.ref b262), (.ref b262)])) _
          refine XS.aload X262.here hx rfl (hb hby d1_43) rfl rfl ?_
          exact k
        obtain ⟨lq265, X265, N265⟩ : ∃ lq, Stand p l e ({ frames := 5, cells := 3, slots := 64, locals := 90 } : Room) (s.setVm s.vm) m #[(.int p1), (.int p2), (.int p3), (.int p4)] below meth c T262 lq 2 20 ∧ Fr n0 lq := ⟨_, X262, N259⟩
        have Vc : Arv Z h262 ba kc .char (14 : Int32) ((own_c1.set (((p3 &&& (2147483647 : Int32)) % (14 : Int32))).toNatClampNeg (nar .char p4)).map Value.int) (.int (0 : Int32)) := by
          rw [List.map_set]
          exact V_ba_262
        obtain ⟨_, _, ⟨T266, L266, k266, n266⟩, -, X266, ⟨Lc266, hQ266, l266, y266, z266⟩, st266⟩ := X265.specialBack hx (y := (⟨"java/lang/String", "<init>", "([C)V"⟩ : MethodName)) rfl hown (mvT hZ (hw _ (List.mem_of_getElem? (i := 11) rfl))) (mvT hZ (hw _ (List.mem_of_getElem? (i := 12) rfl))) (mvT hZ (hw _ (List.mem_of_getElem? (i := 13) rfl))) (by decide) (StrChars.Road.backV (W := 1) hZ hws (kI := 4) (hw _ (List.mem_of_getElem? (i := 5) rfl)) (cs := (own_c1.set (((p3 &&& (2147483647 : Int32)) % (14 : Int32))).toNatClampNeg (nar .char p4))) (bs := ((own_c1.set (((p3 &&& (2147483647 : Int32)) % (14 : Int32))).toNatClampNeg (nar .char p4))).map (fun c => c.toInt8.toInt32)) (n := 14) g_b262 Zs263 A262 F_value_b262 F_coder_b262 Vc S_java_lang_String_COMPACT_STRINGS_262 P5 (by rw [List.length_set]; rfl) rfl (by decide) (by decide) (own_cset own_hc1 hcb) rfl (by decide) (by decide)) (g := (mkF m 45 #[.val (.int p1), .val (.int p2), .val (.int p3), .val (.int p4), .val (.ref ba)] [(.ref ba), (.ref b262), (.ref b262)])) rfl (by rw [hml]; rfl) (Steps.refl _) (a := b262) (argsL := [(.ref ba)]) (rest := [(.ref b262)]) (lenOf pd_5 rfl) rfl (by show 2 * 0 + _ ≤ _; exact Nat.le_of_eq rfl) (hb hby d1_45) (fun _ _ => ⟨rfl, e262, (by decide : 2 + 1 ≤ _), (by decide : 20 + 14 ≤ _)⟩)
        dsimp only [Pt.U, Pt.locs, Pt.cells, Pt.slots] at X266 l266 y266 z266 st266 hQ266
        subst l266 y266 z266
        obtain ⟨rfl, N266q, K266q, E266q, Fc266q, ta266, kb266, u1266, u2266, u3266, Fv266q, Vv266q⟩ := hQ266
        have N266 := Fr.app N265 N266q
        have E_b262_266 := A262.keep K266q
        have Zs267 := Nat.le_trans Zs263 K266q.1
        have hk268 := Nat.le_trans hk264 K266q.1
        have Kk266 := Kk262.trans K266q (allS (Or.inr sz_b262) all0)
        obtain ⟨fs, hr, hrun, hended, hEnd⟩ := Stand.leaveW (s := s) (vm₁ := s.vm) X266 hS0 (by exact hk268) (v := some (.ref b262)) (fun h => by rw [Bd.returns] at h; cases h)
        refine ⟨_, _, pre27 _ ?_, hrun, hended, _, _, rfl, ?_, ?_, hEnd.1, hEnd.2.1, hEnd.2.2.1, hEnd.2.2.2.mono (by decide) (by decide)⟩
        · show Steps p.tables e below (T262.setTop (mkF m 45 #[.val (.int p1), .val (.int p2), .val (.int p3), .val (.int p4), .val (.ref ba)] [(.ref ba), (.ref b262), (.ref b262)])) _
          refine st266.trans ?_
          show Steps p.tables e below (T266.setTop (mkF m 48 #[.val (.int p1), .val (.int p2), .val (.int p3), .val (.int p4), .val (.ref ba)] [(.ref b262)])) _
          exact retOut X266 hx Bd.returns rfl (Or.inr (Or.inr (Or.inr (Or.inr ⟨rfl, rfl, rfl⟩)))) (hb hby d1_48) hr
        · show Q1 Z p1 p2 p3 p4 G1 h0 n0 _ T266.heap _
          exact ⟨_, (own_c1.set (((p3 &&& (2147483647 : Int32)) % (14 : Int32))).toNatClampNeg (nar .char p4)), rfl, N266, Kk266, ta266, kb266, 14, E266q, Fv266q, Fc266q, Vv266q, (own_cset own_hc1 hcb), (by rw [List.length_set]; rfl), by decide⟩
        · show CHr Z consts_1 s.vm s.heap T266.vm T266.heap
          rw [hh]
          exact CHr.trans (CHr.keep Kk266 sf0 HC) (CHv.at (s := s) (vm0 := s.vm) X266 hZ hEL (CHv.keep Kk266 sf0 HC))
      · skip
        have pre28 : ∀ t, Steps p.tables e below (s₁.setTop (mkF m 49 #[.val (.int p1), .val (.int p2), .val (.int p3), .val (.int p4), .unset] [])) t → Steps p.tables e below (s₁.setTop (entryFrame m #[(.int p1), (.int p2), (.int p3), (.int p4)] 5)) t := by
          intro t k
          refine pre24 t ?_
          show Steps p.tables e below (s₁.setTop (mkF m 16 #[.val (.int p1), .val (.int p2), .val (.int p3), .val (.int p4), .unset] [])) _
          refine XS.iloadN X0.here hx rfl (hb hby d1_16) rfl ?_
          show Steps p.tables e below (s₁.setTop (mkF m 17 #[.val (.int p1), .val (.int p2), .val (.int p3), .val (.int p4), .unset] [(.int p2)])) _
          refine XS.iconst X0.here hx rfl (hb hby d1_17) ?_
          show Steps p.tables e below (s₁.setTop (mkF m 18 #[.val (.int p1), .val (.int p2), .val (.int p3), .val (.int p4), .unset] [(.int (1 : Int32)), (.int p2)])) _
          refine XS.icmpYes X0.here hx rfl (pc0 := 18) (pc' := 49) rfl (hb hby d1_18) rfl (feq k1).2 (by decide) (by decide) ?_
          exact k
        by_cases k2 : p2 = 2
        · skip
          have hp : ∀ c ∈ ([nar .char (67 : Int32), nar .char (104 : Int32), nar .char (97 : Int32), nar .char (108 : Int32), nar .char (108 : Int32), nar .char (101 : Int32), nar .char (110 : Int32), nar .char (103 : Int32), nar .char (101 : Int32), nar .char (69 : Int32), nar .char (109 : Int32), nar .char (97 : Int32), nar .char (105 : Int32)] : List Int32), ¬ c < 0 ∧ ¬ (255 : Int32) < c := (own_cc (by decide +kernel) (own_cc (by decide +kernel) (own_cc (by decide +kernel) (own_cc (by decide +kernel) (own_cc (by decide +kernel) (own_cc (by decide +kernel) (own_cc (by decide +kernel) (own_cc (by decide +kernel) (own_cc (by decide +kernel) (own_cc (by decide +kernel) (own_cc (by decide +kernel) (own_cc (by decide +kernel) (own_cc (by decide +kernel) own_cn)))))))))))))
          have pre29 : ∀ t, Steps p.tables e below (s₁.setTop (mkF m 58 #[.val (.int p1), .val (.int p2), .val (.int p3), .val (.int p4), .unset] [])) t → Steps p.tables e below (s₁.setTop (entryFrame m #[(.int p1), (.int p2), (.int p3), (.int p4)] 5)) t := by
            intro t k
            refine pre28 t ?_
            show Steps p.tables e below (s₁.setTop (mkF m 49 #[.val (.int p1), .val (.int p2), .val (.int p3), .val (.int p4), .unset] [])) _
            refine XS.iloadN X0.here hx rfl (hb hby d1_49) rfl ?_
            show Steps p.tables e below (s₁.setTop (mkF m 50 #[.val (.int p1), .val (.int p2), .val (.int p3), .val (.int p4), .unset] [(.int p2)])) _
            refine XS.iconst X0.here hx rfl (hb hby d1_50) ?_
            show Steps p.tables e below (s₁.setTop (mkF m 51 #[.val (.int p1), .val (.int p2), .val (.int p3), .val (.int p4), .unset] [(.int (2 : Int32)), (.int p2)])) _
            refine XS.icmpNo X0.here hx rfl (hb hby d1_51) rfl (teq k2).2 ?_
            show Steps p.tables e below (s₁.setTop (mkF m 54 #[.val (.int p1), .val (.int p2), .val (.int p3), .val (.int p4), .unset] [])) _
            refine XS.iloadN X0.here hx rfl (hb hby d1_54) rfl ?_
            show Steps p.tables e below (s₁.setTop (mkF m 55 #[.val (.int p1), .val (.int p2), .val (.int p3), .val (.int p4), .unset] [(.int p1)])) _
            refine XS.ifNo X0.here hx rfl (hb hby d1_55) rfl ((if0 _ _).trans (feq ce).1) ?_
            exact k
          obtain ⟨T269, h269, X269, e269, E269, A269, D269, -, st269⟩ := newO X0 hx hZ hown (hw _ (List.mem_of_getElem? (i := 4) rfl)) (hw _ (List.mem_of_getElem? (i := 5) rfl)) (hw _ (List.mem_of_getElem? (i := 6) rfl)) e0 (g := (mkF m 58 #[.val (.int p1), .val (.int p2), .val (.int p3), .val (.int p4), .unset] [])) rfl (hb hby d1_58) (by decide) (by decide)
          obtain ⟨b269, g269⟩ : ∃ z, z = h0.size := ⟨_, rfl⟩
          rw [← g269] at A269 D269 st269
          have g_b269 : n0 ≤ b269 := Nat.le_trans Z0 (Nat.le_of_eq g269.symm)
          have sz_b269 := Nat.le_trans KK0.1 (Nat.le_of_eq g269.symm)
          have S_java_lang_String_COMPACT_STRINGS_269 := S1.ext E269
          have Zs270 := Nat.le_trans Z0 E269.1
          have hk271 := Nat.le_trans hk0 E269.1
          have Kk269 := KK0.ext E269
          have F_coder_b269 : Fld Z h269 b269 "java/lang/String" "coder" "B" (.int (0 : Int32)) := D269 (Or.inr (hw _ (List.mem_of_getElem? (i := 34) rfl))) (ty := .byte) (by decide)
          have F_value_b269 : Fld Z h269 b269 "java/lang/String" "value" "[B" .null := D269 (Or.inr (hw _ (List.mem_of_getElem? (i := 36) rfl))) (ty := (.array .byte)) (by decide)
          obtain ⟨T272, h272, k272, X272, e272, E272, A272, st272⟩ := newP X269 hx hZ (hw _ (List.mem_of_getElem? (i := 10) rfl)) e269 (g := (mkF m 64 #[.val (.int p1), .val (.int p2), .val (.int p3), .val (.int p4), .unset] [(.int (13 : Int32)), (.ref b269), (.ref b269)])) rfl (hb hby d1_64) rfl (by decide) (cap := 13) (by decide) (by decide) (by decide) (by decide)
          obtain ⟨b272, g272⟩ : ∃ z, z = h269.size := ⟨_, rfl⟩
          rw [← g272] at A272 st272
          have ne_b269_b272 : b269 ≠ b272 := Nat.ne_of_lt (Nat.lt_of_lt_of_le F_coder_b269.lt (Nat.le_of_eq g272.symm))
          have g_b272 : n0 ≤ b272 := Nat.le_trans Zs270 (Nat.le_of_eq g272.symm)
          have sz_b272 := Nat.le_trans Kk269.1 (Nat.le_of_eq g272.symm)
          have S_java_lang_String_COMPACT_STRINGS_272 := S_java_lang_String_COMPACT_STRINGS_269.ext E272
          have F_b269_coder_272 := F_coder_b269.ext E272
          have F_b269_value_272 := F_value_b269.ext E272
          have E_b269_272 := A269.ext E272
          have Zs273 := Nat.le_trans Zs270 E272.1
          have hk274 := Nat.le_trans hk271 E272.1
          have Kk272 := Kk269.ext E272
          have V_b272 : Arv Z h272 b272 k272 .char (13 : Int32) [(.int (0 : Int32)), (.int (0 : Int32)), (.int (0 : Int32)), (.int (0 : Int32)), (.int (0 : Int32)), (.int (0 : Int32)), (.int (0 : Int32)), (.int (0 : Int32)), (.int (0 : Int32)), (.int (0 : Int32)), (.int (0 : Int32)), (.int (0 : Int32)), (.int (0 : Int32))] (.int (0 : Int32)) := (Arv.new A272 (by decide)).pad (pad_rep [] (.int (0 : Int32)) 13)
          obtain ⟨cl275, Ar275, q275, S275, N275m, H275, G275⟩ := id V_b272
          have hin275 : ¬ ((0 : Int32) < 0 ∨ cl275.slots.size ≤ ((0 : Int32)).toNatClampNeg) := inb_of S275 ⟨by decide, by decide⟩
          obtain ⟨T275, h275, X275, e275, W275, st275⟩ := stC X272 hx hZ e272 Ar275 (j := (0 : Int32)) hin275 (g := (mkF m 70 #[.val (.int p1), .val (.int p2), .val (.int p3), .val (.int p4), .unset] [(.int (67 : Int32)), (.int (0 : Int32)), (.ref b272), (.ref b272), (.ref b269), (.ref b269)])) rfl rfl (hb hby d1_70)
          have V275_b272 : Arv Z h275 b272 k272 .char (13 : Int32) [(.int (nar .char (67 : Int32))), (.int (0 : Int32)), (.int (0 : Int32)), (.int (0 : Int32)), (.int (0 : Int32)), (.int (0 : Int32)), (.int (0 : Int32)), (.int (0 : Int32)), (.int (0 : Int32)), (.int (0 : Int32)), (.int (0 : Int32)), (.int (0 : Int32)), (.int (0 : Int32))] (.int (0 : Int32)) := Arv.set Ar275 q275 S275 N275m H275 G275 (fits_nar_char _) W275 0 rfl (Nat.le_of_ble_eq_true rfl)
          have S_java_lang_String_COMPACT_STRINGS_275 := S_java_lang_String_COMPACT_STRINGS_272.wr W275
          have F_b269_coder_275 := F_b269_coder_272.other W275 (Or.inl ne_b269_b272)
          have F_b269_value_275 := F_b269_value_272.other W275 (Or.inl ne_b269_b272)
          have E_b269_275 := E_b269_272.wr W275
          have Zs276 := Nat.le_trans Zs273 (Keep.of_wr W275).1
          have hk277 := Nat.le_trans hk274 (Keep.of_wr W275).1
          have Kk275 := Kk272.wr W275 (Or.inr sz_b272)
          have N275 := Fr.snoc X275 N0 g_b272
          obtain ⟨cl278, Ar278, q278, S278, N278m, H278, G278⟩ := id V275_b272
          have hin278 : ¬ ((1 : Int32) < 0 ∨ cl278.slots.size ≤ ((1 : Int32)).toNatClampNeg) := inb_of S278 ⟨by decide, by decide⟩
          obtain ⟨T278, h278, X278, e278, W278, st278⟩ := stC X275 hx hZ e275 Ar278 (j := (1 : Int32)) hin278 (g := (mkF m 75 #[.val (.int p1), .val (.int p2), .val (.int p3), .val (.int p4), .unset] [(.int (104 : Int32)), (.int (1 : Int32)), (.ref b272), (.ref b272), (.ref b269), (.ref b269)])) rfl rfl (hb hby d1_75)
          have V278_b272 : Arv Z h278 b272 k272 .char (13 : Int32) [(.int (nar .char (67 : Int32))), (.int (nar .char (104 : Int32))), (.int (0 : Int32)), (.int (0 : Int32)), (.int (0 : Int32)), (.int (0 : Int32)), (.int (0 : Int32)), (.int (0 : Int32)), (.int (0 : Int32)), (.int (0 : Int32)), (.int (0 : Int32)), (.int (0 : Int32)), (.int (0 : Int32))] (.int (0 : Int32)) := Arv.set Ar278 q278 S278 N278m H278 G278 (fits_nar_char _) W278 1 rfl (Nat.le_of_ble_eq_true rfl)
          have S_java_lang_String_COMPACT_STRINGS_278 := S_java_lang_String_COMPACT_STRINGS_275.wr W278
          have F_b269_coder_278 := F_b269_coder_275.other W278 (Or.inl ne_b269_b272)
          have F_b269_value_278 := F_b269_value_275.other W278 (Or.inl ne_b269_b272)
          have E_b269_278 := E_b269_275.wr W278
          have Zs279 := Nat.le_trans Zs276 (Keep.of_wr W278).1
          have hk280 := Nat.le_trans hk277 (Keep.of_wr W278).1
          have Kk278 := Kk275.wr W278 (Or.inr sz_b272)
          have N278 := Fr.snoc X278 N275 g_b272
          obtain ⟨cl281, Ar281, q281, S281, N281m, H281, G281⟩ := id V278_b272
          have hin281 : ¬ ((2 : Int32) < 0 ∨ cl281.slots.size ≤ ((2 : Int32)).toNatClampNeg) := inb_of S281 ⟨by decide, by decide⟩
          obtain ⟨T281, h281, X281, e281, W281, st281⟩ := stC X278 hx hZ e278 Ar281 (j := (2 : Int32)) hin281 (g := (mkF m 80 #[.val (.int p1), .val (.int p2), .val (.int p3), .val (.int p4), .unset] [(.int (97 : Int32)), (.int (2 : Int32)), (.ref b272), (.ref b272), (.ref b269), (.ref b269)])) rfl rfl (hb hby d1_80)
          have V281_b272 : Arv Z h281 b272 k272 .char (13 : Int32) [(.int (nar .char (67 : Int32))), (.int (nar .char (104 : Int32))), (.int (nar .char (97 : Int32))), (.int (0 : Int32)), (.int (0 : Int32)), (.int (0 : Int32)), (.int (0 : Int32)), (.int (0 : Int32)), (.int (0 : Int32)), (.int (0 : Int32)), (.int (0 : Int32)), (.int (0 : Int32)), (.int (0 : Int32))] (.int (0 : Int32)) := Arv.set Ar281 q281 S281 N281m H281 G281 (fits_nar_char _) W281 2 rfl (Nat.le_of_ble_eq_true rfl)
          have S_java_lang_String_COMPACT_STRINGS_281 := S_java_lang_String_COMPACT_STRINGS_278.wr W281
          have F_b269_coder_281 := F_b269_coder_278.other W281 (Or.inl ne_b269_b272)
          have F_b269_value_281 := F_b269_value_278.other W281 (Or.inl ne_b269_b272)
          have E_b269_281 := E_b269_278.wr W281
          have Zs282 := Nat.le_trans Zs279 (Keep.of_wr W281).1
          have hk283 := Nat.le_trans hk280 (Keep.of_wr W281).1
          have Kk281 := Kk278.wr W281 (Or.inr sz_b272)
          have N281 := Fr.snoc X281 N278 g_b272
          obtain ⟨cl284, Ar284, q284, S284, N284m, H284, G284⟩ := id V281_b272
          have hin284 : ¬ ((3 : Int32) < 0 ∨ cl284.slots.size ≤ ((3 : Int32)).toNatClampNeg) := inb_of S284 ⟨by decide, by decide⟩
          obtain ⟨T284, h284, X284, e284, W284, st284⟩ := stC X281 hx hZ e281 Ar284 (j := (3 : Int32)) hin284 (g := (mkF m 85 #[.val (.int p1), .val (.int p2), .val (.int p3), .val (.int p4), .unset] [(.int (108 : Int32)), (.int (3 : Int32)), (.ref b272), (.ref b272), (.ref b269), (.ref b269)])) rfl rfl (hb hby d1_85)
          have V284_b272 : Arv Z h284 b272 k272 .char (13 : Int32) [(.int (nar .char (67 : Int32))), (.int (nar .char (104 : Int32))), (.int (nar .char (97 : Int32))), (.int (nar .char (108 : Int32))), (.int (0 : Int32)), (.int (0 : Int32)), (.int (0 : Int32)), (.int (0 : Int32)), (.int (0 : Int32)), (.int (0 : Int32)), (.int (0 : Int32)), (.int (0 : Int32)), (.int (0 : Int32))] (.int (0 : Int32)) := Arv.set Ar284 q284 S284 N284m H284 G284 (fits_nar_char _) W284 3 rfl (Nat.le_of_ble_eq_true rfl)
          have S_java_lang_String_COMPACT_STRINGS_284 := S_java_lang_String_COMPACT_STRINGS_281.wr W284
          have F_b269_coder_284 := F_b269_coder_281.other W284 (Or.inl ne_b269_b272)
          have F_b269_value_284 := F_b269_value_281.other W284 (Or.inl ne_b269_b272)
          have E_b269_284 := E_b269_281.wr W284
          have Zs285 := Nat.le_trans Zs282 (Keep.of_wr W284).1
          have hk286 := Nat.le_trans hk283 (Keep.of_wr W284).1
          have Kk284 := Kk281.wr W284 (Or.inr sz_b272)
          have N284 := Fr.snoc X284 N281 g_b272
          obtain ⟨cl287, Ar287, q287, S287, N287m, H287, G287⟩ := id V284_b272
          have hin287 : ¬ ((4 : Int32) < 0 ∨ cl287.slots.size ≤ ((4 : Int32)).toNatClampNeg) := inb_of S287 ⟨by decide, by decide⟩
          obtain ⟨T287, h287, X287, e287, W287, st287⟩ := stC X284 hx hZ e284 Ar287 (j := (4 : Int32)) hin287 (g := (mkF m 90 #[.val (.int p1), .val (.int p2), .val (.int p3), .val (.int p4), .unset] [(.int (108 : Int32)), (.int (4 : Int32)), (.ref b272), (.ref b272), (.ref b269), (.ref b269)])) rfl rfl (hb hby d1_90)
          have V287_b272 : Arv Z h287 b272 k272 .char (13 : Int32) [(.int (nar .char (67 : Int32))), (.int (nar .char (104 : Int32))), (.int (nar .char (97 : Int32))), (.int (nar .char (108 : Int32))), (.int (nar .char (108 : Int32))), (.int (0 : Int32)), (.int (0 : Int32)), (.int (0 : Int32)), (.int (0 : Int32)), (.int (0 : Int32)), (.int (0 : Int32)), (.int (0 : Int32)), (.int (0 : Int32))] (.int (0 : Int32)) := Arv.set Ar287 q287 S287 N287m H287 G287 (fits_nar_char _) W287 4 rfl (Nat.le_of_ble_eq_true rfl)
          have S_java_lang_String_COMPACT_STRINGS_287 := S_java_lang_String_COMPACT_STRINGS_284.wr W287
          have F_b269_coder_287 := F_b269_coder_284.other W287 (Or.inl ne_b269_b272)
          have F_b269_value_287 := F_b269_value_284.other W287 (Or.inl ne_b269_b272)
          have E_b269_287 := E_b269_284.wr W287
          have Zs288 := Nat.le_trans Zs285 (Keep.of_wr W287).1
          have hk289 := Nat.le_trans hk286 (Keep.of_wr W287).1
          have Kk287 := Kk284.wr W287 (Or.inr sz_b272)
          have N287 := Fr.snoc X287 N284 g_b272
          obtain ⟨cl290, Ar290, q290, S290, N290m, H290, G290⟩ := id V287_b272
          have hin290 : ¬ ((5 : Int32) < 0 ∨ cl290.slots.size ≤ ((5 : Int32)).toNatClampNeg) := inb_of S290 ⟨by decide, by decide⟩
          obtain ⟨T290, h290, X290, e290, W290, st290⟩ := stC X287 hx hZ e287 Ar290 (j := (5 : Int32)) hin290 (g := (mkF m 95 #[.val (.int p1), .val (.int p2), .val (.int p3), .val (.int p4), .unset] [(.int (101 : Int32)), (.int (5 : Int32)), (.ref b272), (.ref b272), (.ref b269), (.ref b269)])) rfl rfl (hb hby d1_95)
          have V290_b272 : Arv Z h290 b272 k272 .char (13 : Int32) [(.int (nar .char (67 : Int32))), (.int (nar .char (104 : Int32))), (.int (nar .char (97 : Int32))), (.int (nar .char (108 : Int32))), (.int (nar .char (108 : Int32))), (.int (nar .char (101 : Int32))), (.int (0 : Int32)), (.int (0 : Int32)), (.int (0 : Int32)), (.int (0 : Int32)), (.int (0 : Int32)), (.int (0 : Int32)), (.int (0 : Int32))] (.int (0 : Int32)) := Arv.set Ar290 q290 S290 N290m H290 G290 (fits_nar_char _) W290 5 rfl (Nat.le_of_ble_eq_true rfl)
          have S_java_lang_String_COMPACT_STRINGS_290 := S_java_lang_String_COMPACT_STRINGS_287.wr W290
          have F_b269_coder_290 := F_b269_coder_287.other W290 (Or.inl ne_b269_b272)
          have F_b269_value_290 := F_b269_value_287.other W290 (Or.inl ne_b269_b272)
          have E_b269_290 := E_b269_287.wr W290
          have Zs291 := Nat.le_trans Zs288 (Keep.of_wr W290).1
          have hk292 := Nat.le_trans hk289 (Keep.of_wr W290).1
          have Kk290 := Kk287.wr W290 (Or.inr sz_b272)
          have N290 := Fr.snoc X290 N287 g_b272
          obtain ⟨cl293, Ar293, q293, S293, N293m, H293, G293⟩ := id V290_b272
          have hin293 : ¬ ((6 : Int32) < 0 ∨ cl293.slots.size ≤ ((6 : Int32)).toNatClampNeg) := inb_of S293 ⟨by decide, by decide⟩
          obtain ⟨T293, h293, X293, e293, W293, st293⟩ := stC X290 hx hZ e290 Ar293 (j := (6 : Int32)) hin293 (g := (mkF m 101 #[.val (.int p1), .val (.int p2), .val (.int p3), .val (.int p4), .unset] [(.int (110 : Int32)), (.int (6 : Int32)), (.ref b272), (.ref b272), (.ref b269), (.ref b269)])) rfl rfl (hb hby d1_101)
          have V293_b272 : Arv Z h293 b272 k272 .char (13 : Int32) [(.int (nar .char (67 : Int32))), (.int (nar .char (104 : Int32))), (.int (nar .char (97 : Int32))), (.int (nar .char (108 : Int32))), (.int (nar .char (108 : Int32))), (.int (nar .char (101 : Int32))), (.int (nar .char (110 : Int32))), (.int (0 : Int32)), (.int (0 : Int32)), (.int (0 : Int32)), (.int (0 : Int32)), (.int (0 : Int32)), (.int (0 : Int32))] (.int (0 : Int32)) := Arv.set Ar293 q293 S293 N293m H293 G293 (fits_nar_char _) W293 6 rfl (Nat.le_of_ble_eq_true rfl)
          have S_java_lang_String_COMPACT_STRINGS_293 := S_java_lang_String_COMPACT_STRINGS_290.wr W293
          have F_b269_coder_293 := F_b269_coder_290.other W293 (Or.inl ne_b269_b272)
          have F_b269_value_293 := F_b269_value_290.other W293 (Or.inl ne_b269_b272)
          have E_b269_293 := E_b269_290.wr W293
          have Zs294 := Nat.le_trans Zs291 (Keep.of_wr W293).1
          have hk295 := Nat.le_trans hk292 (Keep.of_wr W293).1
          have Kk293 := Kk290.wr W293 (Or.inr sz_b272)
          have N293 := Fr.snoc X293 N290 g_b272
          obtain ⟨cl296, Ar296, q296, S296, N296m, H296, G296⟩ := id V293_b272
          have hin296 : ¬ ((7 : Int32) < 0 ∨ cl296.slots.size ≤ ((7 : Int32)).toNatClampNeg) := inb_of S296 ⟨by decide, by decide⟩
          obtain ⟨T296, h296, X296, e296, W296, st296⟩ := stC X293 hx hZ e293 Ar296 (j := (7 : Int32)) hin296 (g := (mkF m 107 #[.val (.int p1), .val (.int p2), .val (.int p3), .val (.int p4), .unset] [(.int (103 : Int32)), (.int (7 : Int32)), (.ref b272), (.ref b272), (.ref b269), (.ref b269)])) rfl rfl (hb hby d1_107)
          have V296_b272 : Arv Z h296 b272 k272 .char (13 : Int32) [(.int (nar .char (67 : Int32))), (.int (nar .char (104 : Int32))), (.int (nar .char (97 : Int32))), (.int (nar .char (108 : Int32))), (.int (nar .char (108 : Int32))), (.int (nar .char (101 : Int32))), (.int (nar .char (110 : Int32))), (.int (nar .char (103 : Int32))), (.int (0 : Int32)), (.int (0 : Int32)), (.int (0 : Int32)), (.int (0 : Int32)), (.int (0 : Int32))] (.int (0 : Int32)) := Arv.set Ar296 q296 S296 N296m H296 G296 (fits_nar_char _) W296 7 rfl (Nat.le_of_ble_eq_true rfl)
          have S_java_lang_String_COMPACT_STRINGS_296 := S_java_lang_String_COMPACT_STRINGS_293.wr W296
          have F_b269_coder_296 := F_b269_coder_293.other W296 (Or.inl ne_b269_b272)
          have F_b269_value_296 := F_b269_value_293.other W296 (Or.inl ne_b269_b272)
          have E_b269_296 := E_b269_293.wr W296
          have Zs297 := Nat.le_trans Zs294 (Keep.of_wr W296).1
          have hk298 := Nat.le_trans hk295 (Keep.of_wr W296).1
          have Kk296 := Kk293.wr W296 (Or.inr sz_b272)
          have N296 := Fr.snoc X296 N293 g_b272
          obtain ⟨cl299, Ar299, q299, S299, N299m, H299, G299⟩ := id V296_b272
          have hin299 : ¬ ((8 : Int32) < 0 ∨ cl299.slots.size ≤ ((8 : Int32)).toNatClampNeg) := inb_of S299 ⟨by decide, by decide⟩
          obtain ⟨T299, h299, X299, e299, W299, st299⟩ := stC X296 hx hZ e296 Ar299 (j := (8 : Int32)) hin299 (g := (mkF m 113 #[.val (.int p1), .val (.int p2), .val (.int p3), .val (.int p4), .unset] [(.int (101 : Int32)), (.int (8 : Int32)), (.ref b272), (.ref b272), (.ref b269), (.ref b269)])) rfl rfl (hb hby d1_113)
          have V299_b272 : Arv Z h299 b272 k272 .char (13 : Int32) [(.int (nar .char (67 : Int32))), (.int (nar .char (104 : Int32))), (.int (nar .char (97 : Int32))), (.int (nar .char (108 : Int32))), (.int (nar .char (108 : Int32))), (.int (nar .char (101 : Int32))), (.int (nar .char (110 : Int32))), (.int (nar .char (103 : Int32))), (.int (nar .char (101 : Int32))), (.int (0 : Int32)), (.int (0 : Int32)), (.int (0 : Int32)), (.int (0 : Int32))] (.int (0 : Int32)) := Arv.set Ar299 q299 S299 N299m H299 G299 (fits_nar_char _) W299 8 rfl (Nat.le_of_ble_eq_true rfl)
          have S_java_lang_String_COMPACT_STRINGS_299 := S_java_lang_String_COMPACT_STRINGS_296.wr W299
          have F_b269_coder_299 := F_b269_coder_296.other W299 (Or.inl ne_b269_b272)
          have F_b269_value_299 := F_b269_value_296.other W299 (Or.inl ne_b269_b272)
          have E_b269_299 := E_b269_296.wr W299
          have Zs300 := Nat.le_trans Zs297 (Keep.of_wr W299).1
          have hk301 := Nat.le_trans hk298 (Keep.of_wr W299).1
          have Kk299 := Kk296.wr W299 (Or.inr sz_b272)
          have N299 := Fr.snoc X299 N296 g_b272
          obtain ⟨cl302, Ar302, q302, S302, N302m, H302, G302⟩ := id V299_b272
          have hin302 : ¬ ((9 : Int32) < 0 ∨ cl302.slots.size ≤ ((9 : Int32)).toNatClampNeg) := inb_of S302 ⟨by decide, by decide⟩
          obtain ⟨T302, h302, X302, e302, W302, st302⟩ := stC X299 hx hZ e299 Ar302 (j := (9 : Int32)) hin302 (g := (mkF m 119 #[.val (.int p1), .val (.int p2), .val (.int p3), .val (.int p4), .unset] [(.int (69 : Int32)), (.int (9 : Int32)), (.ref b272), (.ref b272), (.ref b269), (.ref b269)])) rfl rfl (hb hby d1_119)
          have V302_b272 : Arv Z h302 b272 k272 .char (13 : Int32) [(.int (nar .char (67 : Int32))), (.int (nar .char (104 : Int32))), (.int (nar .char (97 : Int32))), (.int (nar .char (108 : Int32))), (.int (nar .char (108 : Int32))), (.int (nar .char (101 : Int32))), (.int (nar .char (110 : Int32))), (.int (nar .char (103 : Int32))), (.int (nar .char (101 : Int32))), (.int (nar .char (69 : Int32))), (.int (0 : Int32)), (.int (0 : Int32)), (.int (0 : Int32))] (.int (0 : Int32)) := Arv.set Ar302 q302 S302 N302m H302 G302 (fits_nar_char _) W302 9 rfl (Nat.le_of_ble_eq_true rfl)
          have S_java_lang_String_COMPACT_STRINGS_302 := S_java_lang_String_COMPACT_STRINGS_299.wr W302
          have F_b269_coder_302 := F_b269_coder_299.other W302 (Or.inl ne_b269_b272)
          have F_b269_value_302 := F_b269_value_299.other W302 (Or.inl ne_b269_b272)
          have E_b269_302 := E_b269_299.wr W302
          have Zs303 := Nat.le_trans Zs300 (Keep.of_wr W302).1
          have hk304 := Nat.le_trans hk301 (Keep.of_wr W302).1
          have Kk302 := Kk299.wr W302 (Or.inr sz_b272)
          have N302 := Fr.snoc X302 N299 g_b272
          obtain ⟨cl305, Ar305, q305, S305, N305m, H305, G305⟩ := id V302_b272
          have hin305 : ¬ ((10 : Int32) < 0 ∨ cl305.slots.size ≤ ((10 : Int32)).toNatClampNeg) := inb_of S305 ⟨by decide, by decide⟩
          obtain ⟨T305, h305, X305, e305, W305, st305⟩ := stC X302 hx hZ e302 Ar305 (j := (10 : Int32)) hin305 (g := (mkF m 125 #[.val (.int p1), .val (.int p2), .val (.int p3), .val (.int p4), .unset] [(.int (109 : Int32)), (.int (10 : Int32)), (.ref b272), (.ref b272), (.ref b269), (.ref b269)])) rfl rfl (hb hby d1_125)
          have V305_b272 : Arv Z h305 b272 k272 .char (13 : Int32) [(.int (nar .char (67 : Int32))), (.int (nar .char (104 : Int32))), (.int (nar .char (97 : Int32))), (.int (nar .char (108 : Int32))), (.int (nar .char (108 : Int32))), (.int (nar .char (101 : Int32))), (.int (nar .char (110 : Int32))), (.int (nar .char (103 : Int32))), (.int (nar .char (101 : Int32))), (.int (nar .char (69 : Int32))), (.int (nar .char (109 : Int32))), (.int (0 : Int32)), (.int (0 : Int32))] (.int (0 : Int32)) := Arv.set Ar305 q305 S305 N305m H305 G305 (fits_nar_char _) W305 10 rfl (Nat.le_of_ble_eq_true rfl)
          have S_java_lang_String_COMPACT_STRINGS_305 := S_java_lang_String_COMPACT_STRINGS_302.wr W305
          have F_b269_coder_305 := F_b269_coder_302.other W305 (Or.inl ne_b269_b272)
          have F_b269_value_305 := F_b269_value_302.other W305 (Or.inl ne_b269_b272)
          have E_b269_305 := E_b269_302.wr W305
          have Zs306 := Nat.le_trans Zs303 (Keep.of_wr W305).1
          have hk307 := Nat.le_trans hk304 (Keep.of_wr W305).1
          have Kk305 := Kk302.wr W305 (Or.inr sz_b272)
          have N305 := Fr.snoc X305 N302 g_b272
          obtain ⟨cl308, Ar308, q308, S308, N308m, H308, G308⟩ := id V305_b272
          have hin308 : ¬ ((11 : Int32) < 0 ∨ cl308.slots.size ≤ ((11 : Int32)).toNatClampNeg) := inb_of S308 ⟨by decide, by decide⟩
          obtain ⟨T308, h308, X308, e308, W308, st308⟩ := stC X305 hx hZ e305 Ar308 (j := (11 : Int32)) hin308 (g := (mkF m 131 #[.val (.int p1), .val (.int p2), .val (.int p3), .val (.int p4), .unset] [(.int (97 : Int32)), (.int (11 : Int32)), (.ref b272), (.ref b272), (.ref b269), (.ref b269)])) rfl rfl (hb hby d1_131)
          have V308_b272 : Arv Z h308 b272 k272 .char (13 : Int32) [(.int (nar .char (67 : Int32))), (.int (nar .char (104 : Int32))), (.int (nar .char (97 : Int32))), (.int (nar .char (108 : Int32))), (.int (nar .char (108 : Int32))), (.int (nar .char (101 : Int32))), (.int (nar .char (110 : Int32))), (.int (nar .char (103 : Int32))), (.int (nar .char (101 : Int32))), (.int (nar .char (69 : Int32))), (.int (nar .char (109 : Int32))), (.int (nar .char (97 : Int32))), (.int (0 : Int32))] (.int (0 : Int32)) := Arv.set Ar308 q308 S308 N308m H308 G308 (fits_nar_char _) W308 11 rfl (Nat.le_of_ble_eq_true rfl)
          have S_java_lang_String_COMPACT_STRINGS_308 := S_java_lang_String_COMPACT_STRINGS_305.wr W308
          have F_b269_coder_308 := F_b269_coder_305.other W308 (Or.inl ne_b269_b272)
          have F_b269_value_308 := F_b269_value_305.other W308 (Or.inl ne_b269_b272)
          have E_b269_308 := E_b269_305.wr W308
          have Zs309 := Nat.le_trans Zs306 (Keep.of_wr W308).1
          have hk310 := Nat.le_trans hk307 (Keep.of_wr W308).1
          have Kk308 := Kk305.wr W308 (Or.inr sz_b272)
          have N308 := Fr.snoc X308 N305 g_b272
          obtain ⟨cl311, Ar311, q311, S311, N311m, H311, G311⟩ := id V308_b272
          have hin311 : ¬ ((12 : Int32) < 0 ∨ cl311.slots.size ≤ ((12 : Int32)).toNatClampNeg) := inb_of S311 ⟨by decide, by decide⟩
          obtain ⟨T311, h311, X311, e311, W311, st311⟩ := stC X308 hx hZ e308 Ar311 (j := (12 : Int32)) hin311 (g := (mkF m 137 #[.val (.int p1), .val (.int p2), .val (.int p3), .val (.int p4), .unset] [(.int (105 : Int32)), (.int (12 : Int32)), (.ref b272), (.ref b272), (.ref b269), (.ref b269)])) rfl rfl (hb hby d1_137)
          have V311_b272 : Arv Z h311 b272 k272 .char (13 : Int32) [(.int (nar .char (67 : Int32))), (.int (nar .char (104 : Int32))), (.int (nar .char (97 : Int32))), (.int (nar .char (108 : Int32))), (.int (nar .char (108 : Int32))), (.int (nar .char (101 : Int32))), (.int (nar .char (110 : Int32))), (.int (nar .char (103 : Int32))), (.int (nar .char (101 : Int32))), (.int (nar .char (69 : Int32))), (.int (nar .char (109 : Int32))), (.int (nar .char (97 : Int32))), (.int (nar .char (105 : Int32)))] (.int (0 : Int32)) := Arv.set Ar311 q311 S311 N311m H311 G311 (fits_nar_char _) W311 12 rfl (Nat.le_of_ble_eq_true rfl)
          have S_java_lang_String_COMPACT_STRINGS_311 := S_java_lang_String_COMPACT_STRINGS_308.wr W311
          have F_b269_coder_311 := F_b269_coder_308.other W311 (Or.inl ne_b269_b272)
          have F_b269_value_311 := F_b269_value_308.other W311 (Or.inl ne_b269_b272)
          have E_b269_311 := E_b269_308.wr W311
          have Zs312 := Nat.le_trans Zs309 (Keep.of_wr W311).1
          have hk313 := Nat.le_trans hk310 (Keep.of_wr W311).1
          have Kk311 := Kk308.wr W311 (Or.inr sz_b272)
          have N311 := Fr.snoc X311 N308 g_b272
          have pre30 : ∀ t, Steps p.tables e below (T311.setTop (mkF m 138 #[.val (.int p1), .val (.int p2), .val (.int p3), .val (.int p4), .unset] [(.ref b272), (.ref b269), (.ref b269)])) t → Steps p.tables e below (s₁.setTop (entryFrame m #[(.int p1), (.int p2), (.int p3), (.int p4)] 5)) t := by
            intro t k
            refine pre29 t ?_
            show Steps p.tables e below (s₁.setTop (mkF m 58 #[.val (.int p1), .val (.int p2), .val (.int p3), .val (.int p4), .unset] [])) _
            refine st269 _ ?_
            show Steps p.tables e below (T269.setTop (mkF m 61 #[.val (.int p1), .val (.int p2), .val (.int p3), .val (.int p4), .unset] [(.ref b269)])) _
            refine XS.dup X269.here hx rfl (hb hby d1_61) rfl rfl ?_
            show Steps p.tables e below (T269.setTop (mkF m 62 #[.val (.int p1), .val (.int p2), .val (.int p3), .val (.int p4), .unset] [(.ref b269), (.ref b269)])) _
            refine XS.bipush X269.here hx rfl (hb hby d1_62) ?_
            show Steps p.tables e below (T269.setTop (mkF m 64 #[.val (.int p1), .val (.int p2), .val (.int p3), .val (.int p4), .unset] [(.int (13 : Int32)), (.ref b269), (.ref b269)])) _
            refine st272 _ ?_
            show Steps p.tables e below (T272.setTop (mkF m 66 #[.val (.int p1), .val (.int p2), .val (.int p3), .val (.int p4), .unset] [(.ref b272), (.ref b269), (.ref b269)])) _
            refine XS.dup X272.here hx rfl (hb hby d1_66) rfl rfl ?_
            show Steps p.tables e below (T272.setTop (mkF m 67 #[.val (.int p1), .val (.int p2), .val (.int p3), .val (.int p4), .unset] [(.ref b272), (.ref b272), (.ref b269), (.ref b269)])) _
            refine XS.iconst X272.here hx rfl (hb hby d1_67) ?_
            show Steps p.tables e below (T272.setTop (mkF m 68 #[.val (.int p1), .val (.int p2), .val (.int p3), .val (.int p4), .unset] [(.int (0 : Int32)), (.ref b272), (.ref b272), (.ref b269), (.ref b269)])) _
            refine XS.bipush X272.here hx rfl (hb hby d1_68) ?_
            show Steps p.tables e below (T272.setTop (mkF m 70 #[.val (.int p1), .val (.int p2), .val (.int p3), .val (.int p4), .unset] [(.int (67 : Int32)), (.int (0 : Int32)), (.ref b272), (.ref b272), (.ref b269), (.ref b269)])) _
            refine st275 _ ?_
            show Steps p.tables e below (T275.setTop (mkF m 71 #[.val (.int p1), .val (.int p2), .val (.int p3), .val (.int p4), .unset] [(.ref b272), (.ref b269), (.ref b269)])) _
            refine XS.dup X275.here hx rfl (hb hby d1_71) rfl rfl ?_
            show Steps p.tables e below (T275.setTop (mkF m 72 #[.val (.int p1), .val (.int p2), .val (.int p3), .val (.int p4), .unset] [(.ref b272), (.ref b272), (.ref b269), (.ref b269)])) _
            refine XS.iconst X275.here hx rfl (hb hby d1_72) ?_
            show Steps p.tables e below (T275.setTop (mkF m 73 #[.val (.int p1), .val (.int p2), .val (.int p3), .val (.int p4), .unset] [(.int (1 : Int32)), (.ref b272), (.ref b272), (.ref b269), (.ref b269)])) _
            refine XS.bipush X275.here hx rfl (hb hby d1_73) ?_
            show Steps p.tables e below (T275.setTop (mkF m 75 #[.val (.int p1), .val (.int p2), .val (.int p3), .val (.int p4), .unset] [(.int (104 : Int32)), (.int (1 : Int32)), (.ref b272), (.ref b272), (.ref b269), (.ref b269)])) _
            refine st278 _ ?_
            show Steps p.tables e below (T278.setTop (mkF m 76 #[.val (.int p1), .val (.int p2), .val (.int p3), .val (.int p4), .unset] [(.ref b272), (.ref b269), (.ref b269)])) _
            refine XS.dup X278.here hx rfl (hb hby d1_76) rfl rfl ?_
            show Steps p.tables e below (T278.setTop (mkF m 77 #[.val (.int p1), .val (.int p2), .val (.int p3), .val (.int p4), .unset] [(.ref b272), (.ref b272), (.ref b269), (.ref b269)])) _
            refine XS.iconst X278.here hx rfl (hb hby d1_77) ?_
            show Steps p.tables e below (T278.setTop (mkF m 78 #[.val (.int p1), .val (.int p2), .val (.int p3), .val (.int p4), .unset] [(.int (2 : Int32)), (.ref b272), (.ref b272), (.ref b269), (.ref b269)])) _
            refine XS.bipush X278.here hx rfl (hb hby d1_78) ?_
            show Steps p.tables e below (T278.setTop (mkF m 80 #[.val (.int p1), .val (.int p2), .val (.int p3), .val (.int p4), .unset] [(.int (97 : Int32)), (.int (2 : Int32)), (.ref b272), (.ref b272), (.ref b269), (.ref b269)])) _
            refine st281 _ ?_
            show Steps p.tables e below (T281.setTop (mkF m 81 #[.val (.int p1), .val (.int p2), .val (.int p3), .val (.int p4), .unset] [(.ref b272), (.ref b269), (.ref b269)])) _
            refine XS.dup X281.here hx rfl (hb hby d1_81) rfl rfl ?_
            show Steps p.tables e below (T281.setTop (mkF m 82 #[.val (.int p1), .val (.int p2), .val (.int p3), .val (.int p4), .unset] [(.ref b272), (.ref b272), (.ref b269), (.ref b269)])) _
            refine XS.iconst X281.here hx rfl (hb hby d1_82) ?_
            show Steps p.tables e below (T281.setTop (mkF m 83 #[.val (.int p1), .val (.int p2), .val (.int p3), .val (.int p4), .unset] [(.int (3 : Int32)), (.ref b272), (.ref b272), (.ref b269), (.ref b269)])) _
            refine XS.bipush X281.here hx rfl (hb hby d1_83) ?_
            show Steps p.tables e below (T281.setTop (mkF m 85 #[.val (.int p1), .val (.int p2), .val (.int p3), .val (.int p4), .unset] [(.int (108 : Int32)), (.int (3 : Int32)), (.ref b272), (.ref b272), (.ref b269), (.ref b269)])) _
            refine st284 _ ?_
            show Steps p.tables e below (T284.setTop (mkF m 86 #[.val (.int p1), .val (.int p2), .val (.int p3), .val (.int p4), .unset] [(.ref b272), (.ref b269), (.ref b269)])) _
            refine XS.dup X284.here hx rfl (hb hby d1_86) rfl rfl ?_
            show Steps p.tables e below (T284.setTop (mkF m 87 #[.val (.int p1), .val (.int p2), .val (.int p3), .val (.int p4), .unset] [(.ref b272), (.ref b272), (.ref b269), (.ref b269)])) _
            refine XS.iconst X284.here hx rfl (hb hby d1_87) ?_
            show Steps p.tables e below (T284.setTop (mkF m 88 #[.val (.int p1), .val (.int p2), .val (.int p3), .val (.int p4), .unset] [(.int (4 : Int32)), (.ref b272), (.ref b272), (.ref b269), (.ref b269)])) _
            refine XS.bipush X284.here hx rfl (hb hby d1_88) ?_
            show Steps p.tables e below (T284.setTop (mkF m 90 #[.val (.int p1), .val (.int p2), .val (.int p3), .val (.int p4), .unset] [(.int (108 : Int32)), (.int (4 : Int32)), (.ref b272), (.ref b272), (.ref b269), (.ref b269)])) _
            refine st287 _ ?_
            show Steps p.tables e below (T287.setTop (mkF m 91 #[.val (.int p1), .val (.int p2), .val (.int p3), .val (.int p4), .unset] [(.ref b272), (.ref b269), (.ref b269)])) _
            refine XS.dup X287.here hx rfl (hb hby d1_91) rfl rfl ?_
            show Steps p.tables e below (T287.setTop (mkF m 92 #[.val (.int p1), .val (.int p2), .val (.int p3), .val (.int p4), .unset] [(.ref b272), (.ref b272), (.ref b269), (.ref b269)])) _
            refine XS.iconst X287.here hx rfl (hb hby d1_92) ?_
            show Steps p.tables e below (T287.setTop (mkF m 93 #[.val (.int p1), .val (.int p2), .val (.int p3), .val (.int p4), .unset] [(.int (5 : Int32)), (.ref b272), (.ref b272), (.ref b269), (.ref b269)])) _
            refine XS.bipush X287.here hx rfl (hb hby d1_93) ?_
            show Steps p.tables e below (T287.setTop (mkF m 95 #[.val (.int p1), .val (.int p2), .val (.int p3), .val (.int p4), .unset] [(.int (101 : Int32)), (.int (5 : Int32)), (.ref b272), (.ref b272), (.ref b269), (.ref b269)])) _
            refine st290 _ ?_
            show Steps p.tables e below (T290.setTop (mkF m 96 #[.val (.int p1), .val (.int p2), .val (.int p3), .val (.int p4), .unset] [(.ref b272), (.ref b269), (.ref b269)])) _
            refine XS.dup X290.here hx rfl (hb hby d1_96) rfl rfl ?_
            show Steps p.tables e below (T290.setTop (mkF m 97 #[.val (.int p1), .val (.int p2), .val (.int p3), .val (.int p4), .unset] [(.ref b272), (.ref b272), (.ref b269), (.ref b269)])) _
            refine XS.bipush X290.here hx rfl (hb hby d1_97) ?_
            show Steps p.tables e below (T290.setTop (mkF m 99 #[.val (.int p1), .val (.int p2), .val (.int p3), .val (.int p4), .unset] [(.int (6 : Int32)), (.ref b272), (.ref b272), (.ref b269), (.ref b269)])) _
            refine XS.bipush X290.here hx rfl (hb hby d1_99) ?_
            show Steps p.tables e below (T290.setTop (mkF m 101 #[.val (.int p1), .val (.int p2), .val (.int p3), .val (.int p4), .unset] [(.int (110 : Int32)), (.int (6 : Int32)), (.ref b272), (.ref b272), (.ref b269), (.ref b269)])) _
            refine st293 _ ?_
            show Steps p.tables e below (T293.setTop (mkF m 102 #[.val (.int p1), .val (.int p2), .val (.int p3), .val (.int p4), .unset] [(.ref b272), (.ref b269), (.ref b269)])) _
            refine XS.dup X293.here hx rfl (hb hby d1_102) rfl rfl ?_
            show Steps p.tables e below (T293.setTop (mkF m 103 #[.val (.int p1), .val (.int p2), .val (.int p3), .val (.int p4), .unset] [(.ref b272), (.ref b272), (.ref b269), (.ref b269)])) _
            refine XS.bipush X293.here hx rfl (hb hby d1_103) ?_
            show Steps p.tables e below (T293.setTop (mkF m 105 #[.val (.int p1), .val (.int p2), .val (.int p3), .val (.int p4), .unset] [(.int (7 : Int32)), (.ref b272), (.ref b272), (.ref b269), (.ref b269)])) _
            refine XS.bipush X293.here hx rfl (hb hby d1_105) ?_
            show Steps p.tables e below (T293.setTop (mkF m 107 #[.val (.int p1), .val (.int p2), .val (.int p3), .val (.int p4), .unset] [(.int (103 : Int32)), (.int (7 : Int32)), (.ref b272), (.ref b272), (.ref b269), (.ref b269)])) _
            refine st296 _ ?_
            show Steps p.tables e below (T296.setTop (mkF m 108 #[.val (.int p1), .val (.int p2), .val (.int p3), .val (.int p4), .unset] [(.ref b272), (.ref b269), (.ref b269)])) _
            refine XS.dup X296.here hx rfl (hb hby d1_108) rfl rfl ?_
            show Steps p.tables e below (T296.setTop (mkF m 109 #[.val (.int p1), .val (.int p2), .val (.int p3), .val (.int p4), .unset] [(.ref b272), (.ref b272), (.ref b269), (.ref b269)])) _
            refine XS.bipush X296.here hx rfl (hb hby d1_109) ?_
            show Steps p.tables e below (T296.setTop (mkF m 111 #[.val (.int p1), .val (.int p2), .val (.int p3), .val (.int p4), .unset] [(.int (8 : Int32)), (.ref b272), (.ref b272), (.ref b269), (.ref b269)])) _
            refine XS.bipush X296.here hx rfl (hb hby d1_111) ?_
            show Steps p.tables e below (T296.setTop (mkF m 113 #[.val (.int p1), .val (.int p2), .val (.int p3), .val (.int p4), .unset] [(.int (101 : Int32)), (.int (8 : Int32)), (.ref b272), (.ref b272), (.ref b269), (.ref b269)])) _
            refine st299 _ ?_
            show Steps p.tables e below (T299.setTop (mkF m 114 #[.val (.int p1), .val (.int p2), .val (.int p3), .val (.int p4), .unset] [(.ref b272), (.ref b269), (.ref b269)])) _
            refine XS.dup X299.here hx rfl (hb hby d1_114) rfl rfl ?_
            show Steps p.tables e below (T299.setTop (mkF m 115 #[.val (.int p1), .val (.int p2), .val (.int p3), .val (.int p4), .unset] [(.ref b272), (.ref b272), (.ref b269), (.ref b269)])) _
            refine XS.bipush X299.here hx rfl (hb hby d1_115) ?_
            show Steps p.tables e below (T299.setTop (mkF m 117 #[.val (.int p1), .val (.int p2), .val (.int p3), .val (.int p4), .unset] [(.int (9 : Int32)), (.ref b272), (.ref b272), (.ref b269), (.ref b269)])) _
            refine XS.bipush X299.here hx rfl (hb hby d1_117) ?_
            show Steps p.tables e below (T299.setTop (mkF m 119 #[.val (.int p1), .val (.int p2), .val (.int p3), .val (.int p4), .unset] [(.int (69 : Int32)), (.int (9 : Int32)), (.ref b272), (.ref b272), (.ref b269), (.ref b269)])) _
            refine st302 _ ?_
            show Steps p.tables e below (T302.setTop (mkF m 120 #[.val (.int p1), .val (.int p2), .val (.int p3), .val (.int p4), .unset] [(.ref b272), (.ref b269), (.ref b269)])) _
            refine XS.dup X302.here hx rfl (hb hby d1_120) rfl rfl ?_
            show Steps p.tables e below (T302.setTop (mkF m 121 #[.val (.int p1), .val (.int p2), .val (.int p3), .val (.int p4), .unset] [(.ref b272), (.ref b272), (.ref b269), (.ref b269)])) _
            refine XS.bipush X302.here hx rfl (hb hby d1_121) ?_
            show Steps p.tables e below (T302.setTop (mkF m 123 #[.val (.int p1), .val (.int p2), .val (.int p3), .val (.int p4), .unset] [(.int (10 : Int32)), (.ref b272), (.ref b272), (.ref b269), (.ref b269)])) _
            refine XS.bipush X302.here hx rfl (hb hby d1_123) ?_
            show Steps p.tables e below (T302.setTop (mkF m 125 #[.val (.int p1), .val (.int p2), .val (.int p3), .val (.int p4), .unset] [(.int (109 : Int32)), (.int (10 : Int32)), (.ref b272), (.ref b272), (.ref b269), (.ref b269)])) _
            refine st305 _ ?_
            show Steps p.tables e below (T305.setTop (mkF m 126 #[.val (.int p1), .val (.int p2), .val (.int p3), .val (.int p4), .unset] [(.ref b272), (.ref b269), (.ref b269)])) _
            refine XS.dup X305.here hx rfl (hb hby d1_126) rfl rfl ?_
            show Steps p.tables e below (T305.setTop (mkF m 127 #[.val (.int p1), .val (.int p2), .val (.int p3), .val (.int p4), .unset] [(.ref b272), (.ref b272), (.ref b269), (.ref b269)])) _
            refine XS.bipush X305.here hx rfl (hb hby d1_127) ?_
            show Steps p.tables e below (T305.setTop (mkF m 129 #[.val (.int p1), .val (.int p2), .val (.int p3), .val (.int p4), .unset] [(.int (11 : Int32)), (.ref b272), (.ref b272), (.ref b269), (.ref b269)])) _
            refine XS.bipush X305.here hx rfl (hb hby d1_129) ?_
            show Steps p.tables e below (T305.setTop (mkF m 131 #[.val (.int p1), .val (.int p2), .val (.int p3), .val (.int p4), .unset] [(.int (97 : Int32)), (.int (11 : Int32)), (.ref b272), (.ref b272), (.ref b269), (.ref b269)])) _
            refine st308 _ ?_
            show Steps p.tables e below (T308.setTop (mkF m 132 #[.val (.int p1), .val (.int p2), .val (.int p3), .val (.int p4), .unset] [(.ref b272), (.ref b269), (.ref b269)])) _
            refine XS.dup X308.here hx rfl (hb hby d1_132) rfl rfl ?_
            show Steps p.tables e below (T308.setTop (mkF m 133 #[.val (.int p1), .val (.int p2), .val (.int p3), .val (.int p4), .unset] [(.ref b272), (.ref b272), (.ref b269), (.ref b269)])) _
            refine XS.bipush X308.here hx rfl (hb hby d1_133) ?_
            show Steps p.tables e below (T308.setTop (mkF m 135 #[.val (.int p1), .val (.int p2), .val (.int p3), .val (.int p4), .unset] [(.int (12 : Int32)), (.ref b272), (.ref b272), (.ref b269), (.ref b269)])) _
            refine XS.bipush X308.here hx rfl (hb hby d1_135) ?_
            show Steps p.tables e below (T308.setTop (mkF m 137 #[.val (.int p1), .val (.int p2), .val (.int p3), .val (.int p4), .unset] [(.int (105 : Int32)), (.int (12 : Int32)), (.ref b272), (.ref b272), (.ref b269), (.ref b269)])) _
            refine st311 _ ?_
            exact k
          obtain ⟨lq314, X314, N314⟩ : ∃ lq, Stand p l e ({ frames := 5, cells := 3, slots := 64, locals := 90 } : Room) (s.setVm s.vm) m #[(.int p1), (.int p2), (.int p3), (.int p4)] below meth c T311 lq 2 17 ∧ Fr n0 lq := ⟨_, X311, N311⟩
          obtain ⟨_, _, ⟨T315, L315, k315, n315⟩, -, X315, ⟨Lc315, hQ315, l315, y315, z315⟩, st315⟩ := X314.specialBack hx (y := (⟨"java/lang/String", "<init>", "([C)V"⟩ : MethodName)) rfl hown (mvT hZ (hw _ (List.mem_of_getElem? (i := 11) rfl))) (mvT hZ (hw _ (List.mem_of_getElem? (i := 12) rfl))) (mvT hZ (hw _ (List.mem_of_getElem? (i := 13) rfl))) (by decide) (StrChars.Road.backV (W := 1) hZ hws (kI := 4) (hw _ (List.mem_of_getElem? (i := 5) rfl)) (cs := ([nar .char (67 : Int32), nar .char (104 : Int32), nar .char (97 : Int32), nar .char (108 : Int32), nar .char (108 : Int32), nar .char (101 : Int32), nar .char (110 : Int32), nar .char (103 : Int32), nar .char (101 : Int32), nar .char (69 : Int32), nar .char (109 : Int32), nar .char (97 : Int32), nar .char (105 : Int32)] : List Int32)) (bs := (([nar .char (67 : Int32), nar .char (104 : Int32), nar .char (97 : Int32), nar .char (108 : Int32), nar .char (108 : Int32), nar .char (101 : Int32), nar .char (110 : Int32), nar .char (103 : Int32), nar .char (101 : Int32), nar .char (69 : Int32), nar .char (109 : Int32), nar .char (97 : Int32), nar .char (105 : Int32)] : List Int32)).map (fun c => c.toInt8.toInt32)) (n := 13) g_b269 Zs312 E_b269_311 F_b269_value_311 F_b269_coder_311 V311_b272 S_java_lang_String_COMPACT_STRINGS_311 P5 rfl rfl (by decide) (by decide) hp rfl (by decide) (by decide)) (g := (mkF m 138 #[.val (.int p1), .val (.int p2), .val (.int p3), .val (.int p4), .unset] [(.ref b272), (.ref b269), (.ref b269)])) rfl (by rw [hml]; rfl) (Steps.refl _) (a := b269) (argsL := [(.ref b272)]) (rest := [(.ref b269)]) (lenOf pd_5 rfl) rfl (by show 2 * 0 + _ ≤ _; exact Nat.le_of_eq rfl) (hb hby d1_138) (fun _ _ => ⟨rfl, e311, (by decide : 2 + 1 ≤ _), (by decide : 17 + 13 ≤ _)⟩)
          dsimp only [Pt.U, Pt.locs, Pt.cells, Pt.slots] at X315 l315 y315 z315 st315 hQ315
          subst l315 y315 z315
          obtain ⟨rfl, N315q, K315q, E315q, Fc315q, ta315, kb315, u1315, u2315, u3315, Fv315q, Vv315q⟩ := hQ315
          have N315 := Fr.app N314 N315q
          have E_b269_315 := E_b269_311.keep K315q
          have Zs316 := Nat.le_trans Zs312 K315q.1
          have hk317 := Nat.le_trans hk313 K315q.1
          have Kk315 := Kk311.trans K315q (allS (Or.inr sz_b269) all0)
          obtain ⟨fs, hr, hrun, hended, hEnd⟩ := Stand.leaveW (s := s) (vm₁ := s.vm) X315 hS0 (by exact hk317) (v := some (.ref b269)) (fun h => by rw [Bd.returns] at h; cases h)
          refine ⟨_, _, pre30 _ ?_, hrun, hended, _, _, rfl, ?_, ?_, hEnd.1, hEnd.2.1, hEnd.2.2.1, hEnd.2.2.2.mono (by decide) (by decide)⟩
          · show Steps p.tables e below (T311.setTop (mkF m 138 #[.val (.int p1), .val (.int p2), .val (.int p3), .val (.int p4), .unset] [(.ref b272), (.ref b269), (.ref b269)])) _
            refine st315.trans ?_
            show Steps p.tables e below (T315.setTop (mkF m 141 #[.val (.int p1), .val (.int p2), .val (.int p3), .val (.int p4), .unset] [(.ref b269)])) _
            exact retOut X315 hx Bd.returns rfl (Or.inr (Or.inr (Or.inr (Or.inr ⟨rfl, rfl, rfl⟩)))) (hb hby d1_141) hr
          · show Q1 Z p1 p2 p3 p4 G1 h0 n0 _ T315.heap _
            exact ⟨_, ([nar .char (67 : Int32), nar .char (104 : Int32), nar .char (97 : Int32), nar .char (108 : Int32), nar .char (108 : Int32), nar .char (101 : Int32), nar .char (110 : Int32), nar .char (103 : Int32), nar .char (101 : Int32), nar .char (69 : Int32), nar .char (109 : Int32), nar .char (97 : Int32), nar .char (105 : Int32)] : List Int32), rfl, N315, Kk315, ta315, kb315, 13, E315q, Fv315q, Fc315q, Vv315q, hp, rfl, by decide⟩
          · show CHr Z consts_1 s.vm s.heap T315.vm T315.heap
            rw [hh]
            exact CHr.trans (CHr.keep Kk315 sf0 HC) (CHv.at (s := s) (vm0 := s.vm) X315 hZ hEL (CHv.keep Kk315 sf0 HC))
        · skip
          have pre31 : ∀ t, Steps p.tables e below (s₁.setTop (mkF m 238 #[.val (.int p1), .val (.int p2), .val (.int p3), .val (.int p4), .unset] [])) t → Steps p.tables e below (s₁.setTop (entryFrame m #[(.int p1), (.int p2), (.int p3), (.int p4)] 5)) t := by
            intro t k
            refine pre28 t ?_
            show Steps p.tables e below (s₁.setTop (mkF m 49 #[.val (.int p1), .val (.int p2), .val (.int p3), .val (.int p4), .unset] [])) _
            refine XS.iloadN X0.here hx rfl (hb hby d1_49) rfl ?_
            show Steps p.tables e below (s₁.setTop (mkF m 50 #[.val (.int p1), .val (.int p2), .val (.int p3), .val (.int p4), .unset] [(.int p2)])) _
            refine XS.iconst X0.here hx rfl (hb hby d1_50) ?_
            show Steps p.tables e below (s₁.setTop (mkF m 51 #[.val (.int p1), .val (.int p2), .val (.int p3), .val (.int p4), .unset] [(.int (2 : Int32)), (.int p2)])) _
            refine XS.icmpYes X0.here hx rfl (pc0 := 51) (pc' := 238) rfl (hb hby d1_51) rfl (feq k2).2 (by decide) (by decide) ?_
            exact k
          by_cases k3 : p2 = 3
          · skip
            have hp : ∀ c ∈ ([nar .char (67 : Int32), nar .char (104 : Int32), nar .char (97 : Int32), nar .char (108 : Int32), nar .char (108 : Int32), nar .char (101 : Int32), nar .char (110 : Int32), nar .char (103 : Int32), nar .char (101 : Int32), nar .char (69 : Int32), nar .char (109 : Int32), nar .char (97 : Int32), nar .char (105 : Int32), nar .char (108 : Int32), nar .char p4] : List Int32), ¬ c < 0 ∧ ¬ (255 : Int32) < c := (own_cc (by decide +kernel) (own_cc (by decide +kernel) (own_cc (by decide +kernel) (own_cc (by decide +kernel) (own_cc (by decide +kernel) (own_cc (by decide +kernel) (own_cc (by decide +kernel) (own_cc (by decide +kernel) (own_cc (by decide +kernel) (own_cc (by decide +kernel) (own_cc (by decide +kernel) (own_cc (by decide +kernel) (own_cc (by decide +kernel) (own_cc (by decide +kernel) (own_cc hcb own_cn)))))))))))))))
            have pre32 : ∀ t, Steps p.tables e below (s₁.setTop (mkF m 247 #[.val (.int p1), .val (.int p2), .val (.int p3), .val (.int p4), .unset] [])) t → Steps p.tables e below (s₁.setTop (entryFrame m #[(.int p1), (.int p2), (.int p3), (.int p4)] 5)) t := by
              intro t k
              refine pre31 t ?_
              show Steps p.tables e below (s₁.setTop (mkF m 238 #[.val (.int p1), .val (.int p2), .val (.int p3), .val (.int p4), .unset] [])) _
              refine XS.iloadN X0.here hx rfl (hb hby d1_238) rfl ?_
              show Steps p.tables e below (s₁.setTop (mkF m 239 #[.val (.int p1), .val (.int p2), .val (.int p3), .val (.int p4), .unset] [(.int p2)])) _
              refine XS.iconst X0.here hx rfl (hb hby d1_239) ?_
              show Steps p.tables e below (s₁.setTop (mkF m 240 #[.val (.int p1), .val (.int p2), .val (.int p3), .val (.int p4), .unset] [(.int (3 : Int32)), (.int p2)])) _
              refine XS.icmpNo X0.here hx rfl (hb hby d1_240) rfl (teq k3).2 ?_
              show Steps p.tables e below (s₁.setTop (mkF m 243 #[.val (.int p1), .val (.int p2), .val (.int p3), .val (.int p4), .unset] [])) _
              refine XS.iloadN X0.here hx rfl (hb hby d1_243) rfl ?_
              show Steps p.tables e below (s₁.setTop (mkF m 244 #[.val (.int p1), .val (.int p2), .val (.int p3), .val (.int p4), .unset] [(.int p1)])) _
              refine XS.ifNo X0.here hx rfl (hb hby d1_244) rfl ((if0 _ _).trans (feq ce).1) ?_
              exact k
            obtain ⟨T318, h318, X318, e318, E318, A318, D318, -, st318⟩ := newO X0 hx hZ hown (hw _ (List.mem_of_getElem? (i := 4) rfl)) (hw _ (List.mem_of_getElem? (i := 5) rfl)) (hw _ (List.mem_of_getElem? (i := 6) rfl)) e0 (g := (mkF m 247 #[.val (.int p1), .val (.int p2), .val (.int p3), .val (.int p4), .unset] [])) rfl (hb hby d1_247) (by decide) (by decide)
            obtain ⟨b318, g318⟩ : ∃ z, z = h0.size := ⟨_, rfl⟩
            rw [← g318] at A318 D318 st318
            have g_b318 : n0 ≤ b318 := Nat.le_trans Z0 (Nat.le_of_eq g318.symm)
            have sz_b318 := Nat.le_trans KK0.1 (Nat.le_of_eq g318.symm)
            have S_java_lang_String_COMPACT_STRINGS_318 := S1.ext E318
            have Zs319 := Nat.le_trans Z0 E318.1
            have hk320 := Nat.le_trans hk0 E318.1
            have Kk318 := KK0.ext E318
            have F_coder_b318 : Fld Z h318 b318 "java/lang/String" "coder" "B" (.int (0 : Int32)) := D318 (Or.inr (hw _ (List.mem_of_getElem? (i := 34) rfl))) (ty := .byte) (by decide)
            have F_value_b318 : Fld Z h318 b318 "java/lang/String" "value" "[B" .null := D318 (Or.inr (hw _ (List.mem_of_getElem? (i := 36) rfl))) (ty := (.array .byte)) (by decide)
            obtain ⟨T321, h321, k321, X321, e321, E321, A321, st321⟩ := newP X318 hx hZ (hw _ (List.mem_of_getElem? (i := 10) rfl)) e318 (g := (mkF m 253 #[.val (.int p1), .val (.int p2), .val (.int p3), .val (.int p4), .unset] [(.int (15 : Int32)), (.ref b318), (.ref b318)])) rfl (hb hby d1_253) rfl (by decide) (cap := 15) (by decide) (by decide) (by decide) (by decide)
            obtain ⟨b321, g321⟩ : ∃ z, z = h318.size := ⟨_, rfl⟩
            rw [← g321] at A321 st321
            have ne_b318_b321 : b318 ≠ b321 := Nat.ne_of_lt (Nat.lt_of_lt_of_le F_coder_b318.lt (Nat.le_of_eq g321.symm))
            have g_b321 : n0 ≤ b321 := Nat.le_trans Zs319 (Nat.le_of_eq g321.symm)
            have sz_b321 := Nat.le_trans Kk318.1 (Nat.le_of_eq g321.symm)
            have S_java_lang_String_COMPACT_STRINGS_321 := S_java_lang_String_COMPACT_STRINGS_318.ext E321
            have F_b318_coder_321 := F_coder_b318.ext E321
            have F_b318_value_321 := F_value_b318.ext E321
            have E_b318_321 := A318.ext E321
            have Zs322 := Nat.le_trans Zs319 E321.1
            have hk323 := Nat.le_trans hk320 E321.1
            have Kk321 := Kk318.ext E321
            have V_b321 : Arv Z h321 b321 k321 .char (15 : Int32) [(.int (0 : Int32)), (.int (0 : Int32)), (.int (0 : Int32)), (.int (0 : Int32)), (.int (0 : Int32)), (.int (0 : Int32)), (.int (0 : Int32)), (.int (0 : Int32)), (.int (0 : Int32)), (.int (0 : Int32)), (.int (0 : Int32)), (.int (0 : Int32)), (.int (0 : Int32)), (.int (0 : Int32)), (.int (0 : Int32))] (.int (0 : Int32)) := (Arv.new A321 (by decide)).pad (pad_rep [] (.int (0 : Int32)) 15)
            obtain ⟨cl324, Ar324, q324, S324, N324m, H324, G324⟩ := id V_b321
            have hin324 : ¬ ((0 : Int32) < 0 ∨ cl324.slots.size ≤ ((0 : Int32)).toNatClampNeg) := inb_of S324 ⟨by decide, by decide⟩
            obtain ⟨T324, h324, X324, e324, W324, st324⟩ := stC X321 hx hZ e321 Ar324 (j := (0 : Int32)) hin324 (g := (mkF m 259 #[.val (.int p1), .val (.int p2), .val (.int p3), .val (.int p4), .unset] [(.int (67 : Int32)), (.int (0 : Int32)), (.ref b321), (.ref b321), (.ref b318), (.ref b318)])) rfl rfl (hb hby d1_259)
            have V324_b321 : Arv Z h324 b321 k321 .char (15 : Int32) [(.int (nar .char (67 : Int32))), (.int (0 : Int32)), (.int (0 : Int32)), (.int (0 : Int32)), (.int (0 : Int32)), (.int (0 : Int32)), (.int (0 : Int32)), (.int (0 : Int32)), (.int (0 : Int32)), (.int (0 : Int32)), (.int (0 : Int32)), (.int (0 : Int32)), (.int (0 : Int32)), (.int (0 : Int32)), (.int (0 : Int32))] (.int (0 : Int32)) := Arv.set Ar324 q324 S324 N324m H324 G324 (fits_nar_char _) W324 0 rfl (Nat.le_of_ble_eq_true rfl)
            have S_java_lang_String_COMPACT_STRINGS_324 := S_java_lang_String_COMPACT_STRINGS_321.wr W324
            have F_b318_coder_324 := F_b318_coder_321.other W324 (Or.inl ne_b318_b321)
            have F_b318_value_324 := F_b318_value_321.other W324 (Or.inl ne_b318_b321)
            have E_b318_324 := E_b318_321.wr W324
            have Zs325 := Nat.le_trans Zs322 (Keep.of_wr W324).1
            have hk326 := Nat.le_trans hk323 (Keep.of_wr W324).1
            have Kk324 := Kk321.wr W324 (Or.inr sz_b321)
            have N324 := Fr.snoc X324 N0 g_b321
            obtain ⟨cl327, Ar327, q327, S327, N327m, H327, G327⟩ := id V324_b321
            have hin327 : ¬ ((1 : Int32) < 0 ∨ cl327.slots.size ≤ ((1 : Int32)).toNatClampNeg) := inb_of S327 ⟨by decide, by decide⟩
            obtain ⟨T327, h327, X327, e327, W327, st327⟩ := stC X324 hx hZ e324 Ar327 (j := (1 : Int32)) hin327 (g := (mkF m 264 #[.val (.int p1), .val (.int p2), .val (.int p3), .val (.int p4), .unset] [(.int (104 : Int32)), (.int (1 : Int32)), (.ref b321), (.ref b321), (.ref b318), (.ref b318)])) rfl rfl (hb hby d1_264)
            have V327_b321 : Arv Z h327 b321 k321 .char (15 : Int32) [(.int (nar .char (67 : Int32))), (.int (nar .char (104 : Int32))), (.int (0 : Int32)), (.int (0 : Int32)), (.int (0 : Int32)), (.int (0 : Int32)), (.int (0 : Int32)), (.int (0 : Int32)), (.int (0 : Int32)), (.int (0 : Int32)), (.int (0 : Int32)), (.int (0 : Int32)), (.int (0 : Int32)), (.int (0 : Int32)), (.int (0 : Int32))] (.int (0 : Int32)) := Arv.set Ar327 q327 S327 N327m H327 G327 (fits_nar_char _) W327 1 rfl (Nat.le_of_ble_eq_true rfl)
            have S_java_lang_String_COMPACT_STRINGS_327 := S_java_lang_String_COMPACT_STRINGS_324.wr W327
            have F_b318_coder_327 := F_b318_coder_324.other W327 (Or.inl ne_b318_b321)
            have F_b318_value_327 := F_b318_value_324.other W327 (Or.inl ne_b318_b321)
            have E_b318_327 := E_b318_324.wr W327
            have Zs328 := Nat.le_trans Zs325 (Keep.of_wr W327).1
            have hk329 := Nat.le_trans hk326 (Keep.of_wr W327).1
            have Kk327 := Kk324.wr W327 (Or.inr sz_b321)
            have N327 := Fr.snoc X327 N324 g_b321
            obtain ⟨cl330, Ar330, q330, S330, N330m, H330, G330⟩ := id V327_b321
            have hin330 : ¬ ((2 : Int32) < 0 ∨ cl330.slots.size ≤ ((2 : Int32)).toNatClampNeg) := inb_of S330 ⟨by decide, by decide⟩
            obtain ⟨T330, h330, X330, e330, W330, st330⟩ := stC X327 hx hZ e327 Ar330 (j := (2 : Int32)) hin330 (g := (mkF m 269 #[.val (.int p1), .val (.int p2), .val (.int p3), .val (.int p4), .unset] [(.int (97 : Int32)), (.int (2 : Int32)), (.ref b321), (.ref b321), (.ref b318), (.ref b318)])) rfl rfl (hb hby d1_269)
            have V330_b321 : Arv Z h330 b321 k321 .char (15 : Int32) [(.int (nar .char (67 : Int32))), (.int (nar .char (104 : Int32))), (.int (nar .char (97 : Int32))), (.int (0 : Int32)), (.int (0 : Int32)), (.int (0 : Int32)), (.int (0 : Int32)), (.int (0 : Int32)), (.int (0 : Int32)), (.int (0 : Int32)), (.int (0 : Int32)), (.int (0 : Int32)), (.int (0 : Int32)), (.int (0 : Int32)), (.int (0 : Int32))] (.int (0 : Int32)) := Arv.set Ar330 q330 S330 N330m H330 G330 (fits_nar_char _) W330 2 rfl (Nat.le_of_ble_eq_true rfl)
            have S_java_lang_String_COMPACT_STRINGS_330 := S_java_lang_String_COMPACT_STRINGS_327.wr W330
            have F_b318_coder_330 := F_b318_coder_327.other W330 (Or.inl ne_b318_b321)
            have F_b318_value_330 := F_b318_value_327.other W330 (Or.inl ne_b318_b321)
            have E_b318_330 := E_b318_327.wr W330
            have Zs331 := Nat.le_trans Zs328 (Keep.of_wr W330).1
            have hk332 := Nat.le_trans hk329 (Keep.of_wr W330).1
            have Kk330 := Kk327.wr W330 (Or.inr sz_b321)
            have N330 := Fr.snoc X330 N327 g_b321
            obtain ⟨cl333, Ar333, q333, S333, N333m, H333, G333⟩ := id V330_b321
            have hin333 : ¬ ((3 : Int32) < 0 ∨ cl333.slots.size ≤ ((3 : Int32)).toNatClampNeg) := inb_of S333 ⟨by decide, by decide⟩
            obtain ⟨T333, h333, X333, e333, W333, st333⟩ := stC X330 hx hZ e330 Ar333 (j := (3 : Int32)) hin333 (g := (mkF m 274 #[.val (.int p1), .val (.int p2), .val (.int p3), .val (.int p4), .unset] [(.int (108 : Int32)), (.int (3 : Int32)), (.ref b321), (.ref b321), (.ref b318), (.ref b318)])) rfl rfl (hb hby d1_274)
            have V333_b321 : Arv Z h333 b321 k321 .char (15 : Int32) [(.int (nar .char (67 : Int32))), (.int (nar .char (104 : Int32))), (.int (nar .char (97 : Int32))), (.int (nar .char (108 : Int32))), (.int (0 : Int32)), (.int (0 : Int32)), (.int (0 : Int32)), (.int (0 : Int32)), (.int (0 : Int32)), (.int (0 : Int32)), (.int (0 : Int32)), (.int (0 : Int32)), (.int (0 : Int32)), (.int (0 : Int32)), (.int (0 : Int32))] (.int (0 : Int32)) := Arv.set Ar333 q333 S333 N333m H333 G333 (fits_nar_char _) W333 3 rfl (Nat.le_of_ble_eq_true rfl)
            have S_java_lang_String_COMPACT_STRINGS_333 := S_java_lang_String_COMPACT_STRINGS_330.wr W333
            have F_b318_coder_333 := F_b318_coder_330.other W333 (Or.inl ne_b318_b321)
            have F_b318_value_333 := F_b318_value_330.other W333 (Or.inl ne_b318_b321)
            have E_b318_333 := E_b318_330.wr W333
            have Zs334 := Nat.le_trans Zs331 (Keep.of_wr W333).1
            have hk335 := Nat.le_trans hk332 (Keep.of_wr W333).1
            have Kk333 := Kk330.wr W333 (Or.inr sz_b321)
            have N333 := Fr.snoc X333 N330 g_b321
            obtain ⟨cl336, Ar336, q336, S336, N336m, H336, G336⟩ := id V333_b321
            have hin336 : ¬ ((4 : Int32) < 0 ∨ cl336.slots.size ≤ ((4 : Int32)).toNatClampNeg) := inb_of S336 ⟨by decide, by decide⟩
            obtain ⟨T336, h336, X336, e336, W336, st336⟩ := stC X333 hx hZ e333 Ar336 (j := (4 : Int32)) hin336 (g := (mkF m 279 #[.val (.int p1), .val (.int p2), .val (.int p3), .val (.int p4), .unset] [(.int (108 : Int32)), (.int (4 : Int32)), (.ref b321), (.ref b321), (.ref b318), (.ref b318)])) rfl rfl (hb hby d1_279)
            have V336_b321 : Arv Z h336 b321 k321 .char (15 : Int32) [(.int (nar .char (67 : Int32))), (.int (nar .char (104 : Int32))), (.int (nar .char (97 : Int32))), (.int (nar .char (108 : Int32))), (.int (nar .char (108 : Int32))), (.int (0 : Int32)), (.int (0 : Int32)), (.int (0 : Int32)), (.int (0 : Int32)), (.int (0 : Int32)), (.int (0 : Int32)), (.int (0 : Int32)), (.int (0 : Int32)), (.int (0 : Int32)), (.int (0 : Int32))] (.int (0 : Int32)) := Arv.set Ar336 q336 S336 N336m H336 G336 (fits_nar_char _) W336 4 rfl (Nat.le_of_ble_eq_true rfl)
            have S_java_lang_String_COMPACT_STRINGS_336 := S_java_lang_String_COMPACT_STRINGS_333.wr W336
            have F_b318_coder_336 := F_b318_coder_333.other W336 (Or.inl ne_b318_b321)
            have F_b318_value_336 := F_b318_value_333.other W336 (Or.inl ne_b318_b321)
            have E_b318_336 := E_b318_333.wr W336
            have Zs337 := Nat.le_trans Zs334 (Keep.of_wr W336).1
            have hk338 := Nat.le_trans hk335 (Keep.of_wr W336).1
            have Kk336 := Kk333.wr W336 (Or.inr sz_b321)
            have N336 := Fr.snoc X336 N333 g_b321
            obtain ⟨cl339, Ar339, q339, S339, N339m, H339, G339⟩ := id V336_b321
            have hin339 : ¬ ((5 : Int32) < 0 ∨ cl339.slots.size ≤ ((5 : Int32)).toNatClampNeg) := inb_of S339 ⟨by decide, by decide⟩
            obtain ⟨T339, h339, X339, e339, W339, st339⟩ := stC X336 hx hZ e336 Ar339 (j := (5 : Int32)) hin339 (g := (mkF m 284 #[.val (.int p1), .val (.int p2), .val (.int p3), .val (.int p4), .unset] [(.int (101 : Int32)), (.int (5 : Int32)), (.ref b321), (.ref b321), (.ref b318), (.ref b318)])) rfl rfl (hb hby d1_284)
            have V339_b321 : Arv Z h339 b321 k321 .char (15 : Int32) [(.int (nar .char (67 : Int32))), (.int (nar .char (104 : Int32))), (.int (nar .char (97 : Int32))), (.int (nar .char (108 : Int32))), (.int (nar .char (108 : Int32))), (.int (nar .char (101 : Int32))), (.int (0 : Int32)), (.int (0 : Int32)), (.int (0 : Int32)), (.int (0 : Int32)), (.int (0 : Int32)), (.int (0 : Int32)), (.int (0 : Int32)), (.int (0 : Int32)), (.int (0 : Int32))] (.int (0 : Int32)) := Arv.set Ar339 q339 S339 N339m H339 G339 (fits_nar_char _) W339 5 rfl (Nat.le_of_ble_eq_true rfl)
            have S_java_lang_String_COMPACT_STRINGS_339 := S_java_lang_String_COMPACT_STRINGS_336.wr W339
            have F_b318_coder_339 := F_b318_coder_336.other W339 (Or.inl ne_b318_b321)
            have F_b318_value_339 := F_b318_value_336.other W339 (Or.inl ne_b318_b321)
            have E_b318_339 := E_b318_336.wr W339
            have Zs340 := Nat.le_trans Zs337 (Keep.of_wr W339).1
            have hk341 := Nat.le_trans hk338 (Keep.of_wr W339).1
            have Kk339 := Kk336.wr W339 (Or.inr sz_b321)
            have N339 := Fr.snoc X339 N336 g_b321
            obtain ⟨cl342, Ar342, q342, S342, N342m, H342, G342⟩ := id V339_b321
            have hin342 : ¬ ((6 : Int32) < 0 ∨ cl342.slots.size ≤ ((6 : Int32)).toNatClampNeg) := inb_of S342 ⟨by decide, by decide⟩
            obtain ⟨T342, h342, X342, e342, W342, st342⟩ := stC X339 hx hZ e339 Ar342 (j := (6 : Int32)) hin342 (g := (mkF m 290 #[.val (.int p1), .val (.int p2), .val (.int p3), .val (.int p4), .unset] [(.int (110 : Int32)), (.int (6 : Int32)), (.ref b321), (.ref b321), (.ref b318), (.ref b318)])) rfl rfl (hb hby d1_290)
            have V342_b321 : Arv Z h342 b321 k321 .char (15 : Int32) [(.int (nar .char (67 : Int32))), (.int (nar .char (104 : Int32))), (.int (nar .char (97 : Int32))), (.int (nar .char (108 : Int32))), (.int (nar .char (108 : Int32))), (.int (nar .char (101 : Int32))), (.int (nar .char (110 : Int32))), (.int (0 : Int32)), (.int (0 : Int32)), (.int (0 : Int32)), (.int (0 : Int32)), (.int (0 : Int32)), (.int (0 : Int32)), (.int (0 : Int32)), (.int (0 : Int32))] (.int (0 : Int32)) := Arv.set Ar342 q342 S342 N342m H342 G342 (fits_nar_char _) W342 6 rfl (Nat.le_of_ble_eq_true rfl)
            have S_java_lang_String_COMPACT_STRINGS_342 := S_java_lang_String_COMPACT_STRINGS_339.wr W342
            have F_b318_coder_342 := F_b318_coder_339.other W342 (Or.inl ne_b318_b321)
            have F_b318_value_342 := F_b318_value_339.other W342 (Or.inl ne_b318_b321)
            have E_b318_342 := E_b318_339.wr W342
            have Zs343 := Nat.le_trans Zs340 (Keep.of_wr W342).1
            have hk344 := Nat.le_trans hk341 (Keep.of_wr W342).1
            have Kk342 := Kk339.wr W342 (Or.inr sz_b321)
            have N342 := Fr.snoc X342 N339 g_b321
            obtain ⟨cl345, Ar345, q345, S345, N345m, H345, G345⟩ := id V342_b321
            have hin345 : ¬ ((7 : Int32) < 0 ∨ cl345.slots.size ≤ ((7 : Int32)).toNatClampNeg) := inb_of S345 ⟨by decide, by decide⟩
            obtain ⟨T345, h345, X345, e345, W345, st345⟩ := stC X342 hx hZ e342 Ar345 (j := (7 : Int32)) hin345 (g := (mkF m 296 #[.val (.int p1), .val (.int p2), .val (.int p3), .val (.int p4), .unset] [(.int (103 : Int32)), (.int (7 : Int32)), (.ref b321), (.ref b321), (.ref b318), (.ref b318)])) rfl rfl (hb hby d1_296)
            have V345_b321 : Arv Z h345 b321 k321 .char (15 : Int32) [(.int (nar .char (67 : Int32))), (.int (nar .char (104 : Int32))), (.int (nar .char (97 : Int32))), (.int (nar .char (108 : Int32))), (.int (nar .char (108 : Int32))), (.int (nar .char (101 : Int32))), (.int (nar .char (110 : Int32))), (.int (nar .char (103 : Int32))), (.int (0 : Int32)), (.int (0 : Int32)), (.int (0 : Int32)), (.int (0 : Int32)), (.int (0 : Int32)), (.int (0 : Int32)), (.int (0 : Int32))] (.int (0 : Int32)) := Arv.set Ar345 q345 S345 N345m H345 G345 (fits_nar_char _) W345 7 rfl (Nat.le_of_ble_eq_true rfl)
            have S_java_lang_String_COMPACT_STRINGS_345 := S_java_lang_String_COMPACT_STRINGS_342.wr W345
            have F_b318_coder_345 := F_b318_coder_342.other W345 (Or.inl ne_b318_b321)
            have F_b318_value_345 := F_b318_value_342.other W345 (Or.inl ne_b318_b321)
            have E_b318_345 := E_b318_342.wr W345
            have Zs346 := Nat.le_trans Zs343 (Keep.of_wr W345).1
            have hk347 := Nat.le_trans hk344 (Keep.of_wr W345).1
            have Kk345 := Kk342.wr W345 (Or.inr sz_b321)
            have N345 := Fr.snoc X345 N342 g_b321
            obtain ⟨cl348, Ar348, q348, S348, N348m, H348, G348⟩ := id V345_b321
            have hin348 : ¬ ((8 : Int32) < 0 ∨ cl348.slots.size ≤ ((8 : Int32)).toNatClampNeg) := inb_of S348 ⟨by decide, by decide⟩
            obtain ⟨T348, h348, X348, e348, W348, st348⟩ := stC X345 hx hZ e345 Ar348 (j := (8 : Int32)) hin348 (g := (mkF m 302 #[.val (.int p1), .val (.int p2), .val (.int p3), .val (.int p4), .unset] [(.int (101 : Int32)), (.int (8 : Int32)), (.ref b321), (.ref b321), (.ref b318), (.ref b318)])) rfl rfl (hb hby d1_302)
            have V348_b321 : Arv Z h348 b321 k321 .char (15 : Int32) [(.int (nar .char (67 : Int32))), (.int (nar .char (104 : Int32))), (.int (nar .char (97 : Int32))), (.int (nar .char (108 : Int32))), (.int (nar .char (108 : Int32))), (.int (nar .char (101 : Int32))), (.int (nar .char (110 : Int32))), (.int (nar .char (103 : Int32))), (.int (nar .char (101 : Int32))), (.int (0 : Int32)), (.int (0 : Int32)), (.int (0 : Int32)), (.int (0 : Int32)), (.int (0 : Int32)), (.int (0 : Int32))] (.int (0 : Int32)) := Arv.set Ar348 q348 S348 N348m H348 G348 (fits_nar_char _) W348 8 rfl (Nat.le_of_ble_eq_true rfl)
            have S_java_lang_String_COMPACT_STRINGS_348 := S_java_lang_String_COMPACT_STRINGS_345.wr W348
            have F_b318_coder_348 := F_b318_coder_345.other W348 (Or.inl ne_b318_b321)
            have F_b318_value_348 := F_b318_value_345.other W348 (Or.inl ne_b318_b321)
            have E_b318_348 := E_b318_345.wr W348
            have Zs349 := Nat.le_trans Zs346 (Keep.of_wr W348).1
            have hk350 := Nat.le_trans hk347 (Keep.of_wr W348).1
            have Kk348 := Kk345.wr W348 (Or.inr sz_b321)
            have N348 := Fr.snoc X348 N345 g_b321
            obtain ⟨cl351, Ar351, q351, S351, N351m, H351, G351⟩ := id V348_b321
            have hin351 : ¬ ((9 : Int32) < 0 ∨ cl351.slots.size ≤ ((9 : Int32)).toNatClampNeg) := inb_of S351 ⟨by decide, by decide⟩
            obtain ⟨T351, h351, X351, e351, W351, st351⟩ := stC X348 hx hZ e348 Ar351 (j := (9 : Int32)) hin351 (g := (mkF m 308 #[.val (.int p1), .val (.int p2), .val (.int p3), .val (.int p4), .unset] [(.int (69 : Int32)), (.int (9 : Int32)), (.ref b321), (.ref b321), (.ref b318), (.ref b318)])) rfl rfl (hb hby d1_308)
            have V351_b321 : Arv Z h351 b321 k321 .char (15 : Int32) [(.int (nar .char (67 : Int32))), (.int (nar .char (104 : Int32))), (.int (nar .char (97 : Int32))), (.int (nar .char (108 : Int32))), (.int (nar .char (108 : Int32))), (.int (nar .char (101 : Int32))), (.int (nar .char (110 : Int32))), (.int (nar .char (103 : Int32))), (.int (nar .char (101 : Int32))), (.int (nar .char (69 : Int32))), (.int (0 : Int32)), (.int (0 : Int32)), (.int (0 : Int32)), (.int (0 : Int32)), (.int (0 : Int32))] (.int (0 : Int32)) := Arv.set Ar351 q351 S351 N351m H351 G351 (fits_nar_char _) W351 9 rfl (Nat.le_of_ble_eq_true rfl)
            have S_java_lang_String_COMPACT_STRINGS_351 := S_java_lang_String_COMPACT_STRINGS_348.wr W351
            have F_b318_coder_351 := F_b318_coder_348.other W351 (Or.inl ne_b318_b321)
            have F_b318_value_351 := F_b318_value_348.other W351 (Or.inl ne_b318_b321)
            have E_b318_351 := E_b318_348.wr W351
            have Zs352 := Nat.le_trans Zs349 (Keep.of_wr W351).1
            have hk353 := Nat.le_trans hk350 (Keep.of_wr W351).1
            have Kk351 := Kk348.wr W351 (Or.inr sz_b321)
            have N351 := Fr.snoc X351 N348 g_b321
            obtain ⟨cl354, Ar354, q354, S354, N354m, H354, G354⟩ := id V351_b321
            have hin354 : ¬ ((10 : Int32) < 0 ∨ cl354.slots.size ≤ ((10 : Int32)).toNatClampNeg) := inb_of S354 ⟨by decide, by decide⟩
            obtain ⟨T354, h354, X354, e354, W354, st354⟩ := stC X351 hx hZ e351 Ar354 (j := (10 : Int32)) hin354 (g := (mkF m 314 #[.val (.int p1), .val (.int p2), .val (.int p3), .val (.int p4), .unset] [(.int (109 : Int32)), (.int (10 : Int32)), (.ref b321), (.ref b321), (.ref b318), (.ref b318)])) rfl rfl (hb hby d1_314)
            have V354_b321 : Arv Z h354 b321 k321 .char (15 : Int32) [(.int (nar .char (67 : Int32))), (.int (nar .char (104 : Int32))), (.int (nar .char (97 : Int32))), (.int (nar .char (108 : Int32))), (.int (nar .char (108 : Int32))), (.int (nar .char (101 : Int32))), (.int (nar .char (110 : Int32))), (.int (nar .char (103 : Int32))), (.int (nar .char (101 : Int32))), (.int (nar .char (69 : Int32))), (.int (nar .char (109 : Int32))), (.int (0 : Int32)), (.int (0 : Int32)), (.int (0 : Int32)), (.int (0 : Int32))] (.int (0 : Int32)) := Arv.set Ar354 q354 S354 N354m H354 G354 (fits_nar_char _) W354 10 rfl (Nat.le_of_ble_eq_true rfl)
            have S_java_lang_String_COMPACT_STRINGS_354 := S_java_lang_String_COMPACT_STRINGS_351.wr W354
            have F_b318_coder_354 := F_b318_coder_351.other W354 (Or.inl ne_b318_b321)
            have F_b318_value_354 := F_b318_value_351.other W354 (Or.inl ne_b318_b321)
            have E_b318_354 := E_b318_351.wr W354
            have Zs355 := Nat.le_trans Zs352 (Keep.of_wr W354).1
            have hk356 := Nat.le_trans hk353 (Keep.of_wr W354).1
            have Kk354 := Kk351.wr W354 (Or.inr sz_b321)
            have N354 := Fr.snoc X354 N351 g_b321
            obtain ⟨cl357, Ar357, q357, S357, N357m, H357, G357⟩ := id V354_b321
            have hin357 : ¬ ((11 : Int32) < 0 ∨ cl357.slots.size ≤ ((11 : Int32)).toNatClampNeg) := inb_of S357 ⟨by decide, by decide⟩
            obtain ⟨T357, h357, X357, e357, W357, st357⟩ := stC X354 hx hZ e354 Ar357 (j := (11 : Int32)) hin357 (g := (mkF m 320 #[.val (.int p1), .val (.int p2), .val (.int p3), .val (.int p4), .unset] [(.int (97 : Int32)), (.int (11 : Int32)), (.ref b321), (.ref b321), (.ref b318), (.ref b318)])) rfl rfl (hb hby d1_320)
            have V357_b321 : Arv Z h357 b321 k321 .char (15 : Int32) [(.int (nar .char (67 : Int32))), (.int (nar .char (104 : Int32))), (.int (nar .char (97 : Int32))), (.int (nar .char (108 : Int32))), (.int (nar .char (108 : Int32))), (.int (nar .char (101 : Int32))), (.int (nar .char (110 : Int32))), (.int (nar .char (103 : Int32))), (.int (nar .char (101 : Int32))), (.int (nar .char (69 : Int32))), (.int (nar .char (109 : Int32))), (.int (nar .char (97 : Int32))), (.int (0 : Int32)), (.int (0 : Int32)), (.int (0 : Int32))] (.int (0 : Int32)) := Arv.set Ar357 q357 S357 N357m H357 G357 (fits_nar_char _) W357 11 rfl (Nat.le_of_ble_eq_true rfl)
            have S_java_lang_String_COMPACT_STRINGS_357 := S_java_lang_String_COMPACT_STRINGS_354.wr W357
            have F_b318_coder_357 := F_b318_coder_354.other W357 (Or.inl ne_b318_b321)
            have F_b318_value_357 := F_b318_value_354.other W357 (Or.inl ne_b318_b321)
            have E_b318_357 := E_b318_354.wr W357
            have Zs358 := Nat.le_trans Zs355 (Keep.of_wr W357).1
            have hk359 := Nat.le_trans hk356 (Keep.of_wr W357).1
            have Kk357 := Kk354.wr W357 (Or.inr sz_b321)
            have N357 := Fr.snoc X357 N354 g_b321
            obtain ⟨cl360, Ar360, q360, S360, N360m, H360, G360⟩ := id V357_b321
            have hin360 : ¬ ((12 : Int32) < 0 ∨ cl360.slots.size ≤ ((12 : Int32)).toNatClampNeg) := inb_of S360 ⟨by decide, by decide⟩
            obtain ⟨T360, h360, X360, e360, W360, st360⟩ := stC X357 hx hZ e357 Ar360 (j := (12 : Int32)) hin360 (g := (mkF m 326 #[.val (.int p1), .val (.int p2), .val (.int p3), .val (.int p4), .unset] [(.int (105 : Int32)), (.int (12 : Int32)), (.ref b321), (.ref b321), (.ref b318), (.ref b318)])) rfl rfl (hb hby d1_326)
            have V360_b321 : Arv Z h360 b321 k321 .char (15 : Int32) [(.int (nar .char (67 : Int32))), (.int (nar .char (104 : Int32))), (.int (nar .char (97 : Int32))), (.int (nar .char (108 : Int32))), (.int (nar .char (108 : Int32))), (.int (nar .char (101 : Int32))), (.int (nar .char (110 : Int32))), (.int (nar .char (103 : Int32))), (.int (nar .char (101 : Int32))), (.int (nar .char (69 : Int32))), (.int (nar .char (109 : Int32))), (.int (nar .char (97 : Int32))), (.int (nar .char (105 : Int32))), (.int (0 : Int32)), (.int (0 : Int32))] (.int (0 : Int32)) := Arv.set Ar360 q360 S360 N360m H360 G360 (fits_nar_char _) W360 12 rfl (Nat.le_of_ble_eq_true rfl)
            have S_java_lang_String_COMPACT_STRINGS_360 := S_java_lang_String_COMPACT_STRINGS_357.wr W360
            have F_b318_coder_360 := F_b318_coder_357.other W360 (Or.inl ne_b318_b321)
            have F_b318_value_360 := F_b318_value_357.other W360 (Or.inl ne_b318_b321)
            have E_b318_360 := E_b318_357.wr W360
            have Zs361 := Nat.le_trans Zs358 (Keep.of_wr W360).1
            have hk362 := Nat.le_trans hk359 (Keep.of_wr W360).1
            have Kk360 := Kk357.wr W360 (Or.inr sz_b321)
            have N360 := Fr.snoc X360 N357 g_b321
            obtain ⟨cl363, Ar363, q363, S363, N363m, H363, G363⟩ := id V360_b321
            have hin363 : ¬ ((13 : Int32) < 0 ∨ cl363.slots.size ≤ ((13 : Int32)).toNatClampNeg) := inb_of S363 ⟨by decide, by decide⟩
            obtain ⟨T363, h363, X363, e363, W363, st363⟩ := stC X360 hx hZ e360 Ar363 (j := (13 : Int32)) hin363 (g := (mkF m 332 #[.val (.int p1), .val (.int p2), .val (.int p3), .val (.int p4), .unset] [(.int (108 : Int32)), (.int (13 : Int32)), (.ref b321), (.ref b321), (.ref b318), (.ref b318)])) rfl rfl (hb hby d1_332)
            have V363_b321 : Arv Z h363 b321 k321 .char (15 : Int32) [(.int (nar .char (67 : Int32))), (.int (nar .char (104 : Int32))), (.int (nar .char (97 : Int32))), (.int (nar .char (108 : Int32))), (.int (nar .char (108 : Int32))), (.int (nar .char (101 : Int32))), (.int (nar .char (110 : Int32))), (.int (nar .char (103 : Int32))), (.int (nar .char (101 : Int32))), (.int (nar .char (69 : Int32))), (.int (nar .char (109 : Int32))), (.int (nar .char (97 : Int32))), (.int (nar .char (105 : Int32))), (.int (nar .char (108 : Int32))), (.int (0 : Int32))] (.int (0 : Int32)) := Arv.set Ar363 q363 S363 N363m H363 G363 (fits_nar_char _) W363 13 rfl (Nat.le_of_ble_eq_true rfl)
            have S_java_lang_String_COMPACT_STRINGS_363 := S_java_lang_String_COMPACT_STRINGS_360.wr W363
            have F_b318_coder_363 := F_b318_coder_360.other W363 (Or.inl ne_b318_b321)
            have F_b318_value_363 := F_b318_value_360.other W363 (Or.inl ne_b318_b321)
            have E_b318_363 := E_b318_360.wr W363
            have Zs364 := Nat.le_trans Zs361 (Keep.of_wr W363).1
            have hk365 := Nat.le_trans hk362 (Keep.of_wr W363).1
            have Kk363 := Kk360.wr W363 (Or.inr sz_b321)
            have N363 := Fr.snoc X363 N360 g_b321
            obtain ⟨cl366, Ar366, q366, S366, N366m, H366, G366⟩ := id V363_b321
            have hin366 : ¬ ((14 : Int32) < 0 ∨ cl366.slots.size ≤ ((14 : Int32)).toNatClampNeg) := inb_of S366 ⟨by decide, by decide⟩
            obtain ⟨T366, h366, X366, e366, W366, st366⟩ := stC X363 hx hZ e363 Ar366 (j := (14 : Int32)) hin366 (g := (mkF m 337 #[.val (.int p1), .val (.int p2), .val (.int p3), .val (.int p4), .unset] [(.int p4), (.int (14 : Int32)), (.ref b321), (.ref b321), (.ref b318), (.ref b318)])) rfl rfl (hb hby d1_337)
            have V366_b321 : Arv Z h366 b321 k321 .char (15 : Int32) [(.int (nar .char (67 : Int32))), (.int (nar .char (104 : Int32))), (.int (nar .char (97 : Int32))), (.int (nar .char (108 : Int32))), (.int (nar .char (108 : Int32))), (.int (nar .char (101 : Int32))), (.int (nar .char (110 : Int32))), (.int (nar .char (103 : Int32))), (.int (nar .char (101 : Int32))), (.int (nar .char (69 : Int32))), (.int (nar .char (109 : Int32))), (.int (nar .char (97 : Int32))), (.int (nar .char (105 : Int32))), (.int (nar .char (108 : Int32))), (.int (nar .char p4))] (.int (0 : Int32)) := Arv.set Ar366 q366 S366 N366m H366 G366 (fits_nar_char _) W366 14 rfl (Nat.le_of_ble_eq_true rfl)
            have S_java_lang_String_COMPACT_STRINGS_366 := S_java_lang_String_COMPACT_STRINGS_363.wr W366
            have F_b318_coder_366 := F_b318_coder_363.other W366 (Or.inl ne_b318_b321)
            have F_b318_value_366 := F_b318_value_363.other W366 (Or.inl ne_b318_b321)
            have E_b318_366 := E_b318_363.wr W366
            have Zs367 := Nat.le_trans Zs364 (Keep.of_wr W366).1
            have hk368 := Nat.le_trans hk365 (Keep.of_wr W366).1
            have Kk366 := Kk363.wr W366 (Or.inr sz_b321)
            have N366 := Fr.snoc X366 N363 g_b321
            have pre33 : ∀ t, Steps p.tables e below (T366.setTop (mkF m 338 #[.val (.int p1), .val (.int p2), .val (.int p3), .val (.int p4), .unset] [(.ref b321), (.ref b318), (.ref b318)])) t → Steps p.tables e below (s₁.setTop (entryFrame m #[(.int p1), (.int p2), (.int p3), (.int p4)] 5)) t := by
              intro t k
              refine pre32 t ?_
              show Steps p.tables e below (s₁.setTop (mkF m 247 #[.val (.int p1), .val (.int p2), .val (.int p3), .val (.int p4), .unset] [])) _
              refine st318 _ ?_
              show Steps p.tables e below (T318.setTop (mkF m 250 #[.val (.int p1), .val (.int p2), .val (.int p3), .val (.int p4), .unset] [(.ref b318)])) _
              refine XS.dup X318.here hx rfl (hb hby d1_250) rfl rfl ?_
              show Steps p.tables e below (T318.setTop (mkF m 251 #[.val (.int p1), .val (.int p2), .val (.int p3), .val (.int p4), .unset] [(.ref b318), (.ref b318)])) _
              refine XS.bipush X318.here hx rfl (hb hby d1_251) ?_
              show Steps p.tables e below (T318.setTop (mkF m 253 #[.val (.int p1), .val (.int p2), .val (.int p3), .val (.int p4), .unset] [(.int (15 : Int32)), (.ref b318), (.ref b318)])) _
              refine st321 _ ?_
              show Steps p.tables e below (T321.setTop (mkF m 255 #[.val (.int p1), .val (.int p2), .val (.int p3), .val (.int p4), .unset] [(.ref b321), (.ref b318), (.ref b318)])) _
              refine XS.dup X321.here hx rfl (hb hby d1_255) rfl rfl ?_
              show Steps p.tables e below (T321.setTop (mkF m 256 #[.val (.int p1), .val (.int p2), .val (.int p3), .val (.int p4), .unset] [(.ref b321), (.ref b321), (.ref b318), (.ref b318)])) _
              refine XS.iconst X321.here hx rfl (hb hby d1_256) ?_
              show Steps p.tables e below (T321.setTop (mkF m 257 #[.val (.int p1), .val (.int p2), .val (.int p3), .val (.int p4), .unset] [(.int (0 : Int32)), (.ref b321), (.ref b321), (.ref b318), (.ref b318)])) _
              refine XS.bipush X321.here hx rfl (hb hby d1_257) ?_
              show Steps p.tables e below (T321.setTop (mkF m 259 #[.val (.int p1), .val (.int p2), .val (.int p3), .val (.int p4), .unset] [(.int (67 : Int32)), (.int (0 : Int32)), (.ref b321), (.ref b321), (.ref b318), (.ref b318)])) _
              refine st324 _ ?_
              show Steps p.tables e below (T324.setTop (mkF m 260 #[.val (.int p1), .val (.int p2), .val (.int p3), .val (.int p4), .unset] [(.ref b321), (.ref b318), (.ref b318)])) _
              refine XS.dup X324.here hx rfl (hb hby d1_260) rfl rfl ?_
              show Steps p.tables e below (T324.setTop (mkF m 261 #[.val (.int p1), .val (.int p2), .val (.int p3), .val (.int p4), .unset] [(.ref b321), (.ref b321), (.ref b318), (.ref b318)])) _
              refine XS.iconst X324.here hx rfl (hb hby d1_261) ?_
              show Steps p.tables e below (T324.setTop (mkF m 262 #[.val (.int p1), .val (.int p2), .val (.int p3), .val (.int p4), .unset] [(.int (1 : Int32)), (.ref b321), (.ref b321), (.ref b318), (.ref b318)])) _
              refine XS.bipush X324.here hx rfl (hb hby d1_262) ?_
              show Steps p.tables e below (T324.setTop (mkF m 264 #[.val (.int p1), .val (.int p2), .val (.int p3), .val (.int p4), .unset] [(.int (104 : Int32)), (.int (1 : Int32)), (.ref b321), (.ref b321), (.ref b318), (.ref b318)])) _
              refine st327 _ ?_
              show Steps p.tables e below (T327.setTop (mkF m 265 #[.val (.int p1), .val (.int p2), .val (.int p3), .val (.int p4), .unset] [(.ref b321), (.ref b318), (.ref b318)])) _
              refine XS.dup X327.here hx rfl (hb hby d1_265) rfl rfl ?_
              show Steps p.tables e below (T327.setTop (mkF m 266 #[.val (.int p1), .val (.int p2), .val (.int p3), .val (.int p4), .unset] [(.ref b321), (.ref b321), (.ref b318), (.ref b318)])) _
              refine XS.iconst X327.here hx rfl (hb hby d1_266) ?_
              show Steps p.tables e below (T327.setTop (mkF m 267 #[.val (.int p1), .val (.int p2), .val (.int p3), .val (.int p4), .unset] [(.int (2 : Int32)), (.ref b321), (.ref b321), (.ref b318), (.ref b318)])) _
              refine XS.bipush X327.here hx rfl (hb hby d1_267) ?_
              show Steps p.tables e below (T327.setTop (mkF m 269 #[.val (.int p1), .val (.int p2), .val (.int p3), .val (.int p4), .unset] [(.int (97 : Int32)), (.int (2 : Int32)), (.ref b321), (.ref b321), (.ref b318), (.ref b318)])) _
              refine st330 _ ?_
              show Steps p.tables e below (T330.setTop (mkF m 270 #[.val (.int p1), .val (.int p2), .val (.int p3), .val (.int p4), .unset] [(.ref b321), (.ref b318), (.ref b318)])) _
              refine XS.dup X330.here hx rfl (hb hby d1_270) rfl rfl ?_
              show Steps p.tables e below (T330.setTop (mkF m 271 #[.val (.int p1), .val (.int p2), .val (.int p3), .val (.int p4), .unset] [(.ref b321), (.ref b321), (.ref b318), (.ref b318)])) _
              refine XS.iconst X330.here hx rfl (hb hby d1_271) ?_
              show Steps p.tables e below (T330.setTop (mkF m 272 #[.val (.int p1), .val (.int p2), .val (.int p3), .val (.int p4), .unset] [(.int (3 : Int32)), (.ref b321), (.ref b321), (.ref b318), (.ref b318)])) _
              refine XS.bipush X330.here hx rfl (hb hby d1_272) ?_
              show Steps p.tables e below (T330.setTop (mkF m 274 #[.val (.int p1), .val (.int p2), .val (.int p3), .val (.int p4), .unset] [(.int (108 : Int32)), (.int (3 : Int32)), (.ref b321), (.ref b321), (.ref b318), (.ref b318)])) _
              refine st333 _ ?_
              show Steps p.tables e below (T333.setTop (mkF m 275 #[.val (.int p1), .val (.int p2), .val (.int p3), .val (.int p4), .unset] [(.ref b321), (.ref b318), (.ref b318)])) _
              refine XS.dup X333.here hx rfl (hb hby d1_275) rfl rfl ?_
              show Steps p.tables e below (T333.setTop (mkF m 276 #[.val (.int p1), .val (.int p2), .val (.int p3), .val (.int p4), .unset] [(.ref b321), (.ref b321), (.ref b318), (.ref b318)])) _
              refine XS.iconst X333.here hx rfl (hb hby d1_276) ?_
              show Steps p.tables e below (T333.setTop (mkF m 277 #[.val (.int p1), .val (.int p2), .val (.int p3), .val (.int p4), .unset] [(.int (4 : Int32)), (.ref b321), (.ref b321), (.ref b318), (.ref b318)])) _
              refine XS.bipush X333.here hx rfl (hb hby d1_277) ?_
              show Steps p.tables e below (T333.setTop (mkF m 279 #[.val (.int p1), .val (.int p2), .val (.int p3), .val (.int p4), .unset] [(.int (108 : Int32)), (.int (4 : Int32)), (.ref b321), (.ref b321), (.ref b318), (.ref b318)])) _
              refine st336 _ ?_
              show Steps p.tables e below (T336.setTop (mkF m 280 #[.val (.int p1), .val (.int p2), .val (.int p3), .val (.int p4), .unset] [(.ref b321), (.ref b318), (.ref b318)])) _
              refine XS.dup X336.here hx rfl (hb hby d1_280) rfl rfl ?_
              show Steps p.tables e below (T336.setTop (mkF m 281 #[.val (.int p1), .val (.int p2), .val (.int p3), .val (.int p4), .unset] [(.ref b321), (.ref b321), (.ref b318), (.ref b318)])) _
              refine XS.iconst X336.here hx rfl (hb hby d1_281) ?_
              show Steps p.tables e below (T336.setTop (mkF m 282 #[.val (.int p1), .val (.int p2), .val (.int p3), .val (.int p4), .unset] [(.int (5 : Int32)), (.ref b321), (.ref b321), (.ref b318), (.ref b318)])) _
              refine XS.bipush X336.here hx rfl (hb hby d1_282) ?_
              show Steps p.tables e below (T336.setTop (mkF m 284 #[.val (.int p1), .val (.int p2), .val (.int p3), .val (.int p4), .unset] [(.int (101 : Int32)), (.int (5 : Int32)), (.ref b321), (.ref b321), (.ref b318), (.ref b318)])) _
              refine st339 _ ?_
              show Steps p.tables e below (T339.setTop (mkF m 285 #[.val (.int p1), .val (.int p2), .val (.int p3), .val (.int p4), .unset] [(.ref b321), (.ref b318), (.ref b318)])) _
              refine XS.dup X339.here hx rfl (hb hby d1_285) rfl rfl ?_
              show Steps p.tables e below (T339.setTop (mkF m 286 #[.val (.int p1), .val (.int p2), .val (.int p3), .val (.int p4), .unset] [(.ref b321), (.ref b321), (.ref b318), (.ref b318)])) _
              refine XS.bipush X339.here hx rfl (hb hby d1_286) ?_
              show Steps p.tables e below (T339.setTop (mkF m 288 #[.val (.int p1), .val (.int p2), .val (.int p3), .val (.int p4), .unset] [(.int (6 : Int32)), (.ref b321), (.ref b321), (.ref b318), (.ref b318)])) _
              refine XS.bipush X339.here hx rfl (hb hby d1_288) ?_
              show Steps p.tables e below (T339.setTop (mkF m 290 #[.val (.int p1), .val (.int p2), .val (.int p3), .val (.int p4), .unset] [(.int (110 : Int32)), (.int (6 : Int32)), (.ref b321), (.ref b321), (.ref b318), (.ref b318)])) _
              refine st342 _ ?_
              show Steps p.tables e below (T342.setTop (mkF m 291 #[.val (.int p1), .val (.int p2), .val (.int p3), .val (.int p4), .unset] [(.ref b321), (.ref b318), (.ref b318)])) _
              refine XS.dup X342.here hx rfl (hb hby d1_291) rfl rfl ?_
              show Steps p.tables e below (T342.setTop (mkF m 292 #[.val (.int p1), .val (.int p2), .val (.int p3), .val (.int p4), .unset] [(.ref b321), (.ref b321), (.ref b318), (.ref b318)])) _
              refine XS.bipush X342.here hx rfl (hb hby d1_292) ?_
              show Steps p.tables e below (T342.setTop (mkF m 294 #[.val (.int p1), .val (.int p2), .val (.int p3), .val (.int p4), .unset] [(.int (7 : Int32)), (.ref b321), (.ref b321), (.ref b318), (.ref b318)])) _
              refine XS.bipush X342.here hx rfl (hb hby d1_294) ?_
              show Steps p.tables e below (T342.setTop (mkF m 296 #[.val (.int p1), .val (.int p2), .val (.int p3), .val (.int p4), .unset] [(.int (103 : Int32)), (.int (7 : Int32)), (.ref b321), (.ref b321), (.ref b318), (.ref b318)])) _
              refine st345 _ ?_
              show Steps p.tables e below (T345.setTop (mkF m 297 #[.val (.int p1), .val (.int p2), .val (.int p3), .val (.int p4), .unset] [(.ref b321), (.ref b318), (.ref b318)])) _
              refine XS.dup X345.here hx rfl (hb hby d1_297) rfl rfl ?_
              show Steps p.tables e below (T345.setTop (mkF m 298 #[.val (.int p1), .val (.int p2), .val (.int p3), .val (.int p4), .unset] [(.ref b321), (.ref b321), (.ref b318), (.ref b318)])) _
              refine XS.bipush X345.here hx rfl (hb hby d1_298) ?_
              show Steps p.tables e below (T345.setTop (mkF m 300 #[.val (.int p1), .val (.int p2), .val (.int p3), .val (.int p4), .unset] [(.int (8 : Int32)), (.ref b321), (.ref b321), (.ref b318), (.ref b318)])) _
              refine XS.bipush X345.here hx rfl (hb hby d1_300) ?_
              show Steps p.tables e below (T345.setTop (mkF m 302 #[.val (.int p1), .val (.int p2), .val (.int p3), .val (.int p4), .unset] [(.int (101 : Int32)), (.int (8 : Int32)), (.ref b321), (.ref b321), (.ref b318), (.ref b318)])) _
              refine st348 _ ?_
              show Steps p.tables e below (T348.setTop (mkF m 303 #[.val (.int p1), .val (.int p2), .val (.int p3), .val (.int p4), .unset] [(.ref b321), (.ref b318), (.ref b318)])) _
              refine XS.dup X348.here hx rfl (hb hby d1_303) rfl rfl ?_
              show Steps p.tables e below (T348.setTop (mkF m 304 #[.val (.int p1), .val (.int p2), .val (.int p3), .val (.int p4), .unset] [(.ref b321), (.ref b321), (.ref b318), (.ref b318)])) _
              refine XS.bipush X348.here hx rfl (hb hby d1_304) ?_
              show Steps p.tables e below (T348.setTop (mkF m 306 #[.val (.int p1), .val (.int p2), .val (.int p3), .val (.int p4), .unset] [(.int (9 : Int32)), (.ref b321), (.ref b321), (.ref b318), (.ref b318)])) _
              refine XS.bipush X348.here hx rfl (hb hby d1_306) ?_
              show Steps p.tables e below (T348.setTop (mkF m 308 #[.val (.int p1), .val (.int p2), .val (.int p3), .val (.int p4), .unset] [(.int (69 : Int32)), (.int (9 : Int32)), (.ref b321), (.ref b321), (.ref b318), (.ref b318)])) _
              refine st351 _ ?_
              show Steps p.tables e below (T351.setTop (mkF m 309 #[.val (.int p1), .val (.int p2), .val (.int p3), .val (.int p4), .unset] [(.ref b321), (.ref b318), (.ref b318)])) _
              refine XS.dup X351.here hx rfl (hb hby d1_309) rfl rfl ?_
              show Steps p.tables e below (T351.setTop (mkF m 310 #[.val (.int p1), .val (.int p2), .val (.int p3), .val (.int p4), .unset] [(.ref b321), (.ref b321), (.ref b318), (.ref b318)])) _
              refine XS.bipush X351.here hx rfl (hb hby d1_310) ?_
              show Steps p.tables e below (T351.setTop (mkF m 312 #[.val (.int p1), .val (.int p2), .val (.int p3), .val (.int p4), .unset] [(.int (10 : Int32)), (.ref b321), (.ref b321), (.ref b318), (.ref b318)])) _
              refine XS.bipush X351.here hx rfl (hb hby d1_312) ?_
              show Steps p.tables e below (T351.setTop (mkF m 314 #[.val (.int p1), .val (.int p2), .val (.int p3), .val (.int p4), .unset] [(.int (109 : Int32)), (.int (10 : Int32)), (.ref b321), (.ref b321), (.ref b318), (.ref b318)])) _
              refine st354 _ ?_
              show Steps p.tables e below (T354.setTop (mkF m 315 #[.val (.int p1), .val (.int p2), .val (.int p3), .val (.int p4), .unset] [(.ref b321), (.ref b318), (.ref b318)])) _
              refine XS.dup X354.here hx rfl (hb hby d1_315) rfl rfl ?_
              show Steps p.tables e below (T354.setTop (mkF m 316 #[.val (.int p1), .val (.int p2), .val (.int p3), .val (.int p4), .unset] [(.ref b321), (.ref b321), (.ref b318), (.ref b318)])) _
              refine XS.bipush X354.here hx rfl (hb hby d1_316) ?_
              show Steps p.tables e below (T354.setTop (mkF m 318 #[.val (.int p1), .val (.int p2), .val (.int p3), .val (.int p4), .unset] [(.int (11 : Int32)), (.ref b321), (.ref b321), (.ref b318), (.ref b318)])) _
              refine XS.bipush X354.here hx rfl (hb hby d1_318) ?_
              show Steps p.tables e below (T354.setTop (mkF m 320 #[.val (.int p1), .val (.int p2), .val (.int p3), .val (.int p4), .unset] [(.int (97 : Int32)), (.int (11 : Int32)), (.ref b321), (.ref b321), (.ref b318), (.ref b318)])) _
              refine st357 _ ?_
              show Steps p.tables e below (T357.setTop (mkF m 321 #[.val (.int p1), .val (.int p2), .val (.int p3), .val (.int p4), .unset] [(.ref b321), (.ref b318), (.ref b318)])) _
              refine XS.dup X357.here hx rfl (hb hby d1_321) rfl rfl ?_
              show Steps p.tables e below (T357.setTop (mkF m 322 #[.val (.int p1), .val (.int p2), .val (.int p3), .val (.int p4), .unset] [(.ref b321), (.ref b321), (.ref b318), (.ref b318)])) _
              refine XS.bipush X357.here hx rfl (hb hby d1_322) ?_
              show Steps p.tables e below (T357.setTop (mkF m 324 #[.val (.int p1), .val (.int p2), .val (.int p3), .val (.int p4), .unset] [(.int (12 : Int32)), (.ref b321), (.ref b321), (.ref b318), (.ref b318)])) _
              refine XS.bipush X357.here hx rfl (hb hby d1_324) ?_
              show Steps p.tables e below (T357.setTop (mkF m 326 #[.val (.int p1), .val (.int p2), .val (.int p3), .val (.int p4), .unset] [(.int (105 : Int32)), (.int (12 : Int32)), (.ref b321), (.ref b321), (.ref b318), (.ref b318)])) _
              refine st360 _ ?_
              show Steps p.tables e below (T360.setTop (mkF m 327 #[.val (.int p1), .val (.int p2), .val (.int p3), .val (.int p4), .unset] [(.ref b321), (.ref b318), (.ref b318)])) _
              refine XS.dup X360.here hx rfl (hb hby d1_327) rfl rfl ?_
              show Steps p.tables e below (T360.setTop (mkF m 328 #[.val (.int p1), .val (.int p2), .val (.int p3), .val (.int p4), .unset] [(.ref b321), (.ref b321), (.ref b318), (.ref b318)])) _
              refine XS.bipush X360.here hx rfl (hb hby d1_328) ?_
              show Steps p.tables e below (T360.setTop (mkF m 330 #[.val (.int p1), .val (.int p2), .val (.int p3), .val (.int p4), .unset] [(.int (13 : Int32)), (.ref b321), (.ref b321), (.ref b318), (.ref b318)])) _
              refine XS.bipush X360.here hx rfl (hb hby d1_330) ?_
              show Steps p.tables e below (T360.setTop (mkF m 332 #[.val (.int p1), .val (.int p2), .val (.int p3), .val (.int p4), .unset] [(.int (108 : Int32)), (.int (13 : Int32)), (.ref b321), (.ref b321), (.ref b318), (.ref b318)])) _
              refine st363 _ ?_
              show Steps p.tables e below (T363.setTop (mkF m 333 #[.val (.int p1), .val (.int p2), .val (.int p3), .val (.int p4), .unset] [(.ref b321), (.ref b318), (.ref b318)])) _
              refine XS.dup X363.here hx rfl (hb hby d1_333) rfl rfl ?_
              show Steps p.tables e below (T363.setTop (mkF m 334 #[.val (.int p1), .val (.int p2), .val (.int p3), .val (.int p4), .unset] [(.ref b321), (.ref b321), (.ref b318), (.ref b318)])) _
              refine XS.bipush X363.here hx rfl (hb hby d1_334) ?_
              show Steps p.tables e below (T363.setTop (mkF m 336 #[.val (.int p1), .val (.int p2), .val (.int p3), .val (.int p4), .unset] [(.int (14 : Int32)), (.ref b321), (.ref b321), (.ref b318), (.ref b318)])) _
              refine XS.iloadN X363.here hx rfl (hb hby d1_336) rfl ?_
              show Steps p.tables e below (T363.setTop (mkF m 337 #[.val (.int p1), .val (.int p2), .val (.int p3), .val (.int p4), .unset] [(.int p4), (.int (14 : Int32)), (.ref b321), (.ref b321), (.ref b318), (.ref b318)])) _
              refine st366 _ ?_
              exact k
            obtain ⟨lq369, X369, N369⟩ : ∃ lq, Stand p l e ({ frames := 5, cells := 3, slots := 64, locals := 90 } : Room) (s.setVm s.vm) m #[(.int p1), (.int p2), (.int p3), (.int p4)] below meth c T366 lq 2 19 ∧ Fr n0 lq := ⟨_, X366, N366⟩
            obtain ⟨_, _, ⟨T370, L370, k370, n370⟩, -, X370, ⟨Lc370, hQ370, l370, y370, z370⟩, st370⟩ := X369.specialBack hx (y := (⟨"java/lang/String", "<init>", "([C)V"⟩ : MethodName)) rfl hown (mvT hZ (hw _ (List.mem_of_getElem? (i := 11) rfl))) (mvT hZ (hw _ (List.mem_of_getElem? (i := 12) rfl))) (mvT hZ (hw _ (List.mem_of_getElem? (i := 13) rfl))) (by decide) (StrChars.Road.backV (W := 1) hZ hws (kI := 4) (hw _ (List.mem_of_getElem? (i := 5) rfl)) (cs := ([nar .char (67 : Int32), nar .char (104 : Int32), nar .char (97 : Int32), nar .char (108 : Int32), nar .char (108 : Int32), nar .char (101 : Int32), nar .char (110 : Int32), nar .char (103 : Int32), nar .char (101 : Int32), nar .char (69 : Int32), nar .char (109 : Int32), nar .char (97 : Int32), nar .char (105 : Int32), nar .char (108 : Int32), nar .char p4] : List Int32)) (bs := (([nar .char (67 : Int32), nar .char (104 : Int32), nar .char (97 : Int32), nar .char (108 : Int32), nar .char (108 : Int32), nar .char (101 : Int32), nar .char (110 : Int32), nar .char (103 : Int32), nar .char (101 : Int32), nar .char (69 : Int32), nar .char (109 : Int32), nar .char (97 : Int32), nar .char (105 : Int32), nar .char (108 : Int32), nar .char p4] : List Int32)).map (fun c => c.toInt8.toInt32)) (n := 15) g_b318 Zs367 E_b318_366 F_b318_value_366 F_b318_coder_366 V366_b321 S_java_lang_String_COMPACT_STRINGS_366 P5 rfl rfl (by decide) (by decide) hp rfl (by decide) (by decide)) (g := (mkF m 338 #[.val (.int p1), .val (.int p2), .val (.int p3), .val (.int p4), .unset] [(.ref b321), (.ref b318), (.ref b318)])) rfl (by rw [hml]; rfl) (Steps.refl _) (a := b318) (argsL := [(.ref b321)]) (rest := [(.ref b318)]) (lenOf pd_5 rfl) rfl (by show 2 * 0 + _ ≤ _; exact Nat.le_of_eq rfl) (hb hby d1_338) (fun _ _ => ⟨rfl, e366, (by decide : 2 + 1 ≤ _), (by decide : 19 + 15 ≤ _)⟩)
            dsimp only [Pt.U, Pt.locs, Pt.cells, Pt.slots] at X370 l370 y370 z370 st370 hQ370
            subst l370 y370 z370
            obtain ⟨rfl, N370q, K370q, E370q, Fc370q, ta370, kb370, u1370, u2370, u3370, Fv370q, Vv370q⟩ := hQ370
            have N370 := Fr.app N369 N370q
            have E_b318_370 := E_b318_366.keep K370q
            have Zs371 := Nat.le_trans Zs367 K370q.1
            have hk372 := Nat.le_trans hk368 K370q.1
            have Kk370 := Kk366.trans K370q (allS (Or.inr sz_b318) all0)
            obtain ⟨fs, hr, hrun, hended, hEnd⟩ := Stand.leaveW (s := s) (vm₁ := s.vm) X370 hS0 (by exact hk372) (v := some (.ref b318)) (fun h => by rw [Bd.returns] at h; cases h)
            refine ⟨_, _, pre33 _ ?_, hrun, hended, _, _, rfl, ?_, ?_, hEnd.1, hEnd.2.1, hEnd.2.2.1, hEnd.2.2.2.mono (by decide) (by decide)⟩
            · show Steps p.tables e below (T366.setTop (mkF m 338 #[.val (.int p1), .val (.int p2), .val (.int p3), .val (.int p4), .unset] [(.ref b321), (.ref b318), (.ref b318)])) _
              refine st370.trans ?_
              show Steps p.tables e below (T370.setTop (mkF m 341 #[.val (.int p1), .val (.int p2), .val (.int p3), .val (.int p4), .unset] [(.ref b318)])) _
              exact retOut X370 hx Bd.returns rfl (Or.inr (Or.inr (Or.inr (Or.inr ⟨rfl, rfl, rfl⟩)))) (hb hby d1_341) hr
            · show Q1 Z p1 p2 p3 p4 G1 h0 n0 _ T370.heap _
              exact ⟨_, ([nar .char (67 : Int32), nar .char (104 : Int32), nar .char (97 : Int32), nar .char (108 : Int32), nar .char (108 : Int32), nar .char (101 : Int32), nar .char (110 : Int32), nar .char (103 : Int32), nar .char (101 : Int32), nar .char (69 : Int32), nar .char (109 : Int32), nar .char (97 : Int32), nar .char (105 : Int32), nar .char (108 : Int32), nar .char p4] : List Int32), rfl, N370, Kk370, ta370, kb370, 15, E370q, Fv370q, Fc370q, Vv370q, hp, rfl, by decide⟩
            · show CHr Z consts_1 s.vm s.heap T370.vm T370.heap
              rw [hh]
              exact CHr.trans (CHr.keep Kk370 sf0 HC) (CHv.at (s := s) (vm0 := s.vm) X370 hZ hEL (CHv.keep Kk370 sf0 HC))
          · skip
            have pre34 : ∀ t, Steps p.tables e below (s₁.setTop (mkF m 449 #[.val (.int p1), .val (.int p2), .val (.int p3), .val (.int p4), .unset] [])) t → Steps p.tables e below (s₁.setTop (entryFrame m #[(.int p1), (.int p2), (.int p3), (.int p4)] 5)) t := by
              intro t k
              refine pre31 t ?_
              show Steps p.tables e below (s₁.setTop (mkF m 238 #[.val (.int p1), .val (.int p2), .val (.int p3), .val (.int p4), .unset] [])) _
              refine XS.iloadN X0.here hx rfl (hb hby d1_238) rfl ?_
              show Steps p.tables e below (s₁.setTop (mkF m 239 #[.val (.int p1), .val (.int p2), .val (.int p3), .val (.int p4), .unset] [(.int p2)])) _
              refine XS.iconst X0.here hx rfl (hb hby d1_239) ?_
              show Steps p.tables e below (s₁.setTop (mkF m 240 #[.val (.int p1), .val (.int p2), .val (.int p3), .val (.int p4), .unset] [(.int (3 : Int32)), (.int p2)])) _
              refine XS.icmpYes X0.here hx rfl (pc0 := 240) (pc' := 449) rfl (hb hby d1_240) rfl (feq k3).2 (by decide) (by decide) ?_
              exact k
            by_cases k4 : p2 = 4
            · skip
              have hp : ∀ c ∈ ([nar .char p4, nar .char (67 : Int32), nar .char (104 : Int32), nar .char (97 : Int32), nar .char (108 : Int32), nar .char (108 : Int32), nar .char (101 : Int32), nar .char (110 : Int32), nar .char (103 : Int32), nar .char (101 : Int32), nar .char (69 : Int32), nar .char (109 : Int32), nar .char (97 : Int32), nar .char (105 : Int32), nar .char (108 : Int32)] : List Int32), ¬ c < 0 ∧ ¬ (255 : Int32) < c := (own_cc hcb (own_cc (by decide +kernel) (own_cc (by decide +kernel) (own_cc (by decide +kernel) (own_cc (by decide +kernel) (own_cc (by decide +kernel) (own_cc (by decide +kernel) (own_cc (by decide +kernel) (own_cc (by decide +kernel) (own_cc (by decide +kernel) (own_cc (by decide +kernel) (own_cc (by decide +kernel) (own_cc (by decide +kernel) (own_cc (by decide +kernel) (own_cc (by decide +kernel) own_cn)))))))))))))))
              have pre35 : ∀ t, Steps p.tables e below (s₁.setTop (mkF m 458 #[.val (.int p1), .val (.int p2), .val (.int p3), .val (.int p4), .unset] [])) t → Steps p.tables e below (s₁.setTop (entryFrame m #[(.int p1), (.int p2), (.int p3), (.int p4)] 5)) t := by
                intro t k
                refine pre34 t ?_
                show Steps p.tables e below (s₁.setTop (mkF m 449 #[.val (.int p1), .val (.int p2), .val (.int p3), .val (.int p4), .unset] [])) _
                refine XS.iloadN X0.here hx rfl (hb hby d1_449) rfl ?_
                show Steps p.tables e below (s₁.setTop (mkF m 450 #[.val (.int p1), .val (.int p2), .val (.int p3), .val (.int p4), .unset] [(.int p2)])) _
                refine XS.iconst X0.here hx rfl (hb hby d1_450) ?_
                show Steps p.tables e below (s₁.setTop (mkF m 451 #[.val (.int p1), .val (.int p2), .val (.int p3), .val (.int p4), .unset] [(.int (4 : Int32)), (.int p2)])) _
                refine XS.icmpNo X0.here hx rfl (hb hby d1_451) rfl (teq k4).2 ?_
                show Steps p.tables e below (s₁.setTop (mkF m 454 #[.val (.int p1), .val (.int p2), .val (.int p3), .val (.int p4), .unset] [])) _
                refine XS.iloadN X0.here hx rfl (hb hby d1_454) rfl ?_
                show Steps p.tables e below (s₁.setTop (mkF m 455 #[.val (.int p1), .val (.int p2), .val (.int p3), .val (.int p4), .unset] [(.int p1)])) _
                refine XS.ifNo X0.here hx rfl (hb hby d1_455) rfl ((if0 _ _).trans (feq ce).1) ?_
                exact k
              obtain ⟨T373, h373, X373, e373, E373, A373, D373, -, st373⟩ := newO X0 hx hZ hown (hw _ (List.mem_of_getElem? (i := 4) rfl)) (hw _ (List.mem_of_getElem? (i := 5) rfl)) (hw _ (List.mem_of_getElem? (i := 6) rfl)) e0 (g := (mkF m 458 #[.val (.int p1), .val (.int p2), .val (.int p3), .val (.int p4), .unset] [])) rfl (hb hby d1_458) (by decide) (by decide)
              obtain ⟨b373, g373⟩ : ∃ z, z = h0.size := ⟨_, rfl⟩
              rw [← g373] at A373 D373 st373
              have g_b373 : n0 ≤ b373 := Nat.le_trans Z0 (Nat.le_of_eq g373.symm)
              have sz_b373 := Nat.le_trans KK0.1 (Nat.le_of_eq g373.symm)
              have S_java_lang_String_COMPACT_STRINGS_373 := S1.ext E373
              have Zs374 := Nat.le_trans Z0 E373.1
              have hk375 := Nat.le_trans hk0 E373.1
              have Kk373 := KK0.ext E373
              have F_coder_b373 : Fld Z h373 b373 "java/lang/String" "coder" "B" (.int (0 : Int32)) := D373 (Or.inr (hw _ (List.mem_of_getElem? (i := 34) rfl))) (ty := .byte) (by decide)
              have F_value_b373 : Fld Z h373 b373 "java/lang/String" "value" "[B" .null := D373 (Or.inr (hw _ (List.mem_of_getElem? (i := 36) rfl))) (ty := (.array .byte)) (by decide)
              obtain ⟨T376, h376, k376, X376, e376, E376, A376, st376⟩ := newP X373 hx hZ (hw _ (List.mem_of_getElem? (i := 10) rfl)) e373 (g := (mkF m 464 #[.val (.int p1), .val (.int p2), .val (.int p3), .val (.int p4), .unset] [(.int (15 : Int32)), (.ref b373), (.ref b373)])) rfl (hb hby d1_464) rfl (by decide) (cap := 15) (by decide) (by decide) (by decide) (by decide)
              obtain ⟨b376, g376⟩ : ∃ z, z = h373.size := ⟨_, rfl⟩
              rw [← g376] at A376 st376
              have ne_b373_b376 : b373 ≠ b376 := Nat.ne_of_lt (Nat.lt_of_lt_of_le F_coder_b373.lt (Nat.le_of_eq g376.symm))
              have g_b376 : n0 ≤ b376 := Nat.le_trans Zs374 (Nat.le_of_eq g376.symm)
              have sz_b376 := Nat.le_trans Kk373.1 (Nat.le_of_eq g376.symm)
              have S_java_lang_String_COMPACT_STRINGS_376 := S_java_lang_String_COMPACT_STRINGS_373.ext E376
              have F_b373_coder_376 := F_coder_b373.ext E376
              have F_b373_value_376 := F_value_b373.ext E376
              have E_b373_376 := A373.ext E376
              have Zs377 := Nat.le_trans Zs374 E376.1
              have hk378 := Nat.le_trans hk375 E376.1
              have Kk376 := Kk373.ext E376
              have V_b376 : Arv Z h376 b376 k376 .char (15 : Int32) [(.int (0 : Int32)), (.int (0 : Int32)), (.int (0 : Int32)), (.int (0 : Int32)), (.int (0 : Int32)), (.int (0 : Int32)), (.int (0 : Int32)), (.int (0 : Int32)), (.int (0 : Int32)), (.int (0 : Int32)), (.int (0 : Int32)), (.int (0 : Int32)), (.int (0 : Int32)), (.int (0 : Int32)), (.int (0 : Int32))] (.int (0 : Int32)) := (Arv.new A376 (by decide)).pad (pad_rep [] (.int (0 : Int32)) 15)
              obtain ⟨cl379, Ar379, q379, S379, N379m, H379, G379⟩ := id V_b376
              have hin379 : ¬ ((0 : Int32) < 0 ∨ cl379.slots.size ≤ ((0 : Int32)).toNatClampNeg) := inb_of S379 ⟨by decide, by decide⟩
              obtain ⟨T379, h379, X379, e379, W379, st379⟩ := stC X376 hx hZ e376 Ar379 (j := (0 : Int32)) hin379 (g := (mkF m 469 #[.val (.int p1), .val (.int p2), .val (.int p3), .val (.int p4), .unset] [(.int p4), (.int (0 : Int32)), (.ref b376), (.ref b376), (.ref b373), (.ref b373)])) rfl rfl (hb hby d1_469)
              have V379_b376 : Arv Z h379 b376 k376 .char (15 : Int32) [(.int (nar .char p4)), (.int (0 : Int32)), (.int (0 : Int32)), (.int (0 : Int32)), (.int (0 : Int32)), (.int (0 : Int32)), (.int (0 : Int32)), (.int (0 : Int32)), (.int (0 : Int32)), (.int (0 : Int32)), (.int (0 : Int32)), (.int (0 : Int32)), (.int (0 : Int32)), (.int (0 : Int32)), (.int (0 : Int32))] (.int (0 : Int32)) := Arv.set Ar379 q379 S379 N379m H379 G379 (fits_nar_char _) W379 0 rfl (Nat.le_of_ble_eq_true rfl)
              have S_java_lang_String_COMPACT_STRINGS_379 := S_java_lang_String_COMPACT_STRINGS_376.wr W379
              have F_b373_coder_379 := F_b373_coder_376.other W379 (Or.inl ne_b373_b376)
              have F_b373_value_379 := F_b373_value_376.other W379 (Or.inl ne_b373_b376)
              have E_b373_379 := E_b373_376.wr W379
              have Zs380 := Nat.le_trans Zs377 (Keep.of_wr W379).1
              have hk381 := Nat.le_trans hk378 (Keep.of_wr W379).1
              have Kk379 := Kk376.wr W379 (Or.inr sz_b376)
              have N379 := Fr.snoc X379 N0 g_b376
              obtain ⟨cl382, Ar382, q382, S382, N382m, H382, G382⟩ := id V379_b376
              have hin382 : ¬ ((1 : Int32) < 0 ∨ cl382.slots.size ≤ ((1 : Int32)).toNatClampNeg) := inb_of S382 ⟨by decide, by decide⟩
              obtain ⟨T382, h382, X382, e382, W382, st382⟩ := stC X379 hx hZ e379 Ar382 (j := (1 : Int32)) hin382 (g := (mkF m 474 #[.val (.int p1), .val (.int p2), .val (.int p3), .val (.int p4), .unset] [(.int (67 : Int32)), (.int (1 : Int32)), (.ref b376), (.ref b376), (.ref b373), (.ref b373)])) rfl rfl (hb hby d1_474)
              have V382_b376 : Arv Z h382 b376 k376 .char (15 : Int32) [(.int (nar .char p4)), (.int (nar .char (67 : Int32))), (.int (0 : Int32)), (.int (0 : Int32)), (.int (0 : Int32)), (.int (0 : Int32)), (.int (0 : Int32)), (.int (0 : Int32)), (.int (0 : Int32)), (.int (0 : Int32)), (.int (0 : Int32)), (.int (0 : Int32)), (.int (0 : Int32)), (.int (0 : Int32)), (.int (0 : Int32))] (.int (0 : Int32)) := Arv.set Ar382 q382 S382 N382m H382 G382 (fits_nar_char _) W382 1 rfl (Nat.le_of_ble_eq_true rfl)
              have S_java_lang_String_COMPACT_STRINGS_382 := S_java_lang_String_COMPACT_STRINGS_379.wr W382
              have F_b373_coder_382 := F_b373_coder_379.other W382 (Or.inl ne_b373_b376)
              have F_b373_value_382 := F_b373_value_379.other W382 (Or.inl ne_b373_b376)
              have E_b373_382 := E_b373_379.wr W382
              have Zs383 := Nat.le_trans Zs380 (Keep.of_wr W382).1
              have hk384 := Nat.le_trans hk381 (Keep.of_wr W382).1
              have Kk382 := Kk379.wr W382 (Or.inr sz_b376)
              have N382 := Fr.snoc X382 N379 g_b376
              obtain ⟨cl385, Ar385, q385, S385, N385m, H385, G385⟩ := id V382_b376
              have hin385 : ¬ ((2 : Int32) < 0 ∨ cl385.slots.size ≤ ((2 : Int32)).toNatClampNeg) := inb_of S385 ⟨by decide, by decide⟩
              obtain ⟨T385, h385, X385, e385, W385, st385⟩ := stC X382 hx hZ e382 Ar385 (j := (2 : Int32)) hin385 (g := (mkF m 479 #[.val (.int p1), .val (.int p2), .val (.int p3), .val (.int p4), .unset] [(.int (104 : Int32)), (.int (2 : Int32)), (.ref b376), (.ref b376), (.ref b373), (.ref b373)])) rfl rfl (hb hby d1_479)
              have V385_b376 : Arv Z h385 b376 k376 .char (15 : Int32) [(.int (nar .char p4)), (.int (nar .char (67 : Int32))), (.int (nar .char (104 : Int32))), (.int (0 : Int32)), (.int (0 : Int32)), (.int (0 : Int32)), (.int (0 : Int32)), (.int (0 : Int32)), (.int (0 : Int32)), (.int (0 : Int32)), (.int (0 : Int32)), (.int (0 : Int32)), (.int (0 : Int32)), (.int (0 : Int32)), (.int (0 : Int32))] (.int (0 : Int32)) := Arv.set Ar385 q385 S385 N385m H385 G385 (fits_nar_char _) W385 2 rfl (Nat.le_of_ble_eq_true rfl)
              have S_java_lang_String_COMPACT_STRINGS_385 := S_java_lang_String_COMPACT_STRINGS_382.wr W385
              have F_b373_coder_385 := F_b373_coder_382.other W385 (Or.inl ne_b373_b376)
              have F_b373_value_385 := F_b373_value_382.other W385 (Or.inl ne_b373_b376)
              have E_b373_385 := E_b373_382.wr W385
              have Zs386 := Nat.le_trans Zs383 (Keep.of_wr W385).1
              have hk387 := Nat.le_trans hk384 (Keep.of_wr W385).1
              have Kk385 := Kk382.wr W385 (Or.inr sz_b376)
              have N385 := Fr.snoc X385 N382 g_b376
              obtain ⟨cl388, Ar388, q388, S388, N388m, H388, G388⟩ := id V385_b376
              have hin388 : ¬ ((3 : Int32) < 0 ∨ cl388.slots.size ≤ ((3 : Int32)).toNatClampNeg) := inb_of S388 ⟨by decide, by decide⟩
              obtain ⟨T388, h388, X388, e388, W388, st388⟩ := stC X385 hx hZ e385 Ar388 (j := (3 : Int32)) hin388 (g := (mkF m 484 #[.val (.int p1), .val (.int p2), .val (.int p3), .val (.int p4), .unset] [(.int (97 : Int32)), (.int (3 : Int32)), (.ref b376), (.ref b376), (.ref b373), (.ref b373)])) rfl rfl (hb hby d1_484)
              have V388_b376 : Arv Z h388 b376 k376 .char (15 : Int32) [(.int (nar .char p4)), (.int (nar .char (67 : Int32))), (.int (nar .char (104 : Int32))), (.int (nar .char (97 : Int32))), (.int (0 : Int32)), (.int (0 : Int32)), (.int (0 : Int32)), (.int (0 : Int32)), (.int (0 : Int32)), (.int (0 : Int32)), (.int (0 : Int32)), (.int (0 : Int32)), (.int (0 : Int32)), (.int (0 : Int32)), (.int (0 : Int32))] (.int (0 : Int32)) := Arv.set Ar388 q388 S388 N388m H388 G388 (fits_nar_char _) W388 3 rfl (Nat.le_of_ble_eq_true rfl)
              have S_java_lang_String_COMPACT_STRINGS_388 := S_java_lang_String_COMPACT_STRINGS_385.wr W388
              have F_b373_coder_388 := F_b373_coder_385.other W388 (Or.inl ne_b373_b376)
              have F_b373_value_388 := F_b373_value_385.other W388 (Or.inl ne_b373_b376)
              have E_b373_388 := E_b373_385.wr W388
              have Zs389 := Nat.le_trans Zs386 (Keep.of_wr W388).1
              have hk390 := Nat.le_trans hk387 (Keep.of_wr W388).1
              have Kk388 := Kk385.wr W388 (Or.inr sz_b376)
              have N388 := Fr.snoc X388 N385 g_b376
              obtain ⟨cl391, Ar391, q391, S391, N391m, H391, G391⟩ := id V388_b376
              have hin391 : ¬ ((4 : Int32) < 0 ∨ cl391.slots.size ≤ ((4 : Int32)).toNatClampNeg) := inb_of S391 ⟨by decide, by decide⟩
              obtain ⟨T391, h391, X391, e391, W391, st391⟩ := stC X388 hx hZ e388 Ar391 (j := (4 : Int32)) hin391 (g := (mkF m 489 #[.val (.int p1), .val (.int p2), .val (.int p3), .val (.int p4), .unset] [(.int (108 : Int32)), (.int (4 : Int32)), (.ref b376), (.ref b376), (.ref b373), (.ref b373)])) rfl rfl (hb hby d1_489)
              have V391_b376 : Arv Z h391 b376 k376 .char (15 : Int32) [(.int (nar .char p4)), (.int (nar .char (67 : Int32))), (.int (nar .char (104 : Int32))), (.int (nar .char (97 : Int32))), (.int (nar .char (108 : Int32))), (.int (0 : Int32)), (.int (0 : Int32)), (.int (0 : Int32)), (.int (0 : Int32)), (.int (0 : Int32)), (.int (0 : Int32)), (.int (0 : Int32)), (.int (0 : Int32)), (.int (0 : Int32)), (.int (0 : Int32))] (.int (0 : Int32)) := Arv.set Ar391 q391 S391 N391m H391 G391 (fits_nar_char _) W391 4 rfl (Nat.le_of_ble_eq_true rfl)
              have S_java_lang_String_COMPACT_STRINGS_391 := S_java_lang_String_COMPACT_STRINGS_388.wr W391
              have F_b373_coder_391 := F_b373_coder_388.other W391 (Or.inl ne_b373_b376)
              have F_b373_value_391 := F_b373_value_388.other W391 (Or.inl ne_b373_b376)
              have E_b373_391 := E_b373_388.wr W391
              have Zs392 := Nat.le_trans Zs389 (Keep.of_wr W391).1
              have hk393 := Nat.le_trans hk390 (Keep.of_wr W391).1
              have Kk391 := Kk388.wr W391 (Or.inr sz_b376)
              have N391 := Fr.snoc X391 N388 g_b376
              obtain ⟨cl394, Ar394, q394, S394, N394m, H394, G394⟩ := id V391_b376
              have hin394 : ¬ ((5 : Int32) < 0 ∨ cl394.slots.size ≤ ((5 : Int32)).toNatClampNeg) := inb_of S394 ⟨by decide, by decide⟩
              obtain ⟨T394, h394, X394, e394, W394, st394⟩ := stC X391 hx hZ e391 Ar394 (j := (5 : Int32)) hin394 (g := (mkF m 494 #[.val (.int p1), .val (.int p2), .val (.int p3), .val (.int p4), .unset] [(.int (108 : Int32)), (.int (5 : Int32)), (.ref b376), (.ref b376), (.ref b373), (.ref b373)])) rfl rfl (hb hby d1_494)
              have V394_b376 : Arv Z h394 b376 k376 .char (15 : Int32) [(.int (nar .char p4)), (.int (nar .char (67 : Int32))), (.int (nar .char (104 : Int32))), (.int (nar .char (97 : Int32))), (.int (nar .char (108 : Int32))), (.int (nar .char (108 : Int32))), (.int (0 : Int32)), (.int (0 : Int32)), (.int (0 : Int32)), (.int (0 : Int32)), (.int (0 : Int32)), (.int (0 : Int32)), (.int (0 : Int32)), (.int (0 : Int32)), (.int (0 : Int32))] (.int (0 : Int32)) := Arv.set Ar394 q394 S394 N394m H394 G394 (fits_nar_char _) W394 5 rfl (Nat.le_of_ble_eq_true rfl)
              have S_java_lang_String_COMPACT_STRINGS_394 := S_java_lang_String_COMPACT_STRINGS_391.wr W394
              have F_b373_coder_394 := F_b373_coder_391.other W394 (Or.inl ne_b373_b376)
              have F_b373_value_394 := F_b373_value_391.other W394 (Or.inl ne_b373_b376)
              have E_b373_394 := E_b373_391.wr W394
              have Zs395 := Nat.le_trans Zs392 (Keep.of_wr W394).1
              have hk396 := Nat.le_trans hk393 (Keep.of_wr W394).1
              have Kk394 := Kk391.wr W394 (Or.inr sz_b376)
              have N394 := Fr.snoc X394 N391 g_b376
              obtain ⟨cl397, Ar397, q397, S397, N397m, H397, G397⟩ := id V394_b376
              have hin397 : ¬ ((6 : Int32) < 0 ∨ cl397.slots.size ≤ ((6 : Int32)).toNatClampNeg) := inb_of S397 ⟨by decide, by decide⟩
              obtain ⟨T397, h397, X397, e397, W397, st397⟩ := stC X394 hx hZ e394 Ar397 (j := (6 : Int32)) hin397 (g := (mkF m 500 #[.val (.int p1), .val (.int p2), .val (.int p3), .val (.int p4), .unset] [(.int (101 : Int32)), (.int (6 : Int32)), (.ref b376), (.ref b376), (.ref b373), (.ref b373)])) rfl rfl (hb hby d1_500)
              have V397_b376 : Arv Z h397 b376 k376 .char (15 : Int32) [(.int (nar .char p4)), (.int (nar .char (67 : Int32))), (.int (nar .char (104 : Int32))), (.int (nar .char (97 : Int32))), (.int (nar .char (108 : Int32))), (.int (nar .char (108 : Int32))), (.int (nar .char (101 : Int32))), (.int (0 : Int32)), (.int (0 : Int32)), (.int (0 : Int32)), (.int (0 : Int32)), (.int (0 : Int32)), (.int (0 : Int32)), (.int (0 : Int32)), (.int (0 : Int32))] (.int (0 : Int32)) := Arv.set Ar397 q397 S397 N397m H397 G397 (fits_nar_char _) W397 6 rfl (Nat.le_of_ble_eq_true rfl)
              have S_java_lang_String_COMPACT_STRINGS_397 := S_java_lang_String_COMPACT_STRINGS_394.wr W397
              have F_b373_coder_397 := F_b373_coder_394.other W397 (Or.inl ne_b373_b376)
              have F_b373_value_397 := F_b373_value_394.other W397 (Or.inl ne_b373_b376)
              have E_b373_397 := E_b373_394.wr W397
              have Zs398 := Nat.le_trans Zs395 (Keep.of_wr W397).1
              have hk399 := Nat.le_trans hk396 (Keep.of_wr W397).1
              have Kk397 := Kk394.wr W397 (Or.inr sz_b376)
              have N397 := Fr.snoc X397 N394 g_b376
              obtain ⟨cl400, Ar400, q400, S400, N400m, H400, G400⟩ := id V397_b376
              have hin400 : ¬ ((7 : Int32) < 0 ∨ cl400.slots.size ≤ ((7 : Int32)).toNatClampNeg) := inb_of S400 ⟨by decide, by decide⟩
              obtain ⟨T400, h400, X400, e400, W400, st400⟩ := stC X397 hx hZ e397 Ar400 (j := (7 : Int32)) hin400 (g := (mkF m 506 #[.val (.int p1), .val (.int p2), .val (.int p3), .val (.int p4), .unset] [(.int (110 : Int32)), (.int (7 : Int32)), (.ref b376), (.ref b376), (.ref b373), (.ref b373)])) rfl rfl (hb hby d1_506)
              have V400_b376 : Arv Z h400 b376 k376 .char (15 : Int32) [(.int (nar .char p4)), (.int (nar .char (67 : Int32))), (.int (nar .char (104 : Int32))), (.int (nar .char (97 : Int32))), (.int (nar .char (108 : Int32))), (.int (nar .char (108 : Int32))), (.int (nar .char (101 : Int32))), (.int (nar .char (110 : Int32))), (.int (0 : Int32)), (.int (0 : Int32)), (.int (0 : Int32)), (.int (0 : Int32)), (.int (0 : Int32)), (.int (0 : Int32)), (.int (0 : Int32))] (.int (0 : Int32)) := Arv.set Ar400 q400 S400 N400m H400 G400 (fits_nar_char _) W400 7 rfl (Nat.le_of_ble_eq_true rfl)
              have S_java_lang_String_COMPACT_STRINGS_400 := S_java_lang_String_COMPACT_STRINGS_397.wr W400
              have F_b373_coder_400 := F_b373_coder_397.other W400 (Or.inl ne_b373_b376)
              have F_b373_value_400 := F_b373_value_397.other W400 (Or.inl ne_b373_b376)
              have E_b373_400 := E_b373_397.wr W400
              have Zs401 := Nat.le_trans Zs398 (Keep.of_wr W400).1
              have hk402 := Nat.le_trans hk399 (Keep.of_wr W400).1
              have Kk400 := Kk397.wr W400 (Or.inr sz_b376)
              have N400 := Fr.snoc X400 N397 g_b376
              obtain ⟨cl403, Ar403, q403, S403, N403m, H403, G403⟩ := id V400_b376
              have hin403 : ¬ ((8 : Int32) < 0 ∨ cl403.slots.size ≤ ((8 : Int32)).toNatClampNeg) := inb_of S403 ⟨by decide, by decide⟩
              obtain ⟨T403, h403, X403, e403, W403, st403⟩ := stC X400 hx hZ e400 Ar403 (j := (8 : Int32)) hin403 (g := (mkF m 512 #[.val (.int p1), .val (.int p2), .val (.int p3), .val (.int p4), .unset] [(.int (103 : Int32)), (.int (8 : Int32)), (.ref b376), (.ref b376), (.ref b373), (.ref b373)])) rfl rfl (hb hby d1_512)
              have V403_b376 : Arv Z h403 b376 k376 .char (15 : Int32) [(.int (nar .char p4)), (.int (nar .char (67 : Int32))), (.int (nar .char (104 : Int32))), (.int (nar .char (97 : Int32))), (.int (nar .char (108 : Int32))), (.int (nar .char (108 : Int32))), (.int (nar .char (101 : Int32))), (.int (nar .char (110 : Int32))), (.int (nar .char (103 : Int32))), (.int (0 : Int32)), (.int (0 : Int32)), (.int (0 : Int32)), (.int (0 : Int32)), (.int (0 : Int32)), (.int (0 : Int32))] (.int (0 : Int32)) := Arv.set Ar403 q403 S403 N403m H403 G403 (fits_nar_char _) W403 8 rfl (Nat.le_of_ble_eq_true rfl)
              have S_java_lang_String_COMPACT_STRINGS_403 := S_java_lang_String_COMPACT_STRINGS_400.wr W403
              have F_b373_coder_403 := F_b373_coder_400.other W403 (Or.inl ne_b373_b376)
              have F_b373_value_403 := F_b373_value_400.other W403 (Or.inl ne_b373_b376)
              have E_b373_403 := E_b373_400.wr W403
              have Zs404 := Nat.le_trans Zs401 (Keep.of_wr W403).1
              have hk405 := Nat.le_trans hk402 (Keep.of_wr W403).1
              have Kk403 := Kk400.wr W403 (Or.inr sz_b376)
              have N403 := Fr.snoc X403 N400 g_b376
              obtain ⟨cl406, Ar406, q406, S406, N406m, H406, G406⟩ := id V403_b376
              have hin406 : ¬ ((9 : Int32) < 0 ∨ cl406.slots.size ≤ ((9 : Int32)).toNatClampNeg) := inb_of S406 ⟨by decide, by decide⟩
              obtain ⟨T406, h406, X406, e406, W406, st406⟩ := stC X403 hx hZ e403 Ar406 (j := (9 : Int32)) hin406 (g := (mkF m 518 #[.val (.int p1), .val (.int p2), .val (.int p3), .val (.int p4), .unset] [(.int (101 : Int32)), (.int (9 : Int32)), (.ref b376), (.ref b376), (.ref b373), (.ref b373)])) rfl rfl (hb hby d1_518)
              have V406_b376 : Arv Z h406 b376 k376 .char (15 : Int32) [(.int (nar .char p4)), (.int (nar .char (67 : Int32))), (.int (nar .char (104 : Int32))), (.int (nar .char (97 : Int32))), (.int (nar .char (108 : Int32))), (.int (nar .char (108 : Int32))), (.int (nar .char (101 : Int32))), (.int (nar .char (110 : Int32))), (.int (nar .char (103 : Int32))), (.int (nar .char (101 : Int32))), (.int (0 : Int32)), (.int (0 : Int32)), (.int (0 : Int32)), (.int (0 : Int32)), (.int (0 : Int32))] (.int (0 : Int32)) := Arv.set Ar406 q406 S406 N406m H406 G406 (fits_nar_char _) W406 9 rfl (Nat.le_of_ble_eq_true rfl)
              have S_java_lang_String_COMPACT_STRINGS_406 := S_java_lang_String_COMPACT_STRINGS_403.wr W406
              have F_b373_coder_406 := F_b373_coder_403.other W406 (Or.inl ne_b373_b376)
              have F_b373_value_406 := F_b373_value_403.other W406 (Or.inl ne_b373_b376)
              have E_b373_406 := E_b373_403.wr W406
              have Zs407 := Nat.le_trans Zs404 (Keep.of_wr W406).1
              have hk408 := Nat.le_trans hk405 (Keep.of_wr W406).1
              have Kk406 := Kk403.wr W406 (Or.inr sz_b376)
              have N406 := Fr.snoc X406 N403 g_b376
              obtain ⟨cl409, Ar409, q409, S409, N409m, H409, G409⟩ := id V406_b376
              have hin409 : ¬ ((10 : Int32) < 0 ∨ cl409.slots.size ≤ ((10 : Int32)).toNatClampNeg) := inb_of S409 ⟨by decide, by decide⟩
              obtain ⟨T409, h409, X409, e409, W409, st409⟩ := stC X406 hx hZ e406 Ar409 (j := (10 : Int32)) hin409 (g := (mkF m 524 #[.val (.int p1), .val (.int p2), .val (.int p3), .val (.int p4), .unset] [(.int (69 : Int32)), (.int (10 : Int32)), (.ref b376), (.ref b376), (.ref b373), (.ref b373)])) rfl rfl (hb hby d1_524)
              have V409_b376 : Arv Z h409 b376 k376 .char (15 : Int32) [(.int (nar .char p4)), (.int (nar .char (67 : Int32))), (.int (nar .char (104 : Int32))), (.int (nar .char (97 : Int32))), (.int (nar .char (108 : Int32))), (.int (nar .char (108 : Int32))), (.int (nar .char (101 : Int32))), (.int (nar .char (110 : Int32))), (.int (nar .char (103 : Int32))), (.int (nar .char (101 : Int32))), (.int (nar .char (69 : Int32))), (.int (0 : Int32)), (.int (0 : Int32)), (.int (0 : Int32)), (.int (0 : Int32))] (.int (0 : Int32)) := Arv.set Ar409 q409 S409 N409m H409 G409 (fits_nar_char _) W409 10 rfl (Nat.le_of_ble_eq_true rfl)
              have S_java_lang_String_COMPACT_STRINGS_409 := S_java_lang_String_COMPACT_STRINGS_406.wr W409
              have F_b373_coder_409 := F_b373_coder_406.other W409 (Or.inl ne_b373_b376)
              have F_b373_value_409 := F_b373_value_406.other W409 (Or.inl ne_b373_b376)
              have E_b373_409 := E_b373_406.wr W409
              have Zs410 := Nat.le_trans Zs407 (Keep.of_wr W409).1
              have hk411 := Nat.le_trans hk408 (Keep.of_wr W409).1
              have Kk409 := Kk406.wr W409 (Or.inr sz_b376)
              have N409 := Fr.snoc X409 N406 g_b376
              obtain ⟨cl412, Ar412, q412, S412, N412m, H412, G412⟩ := id V409_b376
              have hin412 : ¬ ((11 : Int32) < 0 ∨ cl412.slots.size ≤ ((11 : Int32)).toNatClampNeg) := inb_of S412 ⟨by decide, by decide⟩
              obtain ⟨T412, h412, X412, e412, W412, st412⟩ := stC X409 hx hZ e409 Ar412 (j := (11 : Int32)) hin412 (g := (mkF m 530 #[.val (.int p1), .val (.int p2), .val (.int p3), .val (.int p4), .unset] [(.int (109 : Int32)), (.int (11 : Int32)), (.ref b376), (.ref b376), (.ref b373), (.ref b373)])) rfl rfl (hb hby d1_530)
              have V412_b376 : Arv Z h412 b376 k376 .char (15 : Int32) [(.int (nar .char p4)), (.int (nar .char (67 : Int32))), (.int (nar .char (104 : Int32))), (.int (nar .char (97 : Int32))), (.int (nar .char (108 : Int32))), (.int (nar .char (108 : Int32))), (.int (nar .char (101 : Int32))), (.int (nar .char (110 : Int32))), (.int (nar .char (103 : Int32))), (.int (nar .char (101 : Int32))), (.int (nar .char (69 : Int32))), (.int (nar .char (109 : Int32))), (.int (0 : Int32)), (.int (0 : Int32)), (.int (0 : Int32))] (.int (0 : Int32)) := Arv.set Ar412 q412 S412 N412m H412 G412 (fits_nar_char _) W412 11 rfl (Nat.le_of_ble_eq_true rfl)
              have S_java_lang_String_COMPACT_STRINGS_412 := S_java_lang_String_COMPACT_STRINGS_409.wr W412
              have F_b373_coder_412 := F_b373_coder_409.other W412 (Or.inl ne_b373_b376)
              have F_b373_value_412 := F_b373_value_409.other W412 (Or.inl ne_b373_b376)
              have E_b373_412 := E_b373_409.wr W412
              have Zs413 := Nat.le_trans Zs410 (Keep.of_wr W412).1
              have hk414 := Nat.le_trans hk411 (Keep.of_wr W412).1
              have Kk412 := Kk409.wr W412 (Or.inr sz_b376)
              have N412 := Fr.snoc X412 N409 g_b376
              obtain ⟨cl415, Ar415, q415, S415, N415m, H415, G415⟩ := id V412_b376
              have hin415 : ¬ ((12 : Int32) < 0 ∨ cl415.slots.size ≤ ((12 : Int32)).toNatClampNeg) := inb_of S415 ⟨by decide, by decide⟩
              obtain ⟨T415, h415, X415, e415, W415, st415⟩ := stC X412 hx hZ e412 Ar415 (j := (12 : Int32)) hin415 (g := (mkF m 536 #[.val (.int p1), .val (.int p2), .val (.int p3), .val (.int p4), .unset] [(.int (97 : Int32)), (.int (12 : Int32)), (.ref b376), (.ref b376), (.ref b373), (.ref b373)])) rfl rfl (hb hby d1_536)
              have V415_b376 : Arv Z h415 b376 k376 .char (15 : Int32) [(.int (nar .char p4)), (.int (nar .char (67 : Int32))), (.int (nar .char (104 : Int32))), (.int (nar .char (97 : Int32))), (.int (nar .char (108 : Int32))), (.int (nar .char (108 : Int32))), (.int (nar .char (101 : Int32))), (.int (nar .char (110 : Int32))), (.int (nar .char (103 : Int32))), (.int (nar .char (101 : Int32))), (.int (nar .char (69 : Int32))), (.int (nar .char (109 : Int32))), (.int (nar .char (97 : Int32))), (.int (0 : Int32)), (.int (0 : Int32))] (.int (0 : Int32)) := Arv.set Ar415 q415 S415 N415m H415 G415 (fits_nar_char _) W415 12 rfl (Nat.le_of_ble_eq_true rfl)
              have S_java_lang_String_COMPACT_STRINGS_415 := S_java_lang_String_COMPACT_STRINGS_412.wr W415
              have F_b373_coder_415 := F_b373_coder_412.other W415 (Or.inl ne_b373_b376)
              have F_b373_value_415 := F_b373_value_412.other W415 (Or.inl ne_b373_b376)
              have E_b373_415 := E_b373_412.wr W415
              have Zs416 := Nat.le_trans Zs413 (Keep.of_wr W415).1
              have hk417 := Nat.le_trans hk414 (Keep.of_wr W415).1
              have Kk415 := Kk412.wr W415 (Or.inr sz_b376)
              have N415 := Fr.snoc X415 N412 g_b376
              obtain ⟨cl418, Ar418, q418, S418, N418m, H418, G418⟩ := id V415_b376
              have hin418 : ¬ ((13 : Int32) < 0 ∨ cl418.slots.size ≤ ((13 : Int32)).toNatClampNeg) := inb_of S418 ⟨by decide, by decide⟩
              obtain ⟨T418, h418, X418, e418, W418, st418⟩ := stC X415 hx hZ e415 Ar418 (j := (13 : Int32)) hin418 (g := (mkF m 542 #[.val (.int p1), .val (.int p2), .val (.int p3), .val (.int p4), .unset] [(.int (105 : Int32)), (.int (13 : Int32)), (.ref b376), (.ref b376), (.ref b373), (.ref b373)])) rfl rfl (hb hby d1_542)
              have V418_b376 : Arv Z h418 b376 k376 .char (15 : Int32) [(.int (nar .char p4)), (.int (nar .char (67 : Int32))), (.int (nar .char (104 : Int32))), (.int (nar .char (97 : Int32))), (.int (nar .char (108 : Int32))), (.int (nar .char (108 : Int32))), (.int (nar .char (101 : Int32))), (.int (nar .char (110 : Int32))), (.int (nar .char (103 : Int32))), (.int (nar .char (101 : Int32))), (.int (nar .char (69 : Int32))), (.int (nar .char (109 : Int32))), (.int (nar .char (97 : Int32))), (.int (nar .char (105 : Int32))), (.int (0 : Int32))] (.int (0 : Int32)) := Arv.set Ar418 q418 S418 N418m H418 G418 (fits_nar_char _) W418 13 rfl (Nat.le_of_ble_eq_true rfl)
              have S_java_lang_String_COMPACT_STRINGS_418 := S_java_lang_String_COMPACT_STRINGS_415.wr W418
              have F_b373_coder_418 := F_b373_coder_415.other W418 (Or.inl ne_b373_b376)
              have F_b373_value_418 := F_b373_value_415.other W418 (Or.inl ne_b373_b376)
              have E_b373_418 := E_b373_415.wr W418
              have Zs419 := Nat.le_trans Zs416 (Keep.of_wr W418).1
              have hk420 := Nat.le_trans hk417 (Keep.of_wr W418).1
              have Kk418 := Kk415.wr W418 (Or.inr sz_b376)
              have N418 := Fr.snoc X418 N415 g_b376
              obtain ⟨cl421, Ar421, q421, S421, N421m, H421, G421⟩ := id V418_b376
              have hin421 : ¬ ((14 : Int32) < 0 ∨ cl421.slots.size ≤ ((14 : Int32)).toNatClampNeg) := inb_of S421 ⟨by decide, by decide⟩
              obtain ⟨T421, h421, X421, e421, W421, st421⟩ := stC X418 hx hZ e418 Ar421 (j := (14 : Int32)) hin421 (g := (mkF m 548 #[.val (.int p1), .val (.int p2), .val (.int p3), .val (.int p4), .unset] [(.int (108 : Int32)), (.int (14 : Int32)), (.ref b376), (.ref b376), (.ref b373), (.ref b373)])) rfl rfl (hb hby d1_548)
              have V421_b376 : Arv Z h421 b376 k376 .char (15 : Int32) [(.int (nar .char p4)), (.int (nar .char (67 : Int32))), (.int (nar .char (104 : Int32))), (.int (nar .char (97 : Int32))), (.int (nar .char (108 : Int32))), (.int (nar .char (108 : Int32))), (.int (nar .char (101 : Int32))), (.int (nar .char (110 : Int32))), (.int (nar .char (103 : Int32))), (.int (nar .char (101 : Int32))), (.int (nar .char (69 : Int32))), (.int (nar .char (109 : Int32))), (.int (nar .char (97 : Int32))), (.int (nar .char (105 : Int32))), (.int (nar .char (108 : Int32)))] (.int (0 : Int32)) := Arv.set Ar421 q421 S421 N421m H421 G421 (fits_nar_char _) W421 14 rfl (Nat.le_of_ble_eq_true rfl)
              have S_java_lang_String_COMPACT_STRINGS_421 := S_java_lang_String_COMPACT_STRINGS_418.wr W421
              have F_b373_coder_421 := F_b373_coder_418.other W421 (Or.inl ne_b373_b376)
              have F_b373_value_421 := F_b373_value_418.other W421 (Or.inl ne_b373_b376)
              have E_b373_421 := E_b373_418.wr W421
              have Zs422 := Nat.le_trans Zs419 (Keep.of_wr W421).1
              have hk423 := Nat.le_trans hk420 (Keep.of_wr W421).1
              have Kk421 := Kk418.wr W421 (Or.inr sz_b376)
              have N421 := Fr.snoc X421 N418 g_b376
              have pre36 : ∀ t, Steps p.tables e below (T421.setTop (mkF m 549 #[.val (.int p1), .val (.int p2), .val (.int p3), .val (.int p4), .unset] [(.ref b376), (.ref b373), (.ref b373)])) t → Steps p.tables e below (s₁.setTop (entryFrame m #[(.int p1), (.int p2), (.int p3), (.int p4)] 5)) t := by
                intro t k
                refine pre35 t ?_
                show Steps p.tables e below (s₁.setTop (mkF m 458 #[.val (.int p1), .val (.int p2), .val (.int p3), .val (.int p4), .unset] [])) _
                refine st373 _ ?_
                show Steps p.tables e below (T373.setTop (mkF m 461 #[.val (.int p1), .val (.int p2), .val (.int p3), .val (.int p4), .unset] [(.ref b373)])) _
                refine XS.dup X373.here hx rfl (hb hby d1_461) rfl rfl ?_
                show Steps p.tables e below (T373.setTop (mkF m 462 #[.val (.int p1), .val (.int p2), .val (.int p3), .val (.int p4), .unset] [(.ref b373), (.ref b373)])) _
                refine XS.bipush X373.here hx rfl (hb hby d1_462) ?_
                show Steps p.tables e below (T373.setTop (mkF m 464 #[.val (.int p1), .val (.int p2), .val (.int p3), .val (.int p4), .unset] [(.int (15 : Int32)), (.ref b373), (.ref b373)])) _
                refine st376 _ ?_
                show Steps p.tables e below (T376.setTop (mkF m 466 #[.val (.int p1), .val (.int p2), .val (.int p3), .val (.int p4), .unset] [(.ref b376), (.ref b373), (.ref b373)])) _
                refine XS.dup X376.here hx rfl (hb hby d1_466) rfl rfl ?_
                show Steps p.tables e below (T376.setTop (mkF m 467 #[.val (.int p1), .val (.int p2), .val (.int p3), .val (.int p4), .unset] [(.ref b376), (.ref b376), (.ref b373), (.ref b373)])) _
                refine XS.iconst X376.here hx rfl (hb hby d1_467) ?_
                show Steps p.tables e below (T376.setTop (mkF m 468 #[.val (.int p1), .val (.int p2), .val (.int p3), .val (.int p4), .unset] [(.int (0 : Int32)), (.ref b376), (.ref b376), (.ref b373), (.ref b373)])) _
                refine XS.iloadN X376.here hx rfl (hb hby d1_468) rfl ?_
                show Steps p.tables e below (T376.setTop (mkF m 469 #[.val (.int p1), .val (.int p2), .val (.int p3), .val (.int p4), .unset] [(.int p4), (.int (0 : Int32)), (.ref b376), (.ref b376), (.ref b373), (.ref b373)])) _
                refine st379 _ ?_
                show Steps p.tables e below (T379.setTop (mkF m 470 #[.val (.int p1), .val (.int p2), .val (.int p3), .val (.int p4), .unset] [(.ref b376), (.ref b373), (.ref b373)])) _
                refine XS.dup X379.here hx rfl (hb hby d1_470) rfl rfl ?_
                show Steps p.tables e below (T379.setTop (mkF m 471 #[.val (.int p1), .val (.int p2), .val (.int p3), .val (.int p4), .unset] [(.ref b376), (.ref b376), (.ref b373), (.ref b373)])) _
                refine XS.iconst X379.here hx rfl (hb hby d1_471) ?_
                show Steps p.tables e below (T379.setTop (mkF m 472 #[.val (.int p1), .val (.int p2), .val (.int p3), .val (.int p4), .unset] [(.int (1 : Int32)), (.ref b376), (.ref b376), (.ref b373), (.ref b373)])) _
                refine XS.bipush X379.here hx rfl (hb hby d1_472) ?_
                show Steps p.tables e below (T379.setTop (mkF m 474 #[.val (.int p1), .val (.int p2), .val (.int p3), .val (.int p4), .unset] [(.int (67 : Int32)), (.int (1 : Int32)), (.ref b376), (.ref b376), (.ref b373), (.ref b373)])) _
                refine st382 _ ?_
                show Steps p.tables e below (T382.setTop (mkF m 475 #[.val (.int p1), .val (.int p2), .val (.int p3), .val (.int p4), .unset] [(.ref b376), (.ref b373), (.ref b373)])) _
                refine XS.dup X382.here hx rfl (hb hby d1_475) rfl rfl ?_
                show Steps p.tables e below (T382.setTop (mkF m 476 #[.val (.int p1), .val (.int p2), .val (.int p3), .val (.int p4), .unset] [(.ref b376), (.ref b376), (.ref b373), (.ref b373)])) _
                refine XS.iconst X382.here hx rfl (hb hby d1_476) ?_
                show Steps p.tables e below (T382.setTop (mkF m 477 #[.val (.int p1), .val (.int p2), .val (.int p3), .val (.int p4), .unset] [(.int (2 : Int32)), (.ref b376), (.ref b376), (.ref b373), (.ref b373)])) _
                refine XS.bipush X382.here hx rfl (hb hby d1_477) ?_
                show Steps p.tables e below (T382.setTop (mkF m 479 #[.val (.int p1), .val (.int p2), .val (.int p3), .val (.int p4), .unset] [(.int (104 : Int32)), (.int (2 : Int32)), (.ref b376), (.ref b376), (.ref b373), (.ref b373)])) _
                refine st385 _ ?_
                show Steps p.tables e below (T385.setTop (mkF m 480 #[.val (.int p1), .val (.int p2), .val (.int p3), .val (.int p4), .unset] [(.ref b376), (.ref b373), (.ref b373)])) _
                refine XS.dup X385.here hx rfl (hb hby d1_480) rfl rfl ?_
                show Steps p.tables e below (T385.setTop (mkF m 481 #[.val (.int p1), .val (.int p2), .val (.int p3), .val (.int p4), .unset] [(.ref b376), (.ref b376), (.ref b373), (.ref b373)])) _
                refine XS.iconst X385.here hx rfl (hb hby d1_481) ?_
                show Steps p.tables e below (T385.setTop (mkF m 482 #[.val (.int p1), .val (.int p2), .val (.int p3), .val (.int p4), .unset] [(.int (3 : Int32)), (.ref b376), (.ref b376), (.ref b373), (.ref b373)])) _
                refine XS.bipush X385.here hx rfl (hb hby d1_482) ?_
                show Steps p.tables e below (T385.setTop (mkF m 484 #[.val (.int p1), .val (.int p2), .val (.int p3), .val (.int p4), .unset] [(.int (97 : Int32)), (.int (3 : Int32)), (.ref b376), (.ref b376), (.ref b373), (.ref b373)])) _
                refine st388 _ ?_
                show Steps p.tables e below (T388.setTop (mkF m 485 #[.val (.int p1), .val (.int p2), .val (.int p3), .val (.int p4), .unset] [(.ref b376), (.ref b373), (.ref b373)])) _
                refine XS.dup X388.here hx rfl (hb hby d1_485) rfl rfl ?_
                show Steps p.tables e below (T388.setTop (mkF m 486 #[.val (.int p1), .val (.int p2), .val (.int p3), .val (.int p4), .unset] [(.ref b376), (.ref b376), (.ref b373), (.ref b373)])) _
                refine XS.iconst X388.here hx rfl (hb hby d1_486) ?_
                show Steps p.tables e below (T388.setTop (mkF m 487 #[.val (.int p1), .val (.int p2), .val (.int p3), .val (.int p4), .unset] [(.int (4 : Int32)), (.ref b376), (.ref b376), (.ref b373), (.ref b373)])) _
                refine XS.bipush X388.here hx rfl (hb hby d1_487) ?_
                show Steps p.tables e below (T388.setTop (mkF m 489 #[.val (.int p1), .val (.int p2), .val (.int p3), .val (.int p4), .unset] [(.int (108 : Int32)), (.int (4 : Int32)), (.ref b376), (.ref b376), (.ref b373), (.ref b373)])) _
                refine st391 _ ?_
                show Steps p.tables e below (T391.setTop (mkF m 490 #[.val (.int p1), .val (.int p2), .val (.int p3), .val (.int p4), .unset] [(.ref b376), (.ref b373), (.ref b373)])) _
                refine XS.dup X391.here hx rfl (hb hby d1_490) rfl rfl ?_
                show Steps p.tables e below (T391.setTop (mkF m 491 #[.val (.int p1), .val (.int p2), .val (.int p3), .val (.int p4), .unset] [(.ref b376), (.ref b376), (.ref b373), (.ref b373)])) _
                refine XS.iconst X391.here hx rfl (hb hby d1_491) ?_
                show Steps p.tables e below (T391.setTop (mkF m 492 #[.val (.int p1), .val (.int p2), .val (.int p3), .val (.int p4), .unset] [(.int (5 : Int32)), (.ref b376), (.ref b376), (.ref b373), (.ref b373)])) _
                refine XS.bipush X391.here hx rfl (hb hby d1_492) ?_
                show Steps p.tables e below (T391.setTop (mkF m 494 #[.val (.int p1), .val (.int p2), .val (.int p3), .val (.int p4), .unset] [(.int (108 : Int32)), (.int (5 : Int32)), (.ref b376), (.ref b376), (.ref b373), (.ref b373)])) _
                refine st394 _ ?_
                show Steps p.tables e below (T394.setTop (mkF m 495 #[.val (.int p1), .val (.int p2), .val (.int p3), .val (.int p4), .unset] [(.ref b376), (.ref b373), (.ref b373)])) _
                refine XS.dup X394.here hx rfl (hb hby d1_495) rfl rfl ?_
                show Steps p.tables e below (T394.setTop (mkF m 496 #[.val (.int p1), .val (.int p2), .val (.int p3), .val (.int p4), .unset] [(.ref b376), (.ref b376), (.ref b373), (.ref b373)])) _
                refine XS.bipush X394.here hx rfl (hb hby d1_496) ?_
                show Steps p.tables e below (T394.setTop (mkF m 498 #[.val (.int p1), .val (.int p2), .val (.int p3), .val (.int p4), .unset] [(.int (6 : Int32)), (.ref b376), (.ref b376), (.ref b373), (.ref b373)])) _
                refine XS.bipush X394.here hx rfl (hb hby d1_498) ?_
                show Steps p.tables e below (T394.setTop (mkF m 500 #[.val (.int p1), .val (.int p2), .val (.int p3), .val (.int p4), .unset] [(.int (101 : Int32)), (.int (6 : Int32)), (.ref b376), (.ref b376), (.ref b373), (.ref b373)])) _
                refine st397 _ ?_
                show Steps p.tables e below (T397.setTop (mkF m 501 #[.val (.int p1), .val (.int p2), .val (.int p3), .val (.int p4), .unset] [(.ref b376), (.ref b373), (.ref b373)])) _
                refine XS.dup X397.here hx rfl (hb hby d1_501) rfl rfl ?_
                show Steps p.tables e below (T397.setTop (mkF m 502 #[.val (.int p1), .val (.int p2), .val (.int p3), .val (.int p4), .unset] [(.ref b376), (.ref b376), (.ref b373), (.ref b373)])) _
                refine XS.bipush X397.here hx rfl (hb hby d1_502) ?_
                show Steps p.tables e below (T397.setTop (mkF m 504 #[.val (.int p1), .val (.int p2), .val (.int p3), .val (.int p4), .unset] [(.int (7 : Int32)), (.ref b376), (.ref b376), (.ref b373), (.ref b373)])) _
                refine XS.bipush X397.here hx rfl (hb hby d1_504) ?_
                show Steps p.tables e below (T397.setTop (mkF m 506 #[.val (.int p1), .val (.int p2), .val (.int p3), .val (.int p4), .unset] [(.int (110 : Int32)), (.int (7 : Int32)), (.ref b376), (.ref b376), (.ref b373), (.ref b373)])) _
                refine st400 _ ?_
                show Steps p.tables e below (T400.setTop (mkF m 507 #[.val (.int p1), .val (.int p2), .val (.int p3), .val (.int p4), .unset] [(.ref b376), (.ref b373), (.ref b373)])) _
                refine XS.dup X400.here hx rfl (hb hby d1_507) rfl rfl ?_
                show Steps p.tables e below (T400.setTop (mkF m 508 #[.val (.int p1), .val (.int p2), .val (.int p3), .val (.int p4), .unset] [(.ref b376), (.ref b376), (.ref b373), (.ref b373)])) _
                refine XS.bipush X400.here hx rfl (hb hby d1_508) ?_
                show Steps p.tables e below (T400.setTop (mkF m 510 #[.val (.int p1), .val (.int p2), .val (.int p3), .val (.int p4), .unset] [(.int (8 : Int32)), (.ref b376), (.ref b376), (.ref b373), (.ref b373)])) _
                refine XS.bipush X400.here hx rfl (hb hby d1_510) ?_
                show Steps p.tables e below (T400.setTop (mkF m 512 #[.val (.int p1), .val (.int p2), .val (.int p3), .val (.int p4), .unset] [(.int (103 : Int32)), (.int (8 : Int32)), (.ref b376), (.ref b376), (.ref b373), (.ref b373)])) _
                refine st403 _ ?_
                show Steps p.tables e below (T403.setTop (mkF m 513 #[.val (.int p1), .val (.int p2), .val (.int p3), .val (.int p4), .unset] [(.ref b376), (.ref b373), (.ref b373)])) _
                refine XS.dup X403.here hx rfl (hb hby d1_513) rfl rfl ?_
                show Steps p.tables e below (T403.setTop (mkF m 514 #[.val (.int p1), .val (.int p2), .val (.int p3), .val (.int p4), .unset] [(.ref b376), (.ref b376), (.ref b373), (.ref b373)])) _
                refine XS.bipush X403.here hx rfl (hb hby d1_514) ?_
                show Steps p.tables e below (T403.setTop (mkF m 516 #[.val (.int p1), .val (.int p2), .val (.int p3), .val (.int p4), .unset] [(.int (9 : Int32)), (.ref b376), (.ref b376), (.ref b373), (.ref b373)])) _
                refine XS.bipush X403.here hx rfl (hb hby d1_516) ?_
                show Steps p.tables e below (T403.setTop (mkF m 518 #[.val (.int p1), .val (.int p2), .val (.int p3), .val (.int p4), .unset] [(.int (101 : Int32)), (.int (9 : Int32)), (.ref b376), (.ref b376), (.ref b373), (.ref b373)])) _
                refine st406 _ ?_
                show Steps p.tables e below (T406.setTop (mkF m 519 #[.val (.int p1), .val (.int p2), .val (.int p3), .val (.int p4), .unset] [(.ref b376), (.ref b373), (.ref b373)])) _
                refine XS.dup X406.here hx rfl (hb hby d1_519) rfl rfl ?_
                show Steps p.tables e below (T406.setTop (mkF m 520 #[.val (.int p1), .val (.int p2), .val (.int p3), .val (.int p4), .unset] [(.ref b376), (.ref b376), (.ref b373), (.ref b373)])) _
                refine XS.bipush X406.here hx rfl (hb hby d1_520) ?_
                show Steps p.tables e below (T406.setTop (mkF m 522 #[.val (.int p1), .val (.int p2), .val (.int p3), .val (.int p4), .unset] [(.int (10 : Int32)), (.ref b376), (.ref b376), (.ref b373), (.ref b373)])) _
                refine XS.bipush X406.here hx rfl (hb hby d1_522) ?_
                show Steps p.tables e below (T406.setTop (mkF m 524 #[.val (.int p1), .val (.int p2), .val (.int p3), .val (.int p4), .unset] [(.int (69 : Int32)), (.int (10 : Int32)), (.ref b376), (.ref b376), (.ref b373), (.ref b373)])) _
                refine st409 _ ?_
                show Steps p.tables e below (T409.setTop (mkF m 525 #[.val (.int p1), .val (.int p2), .val (.int p3), .val (.int p4), .unset] [(.ref b376), (.ref b373), (.ref b373)])) _
                refine XS.dup X409.here hx rfl (hb hby d1_525) rfl rfl ?_
                show Steps p.tables e below (T409.setTop (mkF m 526 #[.val (.int p1), .val (.int p2), .val (.int p3), .val (.int p4), .unset] [(.ref b376), (.ref b376), (.ref b373), (.ref b373)])) _
                refine XS.bipush X409.here hx rfl (hb hby d1_526) ?_
                show Steps p.tables e below (T409.setTop (mkF m 528 #[.val (.int p1), .val (.int p2), .val (.int p3), .val (.int p4), .unset] [(.int (11 : Int32)), (.ref b376), (.ref b376), (.ref b373), (.ref b373)])) _
                refine XS.bipush X409.here hx rfl (hb hby d1_528) ?_
                show Steps p.tables e below (T409.setTop (mkF m 530 #[.val (.int p1), .val (.int p2), .val (.int p3), .val (.int p4), .unset] [(.int (109 : Int32)), (.int (11 : Int32)), (.ref b376), (.ref b376), (.ref b373), (.ref b373)])) _
                refine st412 _ ?_
                show Steps p.tables e below (T412.setTop (mkF m 531 #[.val (.int p1), .val (.int p2), .val (.int p3), .val (.int p4), .unset] [(.ref b376), (.ref b373), (.ref b373)])) _
                refine XS.dup X412.here hx rfl (hb hby d1_531) rfl rfl ?_
                show Steps p.tables e below (T412.setTop (mkF m 532 #[.val (.int p1), .val (.int p2), .val (.int p3), .val (.int p4), .unset] [(.ref b376), (.ref b376), (.ref b373), (.ref b373)])) _
                refine XS.bipush X412.here hx rfl (hb hby d1_532) ?_
                show Steps p.tables e below (T412.setTop (mkF m 534 #[.val (.int p1), .val (.int p2), .val (.int p3), .val (.int p4), .unset] [(.int (12 : Int32)), (.ref b376), (.ref b376), (.ref b373), (.ref b373)])) _
                refine XS.bipush X412.here hx rfl (hb hby d1_534) ?_
                show Steps p.tables e below (T412.setTop (mkF m 536 #[.val (.int p1), .val (.int p2), .val (.int p3), .val (.int p4), .unset] [(.int (97 : Int32)), (.int (12 : Int32)), (.ref b376), (.ref b376), (.ref b373), (.ref b373)])) _
                refine st415 _ ?_
                show Steps p.tables e below (T415.setTop (mkF m 537 #[.val (.int p1), .val (.int p2), .val (.int p3), .val (.int p4), .unset] [(.ref b376), (.ref b373), (.ref b373)])) _
                refine XS.dup X415.here hx rfl (hb hby d1_537) rfl rfl ?_
                show Steps p.tables e below (T415.setTop (mkF m 538 #[.val (.int p1), .val (.int p2), .val (.int p3), .val (.int p4), .unset] [(.ref b376), (.ref b376), (.ref b373), (.ref b373)])) _
                refine XS.bipush X415.here hx rfl (hb hby d1_538) ?_
                show Steps p.tables e below (T415.setTop (mkF m 540 #[.val (.int p1), .val (.int p2), .val (.int p3), .val (.int p4), .unset] [(.int (13 : Int32)), (.ref b376), (.ref b376), (.ref b373), (.ref b373)])) _
                refine XS.bipush X415.here hx rfl (hb hby d1_540) ?_
                show Steps p.tables e below (T415.setTop (mkF m 542 #[.val (.int p1), .val (.int p2), .val (.int p3), .val (.int p4), .unset] [(.int (105 : Int32)), (.int (13 : Int32)), (.ref b376), (.ref b376), (.ref b373), (.ref b373)])) _
                refine st418 _ ?_
                show Steps p.tables e below (T418.setTop (mkF m 543 #[.val (.int p1), .val (.int p2), .val (.int p3), .val (.int p4), .unset] [(.ref b376), (.ref b373), (.ref b373)])) _
                refine XS.dup X418.here hx rfl (hb hby d1_543) rfl rfl ?_
                show Steps p.tables e below (T418.setTop (mkF m 544 #[.val (.int p1), .val (.int p2), .val (.int p3), .val (.int p4), .unset] [(.ref b376), (.ref b376), (.ref b373), (.ref b373)])) _
                refine XS.bipush X418.here hx rfl (hb hby d1_544) ?_
                show Steps p.tables e below (T418.setTop (mkF m 546 #[.val (.int p1), .val (.int p2), .val (.int p3), .val (.int p4), .unset] [(.int (14 : Int32)), (.ref b376), (.ref b376), (.ref b373), (.ref b373)])) _
                refine XS.bipush X418.here hx rfl (hb hby d1_546) ?_
                show Steps p.tables e below (T418.setTop (mkF m 548 #[.val (.int p1), .val (.int p2), .val (.int p3), .val (.int p4), .unset] [(.int (108 : Int32)), (.int (14 : Int32)), (.ref b376), (.ref b376), (.ref b373), (.ref b373)])) _
                refine st421 _ ?_
                exact k
              obtain ⟨lq424, X424, N424⟩ : ∃ lq, Stand p l e ({ frames := 5, cells := 3, slots := 64, locals := 90 } : Room) (s.setVm s.vm) m #[(.int p1), (.int p2), (.int p3), (.int p4)] below meth c T421 lq 2 19 ∧ Fr n0 lq := ⟨_, X421, N421⟩
              obtain ⟨_, _, ⟨T425, L425, k425, n425⟩, -, X425, ⟨Lc425, hQ425, l425, y425, z425⟩, st425⟩ := X424.specialBack hx (y := (⟨"java/lang/String", "<init>", "([C)V"⟩ : MethodName)) rfl hown (mvT hZ (hw _ (List.mem_of_getElem? (i := 11) rfl))) (mvT hZ (hw _ (List.mem_of_getElem? (i := 12) rfl))) (mvT hZ (hw _ (List.mem_of_getElem? (i := 13) rfl))) (by decide) (StrChars.Road.backV (W := 1) hZ hws (kI := 4) (hw _ (List.mem_of_getElem? (i := 5) rfl)) (cs := ([nar .char p4, nar .char (67 : Int32), nar .char (104 : Int32), nar .char (97 : Int32), nar .char (108 : Int32), nar .char (108 : Int32), nar .char (101 : Int32), nar .char (110 : Int32), nar .char (103 : Int32), nar .char (101 : Int32), nar .char (69 : Int32), nar .char (109 : Int32), nar .char (97 : Int32), nar .char (105 : Int32), nar .char (108 : Int32)] : List Int32)) (bs := (([nar .char p4, nar .char (67 : Int32), nar .char (104 : Int32), nar .char (97 : Int32), nar .char (108 : Int32), nar .char (108 : Int32), nar .char (101 : Int32), nar .char (110 : Int32), nar .char (103 : Int32), nar .char (101 : Int32), nar .char (69 : Int32), nar .char (109 : Int32), nar .char (97 : Int32), nar .char (105 : Int32), nar .char (108 : Int32)] : List Int32)).map (fun c => c.toInt8.toInt32)) (n := 15) g_b373 Zs422 E_b373_421 F_b373_value_421 F_b373_coder_421 V421_b376 S_java_lang_String_COMPACT_STRINGS_421 P5 rfl rfl (by decide) (by decide) hp rfl (by decide) (by decide)) (g := (mkF m 549 #[.val (.int p1), .val (.int p2), .val (.int p3), .val (.int p4), .unset] [(.ref b376), (.ref b373), (.ref b373)])) rfl (by rw [hml]; rfl) (Steps.refl _) (a := b373) (argsL := [(.ref b376)]) (rest := [(.ref b373)]) (lenOf pd_5 rfl) rfl (by show 2 * 0 + _ ≤ _; exact Nat.le_of_eq rfl) (hb hby d1_549) (fun _ _ => ⟨rfl, e421, (by decide : 2 + 1 ≤ _), (by decide : 19 + 15 ≤ _)⟩)
              dsimp only [Pt.U, Pt.locs, Pt.cells, Pt.slots] at X425 l425 y425 z425 st425 hQ425
              subst l425 y425 z425
              obtain ⟨rfl, N425q, K425q, E425q, Fc425q, ta425, kb425, u1425, u2425, u3425, Fv425q, Vv425q⟩ := hQ425
              have N425 := Fr.app N424 N425q
              have E_b373_425 := E_b373_421.keep K425q
              have Zs426 := Nat.le_trans Zs422 K425q.1
              have hk427 := Nat.le_trans hk423 K425q.1
              have Kk425 := Kk421.trans K425q (allS (Or.inr sz_b373) all0)
              obtain ⟨fs, hr, hrun, hended, hEnd⟩ := Stand.leaveW (s := s) (vm₁ := s.vm) X425 hS0 (by exact hk427) (v := some (.ref b373)) (fun h => by rw [Bd.returns] at h; cases h)
              refine ⟨_, _, pre36 _ ?_, hrun, hended, _, _, rfl, ?_, ?_, hEnd.1, hEnd.2.1, hEnd.2.2.1, hEnd.2.2.2.mono (by decide) (by decide)⟩
              · show Steps p.tables e below (T421.setTop (mkF m 549 #[.val (.int p1), .val (.int p2), .val (.int p3), .val (.int p4), .unset] [(.ref b376), (.ref b373), (.ref b373)])) _
                refine st425.trans ?_
                show Steps p.tables e below (T425.setTop (mkF m 552 #[.val (.int p1), .val (.int p2), .val (.int p3), .val (.int p4), .unset] [(.ref b373)])) _
                exact retOut X425 hx Bd.returns rfl (Or.inr (Or.inr (Or.inr (Or.inr ⟨rfl, rfl, rfl⟩)))) (hb hby d1_552) hr
              · show Q1 Z p1 p2 p3 p4 G1 h0 n0 _ T425.heap _
                exact ⟨_, ([nar .char p4, nar .char (67 : Int32), nar .char (104 : Int32), nar .char (97 : Int32), nar .char (108 : Int32), nar .char (108 : Int32), nar .char (101 : Int32), nar .char (110 : Int32), nar .char (103 : Int32), nar .char (101 : Int32), nar .char (69 : Int32), nar .char (109 : Int32), nar .char (97 : Int32), nar .char (105 : Int32), nar .char (108 : Int32)] : List Int32), rfl, N425, Kk425, ta425, kb425, 15, E425q, Fv425q, Fc425q, Vv425q, hp, rfl, by decide⟩
              · show CHr Z consts_1 s.vm s.heap T425.vm T425.heap
                rw [hh]
                exact CHr.trans (CHr.keep Kk425 sf0 HC) (CHv.at (s := s) (vm0 := s.vm) X425 hZ hEL (CHv.keep Kk425 sf0 HC))
            · skip
              have pre37 : ∀ t, Steps p.tables e below (s₁.setTop (mkF m 660 #[.val (.int p1), .val (.int p2), .val (.int p3), .val (.int p4), .unset] [])) t → Steps p.tables e below (s₁.setTop (entryFrame m #[(.int p1), (.int p2), (.int p3), (.int p4)] 5)) t := by
                intro t k
                refine pre34 t ?_
                show Steps p.tables e below (s₁.setTop (mkF m 449 #[.val (.int p1), .val (.int p2), .val (.int p3), .val (.int p4), .unset] [])) _
                refine XS.iloadN X0.here hx rfl (hb hby d1_449) rfl ?_
                show Steps p.tables e below (s₁.setTop (mkF m 450 #[.val (.int p1), .val (.int p2), .val (.int p3), .val (.int p4), .unset] [(.int p2)])) _
                refine XS.iconst X0.here hx rfl (hb hby d1_450) ?_
                show Steps p.tables e below (s₁.setTop (mkF m 451 #[.val (.int p1), .val (.int p2), .val (.int p3), .val (.int p4), .unset] [(.int (4 : Int32)), (.int p2)])) _
                refine XS.icmpYes X0.here hx rfl (pc0 := 451) (pc' := 660) rfl (hb hby d1_451) rfl (feq k4).2 (by decide) (by decide) ?_
                exact k
              by_cases k5 : p2 = 5
              · skip
                have pre38 : ∀ t, Steps p.tables e below (s₁.setTop (mkF m 669 #[.val (.int p1), .val (.int p2), .val (.int p3), .val (.int p4), .unset] [])) t → Steps p.tables e below (s₁.setTop (entryFrame m #[(.int p1), (.int p2), (.int p3), (.int p4)] 5)) t := by
                  intro t k
                  refine pre37 t ?_
                  show Steps p.tables e below (s₁.setTop (mkF m 660 #[.val (.int p1), .val (.int p2), .val (.int p3), .val (.int p4), .unset] [])) _
                  refine XS.iloadN X0.here hx rfl (hb hby d1_660) rfl ?_
                  show Steps p.tables e below (s₁.setTop (mkF m 661 #[.val (.int p1), .val (.int p2), .val (.int p3), .val (.int p4), .unset] [(.int p2)])) _
                  refine XS.iconst X0.here hx rfl (hb hby d1_661) ?_
                  show Steps p.tables e below (s₁.setTop (mkF m 662 #[.val (.int p1), .val (.int p2), .val (.int p3), .val (.int p4), .unset] [(.int (5 : Int32)), (.int p2)])) _
                  refine XS.icmpNo X0.here hx rfl (hb hby d1_662) rfl (teq k5).2 ?_
                  show Steps p.tables e below (s₁.setTop (mkF m 665 #[.val (.int p1), .val (.int p2), .val (.int p3), .val (.int p4), .unset] [])) _
                  refine XS.iloadN X0.here hx rfl (hb hby d1_665) rfl ?_
                  show Steps p.tables e below (s₁.setTop (mkF m 666 #[.val (.int p1), .val (.int p2), .val (.int p3), .val (.int p4), .unset] [(.int p1)])) _
                  refine XS.ifNo X0.here hx rfl (hb hby d1_666) rfl ((if0 _ _).trans (feq ce).1) ?_
                  exact k
                obtain ⟨sl428, T428, h428, ki428, bv428, kb428, X428, e428, E428, hSi428, hki428, hZ, hown, Ea428, Fc428, Fv428, Va428, la428, lb428, hC428, hL428, hsf428, st428⟩ := ldcCH (s := s) (vm0 := s.vm) X0 hx hZ hown (hw _ (List.mem_of_getElem? (i := 104) rfl)) wS e0 hS0 hk0 hEL (List.mem_of_getElem? (i := 2) rfl) (CHv.keep KK0 sf0 HC) (vs := (([69, 109, 97, 105, 108] : List Int32).map (fun c => c.toInt8.toInt32)).map Value.int) (z := (5 : Int32)) ⟨by decide +kernel, by decide +kernel⟩ (by decide) (by decide) (g := (mkF m 669 #[.val (.int p1), .val (.int p2), .val (.int p3), .val (.int p4), .unset] [])) rfl (hb hby d1_669) (n := 20) (by decide +kernel) (by decide) (by decide) (by decide)
                have S_java_lang_String_COMPACT_STRINGS_428 := S1.ext E428
                have Zs429 := Nat.le_trans Z0 E428.1
                have hk430 := Nat.le_trans hk0 E428.1
                have Kk428 := KK0.ext E428
                have CRn428 := CHr.trans (CHr.keep KK0 sf0 HC) hC428
                have KK428 := Keep.refl h428 ([] : List Addr)
                obtain ⟨fs, hr, hrun, hended, hEnd⟩ := Stand.leaveW (s := s) (vm₁ := T428.vm) X428 hSi428 (by rw [e428]; exact hki428) (v := some (.ref sl428)) (fun h => by rw [Bd.returns] at h; cases h)
                refine ⟨_, _, pre38 _ ?_, hrun, hended, _, _, rfl, ?_, ?_, hEnd.1, hEnd.2.1, hEnd.2.2.1, hEnd.2.2.2.mono (by decide) (by decide)⟩
                · show Steps p.tables e below (s₁.setTop (mkF m 669 #[.val (.int p1), .val (.int p2), .val (.int p3), .val (.int p4), .unset] [])) _
                  refine st428 _ ?_
                  show Steps p.tables e below (T428.setTop (mkF m 671 #[.val (.int p1), .val (.int p2), .val (.int p3), .val (.int p4), .unset] [(.ref sl428)])) _
                  exact retOut X428 hx Bd.returns rfl (Or.inr (Or.inr (Or.inr (Or.inr ⟨rfl, rfl, rfl⟩)))) (hb hby d1_671) hr
                · show Q1 Z p1 p2 p3 p4 G1 h0 n0 _ T428.heap _
                  rw [e428]
                  exact ⟨_, ([69, 109, 97, 105, 108] : List Int32), rfl, N0, Kk428, bv428, kb428, 5, Ea428, Fv428, Fc428, Va428, by decide +kernel, rfl, by decide⟩
                · show CHr Z consts_1 s.vm s.heap T428.vm T428.heap
                  rw [hh, e428]
                  exact CHr.trans (CHr.trans CRn428 (CHr.keep KK428 sf0 hC428.1)) (CHv.at (s := s) (vm0 := T428.vm) X428 hZ hEL (CHv.keep KK428 sf0 hC428.1))
              · skip
                have pre39 : ∀ t, Steps p.tables e below (s₁.setTop (mkF m 675 #[.val (.int p1), .val (.int p2), .val (.int p3), .val (.int p4), .unset] [])) t → Steps p.tables e below (s₁.setTop (entryFrame m #[(.int p1), (.int p2), (.int p3), (.int p4)] 5)) t := by
                  intro t k
                  refine pre37 t ?_
                  show Steps p.tables e below (s₁.setTop (mkF m 660 #[.val (.int p1), .val (.int p2), .val (.int p3), .val (.int p4), .unset] [])) _
                  refine XS.iloadN X0.here hx rfl (hb hby d1_660) rfl ?_
                  show Steps p.tables e below (s₁.setTop (mkF m 661 #[.val (.int p1), .val (.int p2), .val (.int p3), .val (.int p4), .unset] [(.int p2)])) _
                  refine XS.iconst X0.here hx rfl (hb hby d1_661) ?_
                  show Steps p.tables e below (s₁.setTop (mkF m 662 #[.val (.int p1), .val (.int p2), .val (.int p3), .val (.int p4), .unset] [(.int (5 : Int32)), (.int p2)])) _
                  refine XS.icmpYes X0.here hx rfl (pc0 := 662) (pc' := 675) rfl (hb hby d1_662) rfl (feq k5).2 (by decide) (by decide) ?_
                  exact k
                by_cases k6 : p2 = 6
                · skip
                  have pre40 : ∀ t, Steps p.tables e below (s₁.setTop (mkF m 681 #[.val (.int p1), .val (.int p2), .val (.int p3), .val (.int p4), .unset] [])) t → Steps p.tables e below (s₁.setTop (entryFrame m #[(.int p1), (.int p2), (.int p3), (.int p4)] 5)) t := by
                    intro t k
                    refine pre39 t ?_
                    show Steps p.tables e below (s₁.setTop (mkF m 675 #[.val (.int p1), .val (.int p2), .val (.int p3), .val (.int p4), .unset] [])) _
                    refine XS.iloadN X0.here hx rfl (hb hby d1_675) rfl ?_
                    show Steps p.tables e below (s₁.setTop (mkF m 676 #[.val (.int p1), .val (.int p2), .val (.int p3), .val (.int p4), .unset] [(.int p2)])) _
                    refine XS.bipush X0.here hx rfl (hb hby d1_676) ?_
                    show Steps p.tables e below (s₁.setTop (mkF m 678 #[.val (.int p1), .val (.int p2), .val (.int p3), .val (.int p4), .unset] [(.int (6 : Int32)), (.int p2)])) _
                    refine XS.icmpNo X0.here hx rfl (hb hby d1_678) rfl (teq k6).2 ?_
                    exact k
                  obtain ⟨sl431, T431, h431, ki431, bv431, kb431, X431, e431, E431, hSi431, hki431, hZ, hown, Ea431, Fc431, Fv431, Va431, la431, lb431, hC431, hL431, hsf431, st431⟩ := ldcCH (s := s) (vm0 := s.vm) X0 hx hZ hown (hw _ (List.mem_of_getElem? (i := 103) rfl)) wS e0 hS0 hk0 hEL (List.mem_of_getElem? (i := 4) rfl) (CHv.keep KK0 sf0 HC) (vs := (([] : List Int32).map (fun c => c.toInt8.toInt32)).map Value.int) (z := (0 : Int32)) ⟨by decide +kernel, by decide +kernel⟩ (by decide) (by decide) (g := (mkF m 681 #[.val (.int p1), .val (.int p2), .val (.int p3), .val (.int p4), .unset] [])) rfl (hb hby d1_681) (n := 0) (by decide +kernel) (by decide) (by decide) (by decide)
                  have S_java_lang_String_COMPACT_STRINGS_431 := S1.ext E431
                  have Zs432 := Nat.le_trans Z0 E431.1
                  have hk433 := Nat.le_trans hk0 E431.1
                  have Kk431 := KK0.ext E431
                  have CRn431 := CHr.trans (CHr.keep KK0 sf0 HC) hC431
                  have KK431 := Keep.refl h431 ([] : List Addr)
                  obtain ⟨fs, hr, hrun, hended, hEnd⟩ := Stand.leaveW (s := s) (vm₁ := T431.vm) X431 hSi431 (by rw [e431]; exact hki431) (v := some (.ref sl431)) (fun h => by rw [Bd.returns] at h; cases h)
                  refine ⟨_, _, pre40 _ ?_, hrun, hended, _, _, rfl, ?_, ?_, hEnd.1, hEnd.2.1, hEnd.2.2.1, hEnd.2.2.2.mono (by decide) (by decide)⟩
                  · show Steps p.tables e below (s₁.setTop (mkF m 681 #[.val (.int p1), .val (.int p2), .val (.int p3), .val (.int p4), .unset] [])) _
                    refine st431 _ ?_
                    show Steps p.tables e below (T431.setTop (mkF m 683 #[.val (.int p1), .val (.int p2), .val (.int p3), .val (.int p4), .unset] [(.ref sl431)])) _
                    exact retOut X431 hx Bd.returns rfl (Or.inr (Or.inr (Or.inr (Or.inr ⟨rfl, rfl, rfl⟩)))) (hb hby d1_683) hr
                  · show Q1 Z p1 p2 p3 p4 G1 h0 n0 _ T431.heap _
                    rw [e431]
                    exact ⟨_, ([] : List Int32), rfl, N0, Kk431, bv431, kb431, 0, Ea431, Fv431, Fc431, Va431, by decide +kernel, rfl, by decide⟩
                  · show CHr Z consts_1 s.vm s.heap T431.vm T431.heap
                    rw [hh, e431]
                    exact CHr.trans (CHr.trans CRn431 (CHr.keep KK431 sf0 hC431.1)) (CHv.at (s := s) (vm0 := T431.vm) X431 hZ hEL (CHv.keep KK431 sf0 hC431.1))
                · skip
                  have pre41 : ∀ t, Steps p.tables e below (s₁.setTop (mkF m 684 #[.val (.int p1), .val (.int p2), .val (.int p3), .val (.int p4), .unset] [])) t → Steps p.tables e below (s₁.setTop (entryFrame m #[(.int p1), (.int p2), (.int p3), (.int p4)] 5)) t := by
                    intro t k
                    refine pre39 t ?_
                    show Steps p.tables e below (s₁.setTop (mkF m 675 #[.val (.int p1), .val (.int p2), .val (.int p3), .val (.int p4), .unset] [])) _
                    refine XS.iloadN X0.here hx rfl (hb hby d1_675) rfl ?_
                    show Steps p.tables e below (s₁.setTop (mkF m 676 #[.val (.int p1), .val (.int p2), .val (.int p3), .val (.int p4), .unset] [(.int p2)])) _
                    refine XS.bipush X0.here hx rfl (hb hby d1_676) ?_
                    show Steps p.tables e below (s₁.setTop (mkF m 678 #[.val (.int p1), .val (.int p2), .val (.int p3), .val (.int p4), .unset] [(.int (6 : Int32)), (.int p2)])) _
                    refine XS.icmpYes X0.here hx rfl (pc0 := 678) (pc' := 684) rfl (hb hby d1_678) rfl (feq k6).2 (by decide) (by decide) ?_
                    exact k
                  have hp : ∀ c ∈ ([nar .char (67 : Int32), nar .char (104 : Int32), nar .char (97 : Int32), nar .char (108 : Int32), nar .char (108 : Int32), nar .char (101 : Int32), nar .char (110 : Int32), nar .char (103 : Int32), nar .char (101 : Int32)] : List Int32), ¬ c < 0 ∧ ¬ (255 : Int32) < c := (own_cc (by decide +kernel) (own_cc (by decide +kernel) (own_cc (by decide +kernel) (own_cc (by decide +kernel) (own_cc (by decide +kernel) (own_cc (by decide +kernel) (own_cc (by decide +kernel) (own_cc (by decide +kernel) (own_cc (by decide +kernel) own_cn)))))))))
                  obtain ⟨T434, h434, X434, e434, E434, A434, D434, -, st434⟩ := newO X0 hx hZ hown (hw _ (List.mem_of_getElem? (i := 4) rfl)) (hw _ (List.mem_of_getElem? (i := 5) rfl)) (hw _ (List.mem_of_getElem? (i := 6) rfl)) e0 (g := (mkF m 684 #[.val (.int p1), .val (.int p2), .val (.int p3), .val (.int p4), .unset] [])) rfl (hb hby d1_684) (by decide) (by decide)
                  obtain ⟨b434, g434⟩ : ∃ z, z = h0.size := ⟨_, rfl⟩
                  rw [← g434] at A434 D434 st434
                  have g_b434 : n0 ≤ b434 := Nat.le_trans Z0 (Nat.le_of_eq g434.symm)
                  have sz_b434 := Nat.le_trans KK0.1 (Nat.le_of_eq g434.symm)
                  have S_java_lang_String_COMPACT_STRINGS_434 := S1.ext E434
                  have Zs435 := Nat.le_trans Z0 E434.1
                  have hk436 := Nat.le_trans hk0 E434.1
                  have Kk434 := KK0.ext E434
                  have F_coder_b434 : Fld Z h434 b434 "java/lang/String" "coder" "B" (.int (0 : Int32)) := D434 (Or.inr (hw _ (List.mem_of_getElem? (i := 34) rfl))) (ty := .byte) (by decide)
                  have F_value_b434 : Fld Z h434 b434 "java/lang/String" "value" "[B" .null := D434 (Or.inr (hw _ (List.mem_of_getElem? (i := 36) rfl))) (ty := (.array .byte)) (by decide)
                  obtain ⟨T437, h437, k437, X437, e437, E437, A437, st437⟩ := newP X434 hx hZ (hw _ (List.mem_of_getElem? (i := 10) rfl)) e434 (g := (mkF m 690 #[.val (.int p1), .val (.int p2), .val (.int p3), .val (.int p4), .unset] [(.int (9 : Int32)), (.ref b434), (.ref b434)])) rfl (hb hby d1_690) rfl (by decide) (cap := 9) (by decide) (by decide) (by decide) (by decide)
                  obtain ⟨b437, g437⟩ : ∃ z, z = h434.size := ⟨_, rfl⟩
                  rw [← g437] at A437 st437
                  have ne_b434_b437 : b434 ≠ b437 := Nat.ne_of_lt (Nat.lt_of_lt_of_le F_coder_b434.lt (Nat.le_of_eq g437.symm))
                  have g_b437 : n0 ≤ b437 := Nat.le_trans Zs435 (Nat.le_of_eq g437.symm)
                  have sz_b437 := Nat.le_trans Kk434.1 (Nat.le_of_eq g437.symm)
                  have S_java_lang_String_COMPACT_STRINGS_437 := S_java_lang_String_COMPACT_STRINGS_434.ext E437
                  have F_b434_coder_437 := F_coder_b434.ext E437
                  have F_b434_value_437 := F_value_b434.ext E437
                  have E_b434_437 := A434.ext E437
                  have Zs438 := Nat.le_trans Zs435 E437.1
                  have hk439 := Nat.le_trans hk436 E437.1
                  have Kk437 := Kk434.ext E437
                  have V_b437 : Arv Z h437 b437 k437 .char (9 : Int32) [(.int (0 : Int32)), (.int (0 : Int32)), (.int (0 : Int32)), (.int (0 : Int32)), (.int (0 : Int32)), (.int (0 : Int32)), (.int (0 : Int32)), (.int (0 : Int32)), (.int (0 : Int32))] (.int (0 : Int32)) := (Arv.new A437 (by decide)).pad (pad_rep [] (.int (0 : Int32)) 9)
                  obtain ⟨cl440, Ar440, q440, S440, N440m, H440, G440⟩ := id V_b437
                  have hin440 : ¬ ((0 : Int32) < 0 ∨ cl440.slots.size ≤ ((0 : Int32)).toNatClampNeg) := inb_of S440 ⟨by decide, by decide⟩
                  obtain ⟨T440, h440, X440, e440, W440, st440⟩ := stC X437 hx hZ e437 Ar440 (j := (0 : Int32)) hin440 (g := (mkF m 696 #[.val (.int p1), .val (.int p2), .val (.int p3), .val (.int p4), .unset] [(.int (67 : Int32)), (.int (0 : Int32)), (.ref b437), (.ref b437), (.ref b434), (.ref b434)])) rfl rfl (hb hby d1_696)
                  have V440_b437 : Arv Z h440 b437 k437 .char (9 : Int32) [(.int (nar .char (67 : Int32))), (.int (0 : Int32)), (.int (0 : Int32)), (.int (0 : Int32)), (.int (0 : Int32)), (.int (0 : Int32)), (.int (0 : Int32)), (.int (0 : Int32)), (.int (0 : Int32))] (.int (0 : Int32)) := Arv.set Ar440 q440 S440 N440m H440 G440 (fits_nar_char _) W440 0 rfl (Nat.le_of_ble_eq_true rfl)
                  have S_java_lang_String_COMPACT_STRINGS_440 := S_java_lang_String_COMPACT_STRINGS_437.wr W440
                  have F_b434_coder_440 := F_b434_coder_437.other W440 (Or.inl ne_b434_b437)
                  have F_b434_value_440 := F_b434_value_437.other W440 (Or.inl ne_b434_b437)
                  have E_b434_440 := E_b434_437.wr W440
                  have Zs441 := Nat.le_trans Zs438 (Keep.of_wr W440).1
                  have hk442 := Nat.le_trans hk439 (Keep.of_wr W440).1
                  have Kk440 := Kk437.wr W440 (Or.inr sz_b437)
                  have N440 := Fr.snoc X440 N0 g_b437
                  obtain ⟨cl443, Ar443, q443, S443, N443m, H443, G443⟩ := id V440_b437
                  have hin443 : ¬ ((1 : Int32) < 0 ∨ cl443.slots.size ≤ ((1 : Int32)).toNatClampNeg) := inb_of S443 ⟨by decide, by decide⟩
                  obtain ⟨T443, h443, X443, e443, W443, st443⟩ := stC X440 hx hZ e440 Ar443 (j := (1 : Int32)) hin443 (g := (mkF m 701 #[.val (.int p1), .val (.int p2), .val (.int p3), .val (.int p4), .unset] [(.int (104 : Int32)), (.int (1 : Int32)), (.ref b437), (.ref b437), (.ref b434), (.ref b434)])) rfl rfl (hb hby d1_701)
                  have V443_b437 : Arv Z h443 b437 k437 .char (9 : Int32) [(.int (nar .char (67 : Int32))), (.int (nar .char (104 : Int32))), (.int (0 : Int32)), (.int (0 : Int32)), (.int (0 : Int32)), (.int (0 : Int32)), (.int (0 : Int32)), (.int (0 : Int32)), (.int (0 : Int32))] (.int (0 : Int32)) := Arv.set Ar443 q443 S443 N443m H443 G443 (fits_nar_char _) W443 1 rfl (Nat.le_of_ble_eq_true rfl)
                  have S_java_lang_String_COMPACT_STRINGS_443 := S_java_lang_String_COMPACT_STRINGS_440.wr W443
                  have F_b434_coder_443 := F_b434_coder_440.other W443 (Or.inl ne_b434_b437)
                  have F_b434_value_443 := F_b434_value_440.other W443 (Or.inl ne_b434_b437)
                  have E_b434_443 := E_b434_440.wr W443
                  have Zs444 := Nat.le_trans Zs441 (Keep.of_wr W443).1
                  have hk445 := Nat.le_trans hk442 (Keep.of_wr W443).1
                  have Kk443 := Kk440.wr W443 (Or.inr sz_b437)
                  have N443 := Fr.snoc X443 N440 g_b437
                  obtain ⟨cl446, Ar446, q446, S446, N446m, H446, G446⟩ := id V443_b437
                  have hin446 : ¬ ((2 : Int32) < 0 ∨ cl446.slots.size ≤ ((2 : Int32)).toNatClampNeg) := inb_of S446 ⟨by decide, by decide⟩
                  obtain ⟨T446, h446, X446, e446, W446, st446⟩ := stC X443 hx hZ e443 Ar446 (j := (2 : Int32)) hin446 (g := (mkF m 706 #[.val (.int p1), .val (.int p2), .val (.int p3), .val (.int p4), .unset] [(.int (97 : Int32)), (.int (2 : Int32)), (.ref b437), (.ref b437), (.ref b434), (.ref b434)])) rfl rfl (hb hby d1_706)
                  have V446_b437 : Arv Z h446 b437 k437 .char (9 : Int32) [(.int (nar .char (67 : Int32))), (.int (nar .char (104 : Int32))), (.int (nar .char (97 : Int32))), (.int (0 : Int32)), (.int (0 : Int32)), (.int (0 : Int32)), (.int (0 : Int32)), (.int (0 : Int32)), (.int (0 : Int32))] (.int (0 : Int32)) := Arv.set Ar446 q446 S446 N446m H446 G446 (fits_nar_char _) W446 2 rfl (Nat.le_of_ble_eq_true rfl)
                  have S_java_lang_String_COMPACT_STRINGS_446 := S_java_lang_String_COMPACT_STRINGS_443.wr W446
                  have F_b434_coder_446 := F_b434_coder_443.other W446 (Or.inl ne_b434_b437)
                  have F_b434_value_446 := F_b434_value_443.other W446 (Or.inl ne_b434_b437)
                  have E_b434_446 := E_b434_443.wr W446
                  have Zs447 := Nat.le_trans Zs444 (Keep.of_wr W446).1
                  have hk448 := Nat.le_trans hk445 (Keep.of_wr W446).1
                  have Kk446 := Kk443.wr W446 (Or.inr sz_b437)
                  have N446 := Fr.snoc X446 N443 g_b437
                  obtain ⟨cl449, Ar449, q449, S449, N449m, H449, G449⟩ := id V446_b437
                  have hin449 : ¬ ((3 : Int32) < 0 ∨ cl449.slots.size ≤ ((3 : Int32)).toNatClampNeg) := inb_of S449 ⟨by decide, by decide⟩
                  obtain ⟨T449, h449, X449, e449, W449, st449⟩ := stC X446 hx hZ e446 Ar449 (j := (3 : Int32)) hin449 (g := (mkF m 711 #[.val (.int p1), .val (.int p2), .val (.int p3), .val (.int p4), .unset] [(.int (108 : Int32)), (.int (3 : Int32)), (.ref b437), (.ref b437), (.ref b434), (.ref b434)])) rfl rfl (hb hby d1_711)
                  have V449_b437 : Arv Z h449 b437 k437 .char (9 : Int32) [(.int (nar .char (67 : Int32))), (.int (nar .char (104 : Int32))), (.int (nar .char (97 : Int32))), (.int (nar .char (108 : Int32))), (.int (0 : Int32)), (.int (0 : Int32)), (.int (0 : Int32)), (.int (0 : Int32)), (.int (0 : Int32))] (.int (0 : Int32)) := Arv.set Ar449 q449 S449 N449m H449 G449 (fits_nar_char _) W449 3 rfl (Nat.le_of_ble_eq_true rfl)
                  have S_java_lang_String_COMPACT_STRINGS_449 := S_java_lang_String_COMPACT_STRINGS_446.wr W449
                  have F_b434_coder_449 := F_b434_coder_446.other W449 (Or.inl ne_b434_b437)
                  have F_b434_value_449 := F_b434_value_446.other W449 (Or.inl ne_b434_b437)
                  have E_b434_449 := E_b434_446.wr W449
                  have Zs450 := Nat.le_trans Zs447 (Keep.of_wr W449).1
                  have hk451 := Nat.le_trans hk448 (Keep.of_wr W449).1
                  have Kk449 := Kk446.wr W449 (Or.inr sz_b437)
                  have N449 := Fr.snoc X449 N446 g_b437
                  obtain ⟨cl452, Ar452, q452, S452, N452m, H452, G452⟩ := id V449_b437
                  have hin452 : ¬ ((4 : Int32) < 0 ∨ cl452.slots.size ≤ ((4 : Int32)).toNatClampNeg) := inb_of S452 ⟨by decide, by decide⟩
                  obtain ⟨T452, h452, X452, e452, W452, st452⟩ := stC X449 hx hZ e449 Ar452 (j := (4 : Int32)) hin452 (g := (mkF m 716 #[.val (.int p1), .val (.int p2), .val (.int p3), .val (.int p4), .unset] [(.int (108 : Int32)), (.int (4 : Int32)), (.ref b437), (.ref b437), (.ref b434), (.ref b434)])) rfl rfl (hb hby d1_716)
                  have V452_b437 : Arv Z h452 b437 k437 .char (9 : Int32) [(.int (nar .char (67 : Int32))), (.int (nar .char (104 : Int32))), (.int (nar .char (97 : Int32))), (.int (nar .char (108 : Int32))), (.int (nar .char (108 : Int32))), (.int (0 : Int32)), (.int (0 : Int32)), (.int (0 : Int32)), (.int (0 : Int32))] (.int (0 : Int32)) := Arv.set Ar452 q452 S452 N452m H452 G452 (fits_nar_char _) W452 4 rfl (Nat.le_of_ble_eq_true rfl)
                  have S_java_lang_String_COMPACT_STRINGS_452 := S_java_lang_String_COMPACT_STRINGS_449.wr W452
                  have F_b434_coder_452 := F_b434_coder_449.other W452 (Or.inl ne_b434_b437)
                  have F_b434_value_452 := F_b434_value_449.other W452 (Or.inl ne_b434_b437)
                  have E_b434_452 := E_b434_449.wr W452
                  have Zs453 := Nat.le_trans Zs450 (Keep.of_wr W452).1
                  have hk454 := Nat.le_trans hk451 (Keep.of_wr W452).1
                  have Kk452 := Kk449.wr W452 (Or.inr sz_b437)
                  have N452 := Fr.snoc X452 N449 g_b437
                  obtain ⟨cl455, Ar455, q455, S455, N455m, H455, G455⟩ := id V452_b437
                  have hin455 : ¬ ((5 : Int32) < 0 ∨ cl455.slots.size ≤ ((5 : Int32)).toNatClampNeg) := inb_of S455 ⟨by decide, by decide⟩
                  obtain ⟨T455, h455, X455, e455, W455, st455⟩ := stC X452 hx hZ e452 Ar455 (j := (5 : Int32)) hin455 (g := (mkF m 721 #[.val (.int p1), .val (.int p2), .val (.int p3), .val (.int p4), .unset] [(.int (101 : Int32)), (.int (5 : Int32)), (.ref b437), (.ref b437), (.ref b434), (.ref b434)])) rfl rfl (hb hby d1_721)
                  have V455_b437 : Arv Z h455 b437 k437 .char (9 : Int32) [(.int (nar .char (67 : Int32))), (.int (nar .char (104 : Int32))), (.int (nar .char (97 : Int32))), (.int (nar .char (108 : Int32))), (.int (nar .char (108 : Int32))), (.int (nar .char (101 : Int32))), (.int (0 : Int32)), (.int (0 : Int32)), (.int (0 : Int32))] (.int (0 : Int32)) := Arv.set Ar455 q455 S455 N455m H455 G455 (fits_nar_char _) W455 5 rfl (Nat.le_of_ble_eq_true rfl)
                  have S_java_lang_String_COMPACT_STRINGS_455 := S_java_lang_String_COMPACT_STRINGS_452.wr W455
                  have F_b434_coder_455 := F_b434_coder_452.other W455 (Or.inl ne_b434_b437)
                  have F_b434_value_455 := F_b434_value_452.other W455 (Or.inl ne_b434_b437)
                  have E_b434_455 := E_b434_452.wr W455
                  have Zs456 := Nat.le_trans Zs453 (Keep.of_wr W455).1
                  have hk457 := Nat.le_trans hk454 (Keep.of_wr W455).1
                  have Kk455 := Kk452.wr W455 (Or.inr sz_b437)
                  have N455 := Fr.snoc X455 N452 g_b437
                  obtain ⟨cl458, Ar458, q458, S458, N458m, H458, G458⟩ := id V455_b437
                  have hin458 : ¬ ((6 : Int32) < 0 ∨ cl458.slots.size ≤ ((6 : Int32)).toNatClampNeg) := inb_of S458 ⟨by decide, by decide⟩
                  obtain ⟨T458, h458, X458, e458, W458, st458⟩ := stC X455 hx hZ e455 Ar458 (j := (6 : Int32)) hin458 (g := (mkF m 727 #[.val (.int p1), .val (.int p2), .val (.int p3), .val (.int p4), .unset] [(.int (110 : Int32)), (.int (6 : Int32)), (.ref b437), (.ref b437), (.ref b434), (.ref b434)])) rfl rfl (hb hby d1_727)
                  have V458_b437 : Arv Z h458 b437 k437 .char (9 : Int32) [(.int (nar .char (67 : Int32))), (.int (nar .char (104 : Int32))), (.int (nar .char (97 : Int32))), (.int (nar .char (108 : Int32))), (.int (nar .char (108 : Int32))), (.int (nar .char (101 : Int32))), (.int (nar .char (110 : Int32))), (.int (0 : Int32)), (.int (0 : Int32))] (.int (0 : Int32)) := Arv.set Ar458 q458 S458 N458m H458 G458 (fits_nar_char _) W458 6 rfl (Nat.le_of_ble_eq_true rfl)
                  have S_java_lang_String_COMPACT_STRINGS_458 := S_java_lang_String_COMPACT_STRINGS_455.wr W458
                  have F_b434_coder_458 := F_b434_coder_455.other W458 (Or.inl ne_b434_b437)
                  have F_b434_value_458 := F_b434_value_455.other W458 (Or.inl ne_b434_b437)
                  have E_b434_458 := E_b434_455.wr W458
                  have Zs459 := Nat.le_trans Zs456 (Keep.of_wr W458).1
                  have hk460 := Nat.le_trans hk457 (Keep.of_wr W458).1
                  have Kk458 := Kk455.wr W458 (Or.inr sz_b437)
                  have N458 := Fr.snoc X458 N455 g_b437
                  obtain ⟨cl461, Ar461, q461, S461, N461m, H461, G461⟩ := id V458_b437
                  have hin461 : ¬ ((7 : Int32) < 0 ∨ cl461.slots.size ≤ ((7 : Int32)).toNatClampNeg) := inb_of S461 ⟨by decide, by decide⟩
                  obtain ⟨T461, h461, X461, e461, W461, st461⟩ := stC X458 hx hZ e458 Ar461 (j := (7 : Int32)) hin461 (g := (mkF m 733 #[.val (.int p1), .val (.int p2), .val (.int p3), .val (.int p4), .unset] [(.int (103 : Int32)), (.int (7 : Int32)), (.ref b437), (.ref b437), (.ref b434), (.ref b434)])) rfl rfl (hb hby d1_733)
                  have V461_b437 : Arv Z h461 b437 k437 .char (9 : Int32) [(.int (nar .char (67 : Int32))), (.int (nar .char (104 : Int32))), (.int (nar .char (97 : Int32))), (.int (nar .char (108 : Int32))), (.int (nar .char (108 : Int32))), (.int (nar .char (101 : Int32))), (.int (nar .char (110 : Int32))), (.int (nar .char (103 : Int32))), (.int (0 : Int32))] (.int (0 : Int32)) := Arv.set Ar461 q461 S461 N461m H461 G461 (fits_nar_char _) W461 7 rfl (Nat.le_of_ble_eq_true rfl)
                  have S_java_lang_String_COMPACT_STRINGS_461 := S_java_lang_String_COMPACT_STRINGS_458.wr W461
                  have F_b434_coder_461 := F_b434_coder_458.other W461 (Or.inl ne_b434_b437)
                  have F_b434_value_461 := F_b434_value_458.other W461 (Or.inl ne_b434_b437)
                  have E_b434_461 := E_b434_458.wr W461
                  have Zs462 := Nat.le_trans Zs459 (Keep.of_wr W461).1
                  have hk463 := Nat.le_trans hk460 (Keep.of_wr W461).1
                  have Kk461 := Kk458.wr W461 (Or.inr sz_b437)
                  have N461 := Fr.snoc X461 N458 g_b437
                  obtain ⟨cl464, Ar464, q464, S464, N464m, H464, G464⟩ := id V461_b437
                  have hin464 : ¬ ((8 : Int32) < 0 ∨ cl464.slots.size ≤ ((8 : Int32)).toNatClampNeg) := inb_of S464 ⟨by decide, by decide⟩
                  obtain ⟨T464, h464, X464, e464, W464, st464⟩ := stC X461 hx hZ e461 Ar464 (j := (8 : Int32)) hin464 (g := (mkF m 739 #[.val (.int p1), .val (.int p2), .val (.int p3), .val (.int p4), .unset] [(.int (101 : Int32)), (.int (8 : Int32)), (.ref b437), (.ref b437), (.ref b434), (.ref b434)])) rfl rfl (hb hby d1_739)
                  have V464_b437 : Arv Z h464 b437 k437 .char (9 : Int32) [(.int (nar .char (67 : Int32))), (.int (nar .char (104 : Int32))), (.int (nar .char (97 : Int32))), (.int (nar .char (108 : Int32))), (.int (nar .char (108 : Int32))), (.int (nar .char (101 : Int32))), (.int (nar .char (110 : Int32))), (.int (nar .char (103 : Int32))), (.int (nar .char (101 : Int32)))] (.int (0 : Int32)) := Arv.set Ar464 q464 S464 N464m H464 G464 (fits_nar_char _) W464 8 rfl (Nat.le_of_ble_eq_true rfl)
                  have S_java_lang_String_COMPACT_STRINGS_464 := S_java_lang_String_COMPACT_STRINGS_461.wr W464
                  have F_b434_coder_464 := F_b434_coder_461.other W464 (Or.inl ne_b434_b437)
                  have F_b434_value_464 := F_b434_value_461.other W464 (Or.inl ne_b434_b437)
                  have E_b434_464 := E_b434_461.wr W464
                  have Zs465 := Nat.le_trans Zs462 (Keep.of_wr W464).1
                  have hk466 := Nat.le_trans hk463 (Keep.of_wr W464).1
                  have Kk464 := Kk461.wr W464 (Or.inr sz_b437)
                  have N464 := Fr.snoc X464 N461 g_b437
                  have pre42 : ∀ t, Steps p.tables e below (T464.setTop (mkF m 740 #[.val (.int p1), .val (.int p2), .val (.int p3), .val (.int p4), .unset] [(.ref b437), (.ref b434), (.ref b434)])) t → Steps p.tables e below (s₁.setTop (entryFrame m #[(.int p1), (.int p2), (.int p3), (.int p4)] 5)) t := by
                    intro t k
                    refine pre41 t ?_
                    show Steps p.tables e below (s₁.setTop (mkF m 684 #[.val (.int p1), .val (.int p2), .val (.int p3), .val (.int p4), .unset] [])) _
                    refine st434 _ ?_
                    show Steps p.tables e below (T434.setTop (mkF m 687 #[.val (.int p1), .val (.int p2), .val (.int p3), .val (.int p4), .unset] [(.ref b434)])) _
                    refine XS.dup X434.here hx rfl (hb hby d1_687) rfl rfl ?_
                    show Steps p.tables e below (T434.setTop (mkF m 688 #[.val (.int p1), .val (.int p2), .val (.int p3), .val (.int p4), .unset] [(.ref b434), (.ref b434)])) _
                    refine XS.bipush X434.here hx rfl (hb hby d1_688) ?_
                    show Steps p.tables e below (T434.setTop (mkF m 690 #[.val (.int p1), .val (.int p2), .val (.int p3), .val (.int p4), .unset] [(.int (9 : Int32)), (.ref b434), (.ref b434)])) _
                    refine st437 _ ?_
                    show Steps p.tables e below (T437.setTop (mkF m 692 #[.val (.int p1), .val (.int p2), .val (.int p3), .val (.int p4), .unset] [(.ref b437), (.ref b434), (.ref b434)])) _
                    refine XS.dup X437.here hx rfl (hb hby d1_692) rfl rfl ?_
                    show Steps p.tables e below (T437.setTop (mkF m 693 #[.val (.int p1), .val (.int p2), .val (.int p3), .val (.int p4), .unset] [(.ref b437), (.ref b437), (.ref b434), (.ref b434)])) _
                    refine XS.iconst X437.here hx rfl (hb hby d1_693) ?_
                    show Steps p.tables e below (T437.setTop (mkF m 694 #[.val (.int p1), .val (.int p2), .val (.int p3), .val (.int p4), .unset] [(.int (0 : Int32)), (.ref b437), (.ref b437), (.ref b434), (.ref b434)])) _
                    refine XS.bipush X437.here hx rfl (hb hby d1_694) ?_
                    show Steps p.tables e below (T437.setTop (mkF m 696 #[.val (.int p1), .val (.int p2), .val (.int p3), .val (.int p4), .unset] [(.int (67 : Int32)), (.int (0 : Int32)), (.ref b437), (.ref b437), (.ref b434), (.ref b434)])) _
                    refine st440 _ ?_
                    show Steps p.tables e below (T440.setTop (mkF m 697 #[.val (.int p1), .val (.int p2), .val (.int p3), .val (.int p4), .unset] [(.ref b437), (.ref b434), (.ref b434)])) _
                    refine XS.dup X440.here hx rfl (hb hby d1_697) rfl rfl ?_
                    show Steps p.tables e below (T440.setTop (mkF m 698 #[.val (.int p1), .val (.int p2), .val (.int p3), .val (.int p4), .unset] [(.ref b437), (.ref b437), (.ref b434), (.ref b434)])) _
                    refine XS.iconst X440.here hx rfl (hb hby d1_698) ?_
                    show Steps p.tables e below (T440.setTop (mkF m 699 #[.val (.int p1), .val (.int p2), .val (.int p3), .val (.int p4), .unset] [(.int (1 : Int32)), (.ref b437), (.ref b437), (.ref b434), (.ref b434)])) _
                    refine XS.bipush X440.here hx rfl (hb hby d1_699) ?_
                    show Steps p.tables e below (T440.setTop (mkF m 701 #[.val (.int p1), .val (.int p2), .val (.int p3), .val (.int p4), .unset] [(.int (104 : Int32)), (.int (1 : Int32)), (.ref b437), (.ref b437), (.ref b434), (.ref b434)])) _
                    refine st443 _ ?_
                    show Steps p.tables e below (T443.setTop (mkF m 702 #[.val (.int p1), .val (.int p2), .val (.int p3), .val (.int p4), .unset] [(.ref b437), (.ref b434), (.ref b434)])) _
                    refine XS.dup X443.here hx rfl (hb hby d1_702) rfl rfl ?_
                    show Steps p.tables e below (T443.setTop (mkF m 703 #[.val (.int p1), .val (.int p2), .val (.int p3), .val (.int p4), .unset] [(.ref b437), (.ref b437), (.ref b434), (.ref b434)])) _
                    refine XS.iconst X443.here hx rfl (hb hby d1_703) ?_
                    show Steps p.tables e below (T443.setTop (mkF m 704 #[.val (.int p1), .val (.int p2), .val (.int p3), .val (.int p4), .unset] [(.int (2 : Int32)), (.ref b437), (.ref b437), (.ref b434), (.ref b434)])) _
                    refine XS.bipush X443.here hx rfl (hb hby d1_704) ?_
                    show Steps p.tables e below (T443.setTop (mkF m 706 #[.val (.int p1), .val (.int p2), .val (.int p3), .val (.int p4), .unset] [(.int (97 : Int32)), (.int (2 : Int32)), (.ref b437), (.ref b437), (.ref b434), (.ref b434)])) _
                    refine st446 _ ?_
                    show Steps p.tables e below (T446.setTop (mkF m 707 #[.val (.int p1), .val (.int p2), .val (.int p3), .val (.int p4), .unset] [(.ref b437), (.ref b434), (.ref b434)])) _
                    refine XS.dup X446.here hx rfl (hb hby d1_707) rfl rfl ?_
                    show Steps p.tables e below (T446.setTop (mkF m 708 #[.val (.int p1), .val (.int p2), .val (.int p3), .val (.int p4), .unset] [(.ref b437), (.ref b437), (.ref b434), (.ref b434)])) _
                    refine XS.iconst X446.here hx rfl (hb hby d1_708) ?_
                    show Steps p.tables e below (T446.setTop (mkF m 709 #[.val (.int p1), .val (.int p2), .val (.int p3), .val (.int p4), .unset] [(.int (3 : Int32)), (.ref b437), (.ref b437), (.ref b434), (.ref b434)])) _
                    refine XS.bipush X446.here hx rfl (hb hby d1_709) ?_
                    show Steps p.tables e below (T446.setTop (mkF m 711 #[.val (.int p1), .val (.int p2), .val (.int p3), .val (.int p4), .unset] [(.int (108 : Int32)), (.int (3 : Int32)), (.ref b437), (.ref b437), (.ref b434), (.ref b434)])) _
                    refine st449 _ ?_
                    show Steps p.tables e below (T449.setTop (mkF m 712 #[.val (.int p1), .val (.int p2), .val (.int p3), .val (.int p4), .unset] [(.ref b437), (.ref b434), (.ref b434)])) _
                    refine XS.dup X449.here hx rfl (hb hby d1_712) rfl rfl ?_
                    show Steps p.tables e below (T449.setTop (mkF m 713 #[.val (.int p1), .val (.int p2), .val (.int p3), .val (.int p4), .unset] [(.ref b437), (.ref b437), (.ref b434), (.ref b434)])) _
                    refine XS.iconst X449.here hx rfl (hb hby d1_713) ?_
                    show Steps p.tables e below (T449.setTop (mkF m 714 #[.val (.int p1), .val (.int p2), .val (.int p3), .val (.int p4), .unset] [(.int (4 : Int32)), (.ref b437), (.ref b437), (.ref b434), (.ref b434)])) _
                    refine XS.bipush X449.here hx rfl (hb hby d1_714) ?_
                    show Steps p.tables e below (T449.setTop (mkF m 716 #[.val (.int p1), .val (.int p2), .val (.int p3), .val (.int p4), .unset] [(.int (108 : Int32)), (.int (4 : Int32)), (.ref b437), (.ref b437), (.ref b434), (.ref b434)])) _
                    refine st452 _ ?_
                    show Steps p.tables e below (T452.setTop (mkF m 717 #[.val (.int p1), .val (.int p2), .val (.int p3), .val (.int p4), .unset] [(.ref b437), (.ref b434), (.ref b434)])) _
                    refine XS.dup X452.here hx rfl (hb hby d1_717) rfl rfl ?_
                    show Steps p.tables e below (T452.setTop (mkF m 718 #[.val (.int p1), .val (.int p2), .val (.int p3), .val (.int p4), .unset] [(.ref b437), (.ref b437), (.ref b434), (.ref b434)])) _
                    refine XS.iconst X452.here hx rfl (hb hby d1_718) ?_
                    show Steps p.tables e below (T452.setTop (mkF m 719 #[.val (.int p1), .val (.int p2), .val (.int p3), .val (.int p4), .unset] [(.int (5 : Int32)), (.ref b437), (.ref b437), (.ref b434), (.ref b434)])) _
                    refine XS.bipush X452.here hx rfl (hb hby d1_719) ?_
                    show Steps p.tables e below (T452.setTop (mkF m 721 #[.val (.int p1), .val (.int p2), .val (.int p3), .val (.int p4), .unset] [(.int (101 : Int32)), (.int (5 : Int32)), (.ref b437), (.ref b437), (.ref b434), (.ref b434)])) _
                    refine st455 _ ?_
                    show Steps p.tables e below (T455.setTop (mkF m 722 #[.val (.int p1), .val (.int p2), .val (.int p3), .val (.int p4), .unset] [(.ref b437), (.ref b434), (.ref b434)])) _
                    refine XS.dup X455.here hx rfl (hb hby d1_722) rfl rfl ?_
                    show Steps p.tables e below (T455.setTop (mkF m 723 #[.val (.int p1), .val (.int p2), .val (.int p3), .val (.int p4), .unset] [(.ref b437), (.ref b437), (.ref b434), (.ref b434)])) _
                    refine XS.bipush X455.here hx rfl (hb hby d1_723) ?_
                    show Steps p.tables e below (T455.setTop (mkF m 725 #[.val (.int p1), .val (.int p2), .val (.int p3), .val (.int p4), .unset] [(.int (6 : Int32)), (.ref b437), (.ref b437), (.ref b434), (.ref b434)])) _
                    refine XS.bipush X455.here hx rfl (hb hby d1_725) ?_
                    show Steps p.tables e below (T455.setTop (mkF m 727 #[.val (.int p1), .val (.int p2), .val (.int p3), .val (.int p4), .unset] [(.int (110 : Int32)), (.int (6 : Int32)), (.ref b437), (.ref b437), (.ref b434), (.ref b434)])) _
                    refine st458 _ ?_
                    show Steps p.tables e below (T458.setTop (mkF m 728 #[.val (.int p1), .val (.int p2), .val (.int p3), .val (.int p4), .unset] [(.ref b437), (.ref b434), (.ref b434)])) _
                    refine XS.dup X458.here hx rfl (hb hby d1_728) rfl rfl ?_
                    show Steps p.tables e below (T458.setTop (mkF m 729 #[.val (.int p1), .val (.int p2), .val (.int p3), .val (.int p4), .unset] [(.ref b437), (.ref b437), (.ref b434), (.ref b434)])) _
                    refine XS.bipush X458.here hx rfl (hb hby d1_729) ?_
                    show Steps p.tables e below (T458.setTop (mkF m 731 #[.val (.int p1), .val (.int p2), .val (.int p3), .val (.int p4), .unset] [(.int (7 : Int32)), (.ref b437), (.ref b437), (.ref b434), (.ref b434)])) _
                    refine XS.bipush X458.here hx rfl (hb hby d1_731) ?_
                    show Steps p.tables e below (T458.setTop (mkF m 733 #[.val (.int p1), .val (.int p2), .val (.int p3), .val (.int p4), .unset] [(.int (103 : Int32)), (.int (7 : Int32)), (.ref b437), (.ref b437), (.ref b434), (.ref b434)])) _
                    refine st461 _ ?_
                    show Steps p.tables e below (T461.setTop (mkF m 734 #[.val (.int p1), .val (.int p2), .val (.int p3), .val (.int p4), .unset] [(.ref b437), (.ref b434), (.ref b434)])) _
                    refine XS.dup X461.here hx rfl (hb hby d1_734) rfl rfl ?_
                    show Steps p.tables e below (T461.setTop (mkF m 735 #[.val (.int p1), .val (.int p2), .val (.int p3), .val (.int p4), .unset] [(.ref b437), (.ref b437), (.ref b434), (.ref b434)])) _
                    refine XS.bipush X461.here hx rfl (hb hby d1_735) ?_
                    show Steps p.tables e below (T461.setTop (mkF m 737 #[.val (.int p1), .val (.int p2), .val (.int p3), .val (.int p4), .unset] [(.int (8 : Int32)), (.ref b437), (.ref b437), (.ref b434), (.ref b434)])) _
                    refine XS.bipush X461.here hx rfl (hb hby d1_737) ?_
                    show Steps p.tables e below (T461.setTop (mkF m 739 #[.val (.int p1), .val (.int p2), .val (.int p3), .val (.int p4), .unset] [(.int (101 : Int32)), (.int (8 : Int32)), (.ref b437), (.ref b437), (.ref b434), (.ref b434)])) _
                    refine st464 _ ?_
                    exact k
                  obtain ⟨lq467, X467, N467⟩ : ∃ lq, Stand p l e ({ frames := 5, cells := 3, slots := 64, locals := 90 } : Room) (s.setVm s.vm) m #[(.int p1), (.int p2), (.int p3), (.int p4)] below meth c T464 lq 2 13 ∧ Fr n0 lq := ⟨_, X464, N464⟩
                  obtain ⟨_, _, ⟨T468, L468, k468, n468⟩, -, X468, ⟨Lc468, hQ468, l468, y468, z468⟩, st468⟩ := X467.specialBack hx (y := (⟨"java/lang/String", "<init>", "([C)V"⟩ : MethodName)) rfl hown (mvT hZ (hw _ (List.mem_of_getElem? (i := 11) rfl))) (mvT hZ (hw _ (List.mem_of_getElem? (i := 12) rfl))) (mvT hZ (hw _ (List.mem_of_getElem? (i := 13) rfl))) (by decide) (StrChars.Road.backV (W := 1) hZ hws (kI := 4) (hw _ (List.mem_of_getElem? (i := 5) rfl)) (cs := ([nar .char (67 : Int32), nar .char (104 : Int32), nar .char (97 : Int32), nar .char (108 : Int32), nar .char (108 : Int32), nar .char (101 : Int32), nar .char (110 : Int32), nar .char (103 : Int32), nar .char (101 : Int32)] : List Int32)) (bs := (([nar .char (67 : Int32), nar .char (104 : Int32), nar .char (97 : Int32), nar .char (108 : Int32), nar .char (108 : Int32), nar .char (101 : Int32), nar .char (110 : Int32), nar .char (103 : Int32), nar .char (101 : Int32)] : List Int32)).map (fun c => c.toInt8.toInt32)) (n := 9) g_b434 Zs465 E_b434_464 F_b434_value_464 F_b434_coder_464 V464_b437 S_java_lang_String_COMPACT_STRINGS_464 P5 rfl rfl (by decide) (by decide) hp rfl (by decide) (by decide)) (g := (mkF m 740 #[.val (.int p1), .val (.int p2), .val (.int p3), .val (.int p4), .unset] [(.ref b437), (.ref b434), (.ref b434)])) rfl (by rw [hml]; rfl) (Steps.refl _) (a := b434) (argsL := [(.ref b437)]) (rest := [(.ref b434)]) (lenOf pd_5 rfl) rfl (by show 2 * 0 + _ ≤ _; exact Nat.le_of_eq rfl) (hb hby d1_740) (fun _ _ => ⟨rfl, e464, (by decide : 2 + 1 ≤ _), (by decide : 13 + 9 ≤ _)⟩)
                  dsimp only [Pt.U, Pt.locs, Pt.cells, Pt.slots] at X468 l468 y468 z468 st468 hQ468
                  subst l468 y468 z468
                  obtain ⟨rfl, N468q, K468q, E468q, Fc468q, ta468, kb468, u1468, u2468, u3468, Fv468q, Vv468q⟩ := hQ468
                  have N468 := Fr.app N467 N468q
                  have E_b434_468 := E_b434_464.keep K468q
                  have Zs469 := Nat.le_trans Zs465 K468q.1
                  have hk470 := Nat.le_trans hk466 K468q.1
                  have Kk468 := Kk464.trans K468q (allS (Or.inr sz_b434) all0)
                  obtain ⟨fs, hr, hrun, hended, hEnd⟩ := Stand.leaveW (s := s) (vm₁ := s.vm) X468 hS0 (by exact hk470) (v := some (.ref b434)) (fun h => by rw [Bd.returns] at h; cases h)
                  refine ⟨_, _, pre42 _ ?_, hrun, hended, _, _, rfl, ?_, ?_, hEnd.1, hEnd.2.1, hEnd.2.2.1, hEnd.2.2.2.mono (by decide) (by decide)⟩
                  · show Steps p.tables e below (T464.setTop (mkF m 740 #[.val (.int p1), .val (.int p2), .val (.int p3), .val (.int p4), .unset] [(.ref b437), (.ref b434), (.ref b434)])) _
                    refine st468.trans ?_
                    show Steps p.tables e below (T468.setTop (mkF m 743 #[.val (.int p1), .val (.int p2), .val (.int p3), .val (.int p4), .unset] [(.ref b434)])) _
                    exact retOut X468 hx Bd.returns rfl (Or.inr (Or.inr (Or.inr (Or.inr ⟨rfl, rfl, rfl⟩)))) (hb hby d1_743) hr
                  · show Q1 Z p1 p2 p3 p4 G1 h0 n0 _ T468.heap _
                    exact ⟨_, ([nar .char (67 : Int32), nar .char (104 : Int32), nar .char (97 : Int32), nar .char (108 : Int32), nar .char (108 : Int32), nar .char (101 : Int32), nar .char (110 : Int32), nar .char (103 : Int32), nar .char (101 : Int32)] : List Int32), rfl, N468, Kk468, ta468, kb468, 9, E468q, Fv468q, Fc468q, Vv468q, hp, rfl, by decide⟩
                  · show CHr Z consts_1 s.vm s.heap T468.vm T468.heap
                    rw [hh]
                    exact CHr.trans (CHr.keep Kk468 sf0 HC) (CHv.at (s := s) (vm0 := s.vm) X468 hZ hEL (CHv.keep Kk468 sf0 HC))
def Q16x0 (Z : State) (a1 t0 t1 : Addr) (G1 : Int32) (cs : List Int32) (h0 : Heap) (n0 : Nat) (v : Option Value) (h : Heap) (L : List Loc) : Prop := v = some (.ref t0) ∧ Fr n0 L ∧ Keep h0 h []
set_option maxRecDepth 65536 in
set_option maxHeartbeats 40000000 in
theorem rm16x0 (l : Launch) (Z : State) (a0 : Array Value) (hw : ∀ d ∈ tables_1, d.before a0 Z = true) (ws : List Jvm.Cond) (a1 t0 t1 : Addr) (G1 : Int32) (cs : List Int32) (h0 : Heap) (n0 : Nat) (Z0 : n0 ≤ h0.size) (Ys : own_str Z h0 a1 cs) (St0 : Sta Z h0 "com/example/sekisho/sekisho/registration/Factor" "TOTP" "Lcom/example/sekisho/sekisho/registration/Factor;" (.ref t0)) (St1 : Sta Z h0 "com/example/sekisho/sekisho/registration/Factor" "EMAIL" "Lcom/example/sekisho/sekisho/registration/Factor;" (.ref t1)) (S1 : Sta Z h0 "java/lang/String" "COMPACT_STRINGS" "Z" (.int G1)) (P5 : ¬ (G1 = (0 : Int32))) (hy : own_k0 = cs) :
    MetFree l (⟨"com/example/sekisho/sekisho/registration/FactorOfKeyPinLaw", "expected", "(Ljava/lang/String;)Lcom/example/sekisho/sekisho/registration/Factor;"⟩ : MethodName) (head1 (Jvm.Cond.code (⟨"com/example/sekisho/sekisho/registration/FactorOfKeyPinLaw", "expected", "(Ljava/lang/String;)Lcom/example/sekisho/sekisho/registration/Factor;"⟩ : MethodName) method_3_code 1 (some (.object "com/example/sekisho/sekisho/registration/Factor")) :: ws) ({ frames := 3, cells := 4, slots := 128, locals := 40 } : Room)) (fun a U => a = #[(.ref a1)] ∧ Z.Warmed39 U.vm ∧ U.heap = h0 ∧ CHv Z consts_1 U.vm h0) (fun _ _ _ _ _ => True) (fun _ U o U' => ∃ v L, o = .returned v ∧ Q16x0 Z a1 t0 t1 G1 cs h0 n0 v U'.heap L ∧ CHr Z consts_1 U.vm U.heap U'.vm U'.heap ∧ ReturnedEndW U o U' L ({ frames := 3, cells := 4, slots := 128, locals := 40 } : Room).cells ({ frames := 3, cells := 4, slots := 128, locals := 40 } : Room).slots) := by
  refine MetFree.of_bodySF (plainFor_of_name pn_16) hisR ?_
  intro p e s m args below meth c s₁ Bd hml0 hP hK
  obtain ⟨rfl, hZ, hh, HC⟩ := hP
  have hx := Bd.exec
  have hby := Bd.bytes
  have hml : c.maxLocals = 1 := hml0
  have hown : s.vm.findClass "com/example/sekisho/sekisho/registration/FactorOfKeyPinLaw" = some m.cls := findClass_of_methodNamed Bd.named
  have hnm := (name_of_methodNamed Bd.named Bd.method).1
  have X0 : Stand p l e ({ frames := 3, cells := 4, slots := 128, locals := 40 } : Room) s m #[(.ref a1)] below meth c s₁ [] 0 0 := Stand.of_body Bd
  have e0 : s₁.heap = h0 := by rw [← hh, Bd.state]; rfl
  have N0 := Fr.nil n0
  have pre0 : ∀ t, Steps p.tables e below (s₁.setTop (mkF m 0 #[.val (.ref a1)] [])) t → Steps p.tables e below (s₁.setTop (entryFrame m #[(.ref a1)] 1)) t := fun t k => castTop (ef_16 m a1) k
  have hS0 : s.Since s.vm 0 := (State.WarmedH.refl s).since 0
  have hk0 : 0 ≤ h0.size := Nat.zero_le _
  have hEL : EW Z a0 consts_1 := own_EW hw
  have wS : ∀ a ∈ Bundle.stringAtoms, a.before a0 Z = true := fun d hd => hw d ((by decide +kernel : ∀ d ∈ Bundle.stringAtoms, d ∈ tables_1) d hd)
  have KK0 := Keep.refl h0 []
  have heq : ∀ d ∈ StrChars.Road.wordsEq, d.before a0 Z = true := fun d hd => hw d ((by decide +kernel : ∀ d ∈ StrChars.Road.wordsEq, d ∈ tables_1) d hd)
  obtain ⟨sl1, T1, h1, ki1, bv1, kb1, X1, e1, E1, hSi1, hki1, hZ, hown, Ea1, Fc1, Fv1, Va1, la1, lb1, hC1, hL1, hsf1, st1⟩ := ldcCH (s := s) (vm0 := s.vm) X0 hx hZ hown (hw _ (List.mem_of_getElem? (i := 93) rfl)) wS e0 hS0 hk0 hEL (List.mem_of_getElem? (i := 0) rfl) (CHv.keep KK0 sf0 HC) (vs := (([67, 104, 97, 108, 108, 101, 110, 103, 101, 79, 77, 65, 84, 79, 84, 80] : List Int32).map (fun c => c.toInt8.toInt32)).map Value.int) (z := (16 : Int32)) ⟨by decide +kernel, by decide +kernel⟩ (by decide) (by decide) (g := (mkF m 0 #[.val (.ref a1)] [])) rfl (hb hby d16_0) (n := 64) (by decide +kernel) (by decide) (by decide) (by decide)
  have Y_a1_1 := Ys.ext E1
  have S_java_lang_String_COMPACT_STRINGS_1 := S1.ext E1
  have S_com_example_sekisho_sekisho_registration_Factor_TOTP_1 := St0.ext E1
  have S_com_example_sekisho_sekisho_registration_Factor_EMAIL_1 := St1.ext E1
  have Zs2 := Nat.le_trans Z0 E1.1
  have hk3 := Nat.le_trans hk0 E1.1
  have Kk1 := KK0.ext E1
  have CRn1 := CHr.trans (CHr.keep KK0 sf0 HC) hC1
  have KK1 := Keep.refl h1 ([] : List Addr)
  have pre1 : ∀ t, Steps p.tables e below (T1.setTop (mkF m 2 #[.val (.ref a1)] [(.ref sl1)])) t → Steps p.tables e below (s₁.setTop (entryFrame m #[(.ref a1)] 1)) t := by
    intro t k
    refine pre0 t ?_
    show Steps p.tables e below (s₁.setTop (mkF m 0 #[.val (.ref a1)] [])) _
    refine st1 _ ?_
    exact k
  have Yl1 : own_str Z h1 sl1 own_k0 := ⟨bv1, kb1, 16, Ea1, Fv1, Fc1, Va1, own_hk0, rfl, by decide⟩
  obtain ⟨ta5, ka5, na5, Ea5, Va5, Ca5, Ka5, pa5, la5, ma5⟩ := id Yl1
  obtain ⟨tb5, kb5, nb5, Eb5, Vb5, Cb5, Kb5, pb5, lb5, mb5⟩ := id Y_a1_1
  obtain ⟨cq4, kq4, q4a, q4b, q4c⟩ := isOf hZ e1 Ea5
  obtain ⟨_, _, ⟨T4, L4, k4, n4⟩, -, X4, ⟨Lc4, hQ4, l4, y4, z4⟩, st4⟩ := X1.virtualBack hx (y := (⟨"java/lang/String", "equals", "(Ljava/lang/Object;)Z"⟩ : MethodName)) (z := (⟨"java/lang/String", "equals", "(Ljava/lang/Object;)Z"⟩ : MethodName)) hown (mvT hZ (hw _ (List.mem_of_getElem? (i := 96) rfl))) (mvT hZ (hw _ (List.mem_of_getElem? (i := 61) rfl))) (notFace_of_selects (args := #[]) (mvT hZ (hw _ (List.mem_of_getElem? (i := 63) rfl)))) (mvT hZ (hw _ (List.mem_of_getElem? (i := 63) rfl))) (mvT hZ (hw _ (List.mem_of_getElem? (i := 62) rfl))) (by decide) (StrChars.Road.eqW (W := 0) hZ heq (kI := 4) (hw _ (List.mem_of_getElem? (i := 5) rfl)) Ea5 Va5 Ca5 Ka5 (StrChars.Road.codOf la5 (fun c hc => (pa5 c hc).2)) (own_up pa5) (la5 ▸ ma5) Eb5 Vb5 Cb5 Kb5 (StrChars.Road.codOf lb5 (fun c hc => (pb5 c hc).2)) (own_up pb5) (lb5 ▸ mb5) S_java_lang_String_COMPACT_STRINGS_1 P5 (by decide) (by decide)) q4a q4c (g := (mkF m 3 #[.val (.ref a1)] [(.ref a1), (.ref sl1)])) rfl (by rw [hml]; rfl) (Steps.refl _) (argsL := [(.ref a1)]) (rest := []) (lenOf pd_2 rfl) rfl (by show 2 * 0 + _ ≤ _; exact Nat.le_of_eq rfl) (hb hby d16_3) (fun _ _ => ⟨rfl, e1, (by decide : 2 + 0 ≤ _), (by decide : 68 + 0 ≤ _)⟩)
  dsimp only [Pt.U, Pt.locs, Pt.cells, Pt.slots] at X4 l4 y4 z4 st4 hQ4
  subst l4 y4 z4
  obtain ⟨hv4, rfl, e4q⟩ := hQ4
  obtain rfl := own_eqv hv4
  have N4q : Fr n0 ([] : List Loc) := Fr.nil n0
  have N4 := Fr.app N0 N4q
  have pre2 : ∀ t, Steps p.tables e below (T4.setTop (mkF m 6 #[.val (.ref a1)] [(.int (own_eqs own_k0 cs))])) t → Steps p.tables e below (s₁.setTop (entryFrame m #[(.ref a1)] 1)) t := by
    intro t k
    refine pre1 t ?_
    show Steps p.tables e below (T1.setTop (mkF m 2 #[.val (.ref a1)] [(.ref sl1)])) _
    refine XS.aloadN X1.here hx rfl (hb hby d16_2) rfl rfl ?_
    show Steps p.tables e below (T1.setTop (mkF m 3 #[.val (.ref a1)] [(.ref a1), (.ref sl1)])) _
    refine st4.trans ?_
    exact k
  have pre3 : ∀ t, Steps p.tables e below (T4.setTop (mkF m 9 #[.val (.ref a1)] [])) t → Steps p.tables e below (s₁.setTop (entryFrame m #[(.ref a1)] 1)) t := by
    intro t k
    refine pre2 t ?_
    show Steps p.tables e below (T4.setTop (mkF m 6 #[.val (.ref a1)] [(.int (own_eqs own_k0 cs))])) _
    refine XS.ifNo X4.here hx rfl (hb hby d16_6) rfl ((if0 _ _).trans (feq (own_eq1 hy)).1) ?_
    exact k
  obtain ⟨T6, X6, e6, st6⟩ := getS2 X4 hx hZ hown (host := "") (Or.inl (hw _ (List.mem_of_getElem? (i := 97) rfl))) Via.refl e4q S_com_example_sekisho_sekisho_registration_Factor_TOTP_1 (g := (mkF m 9 #[.val (.ref a1)] [])) rfl (hb hby d16_9)
  obtain ⟨fs, hr, hrun, hended, hEnd⟩ := Stand.leaveW (s := s) (vm₁ := T1.vm) X6 hSi1 (by rw [e6]; exact hki1) (v := some (.ref t0)) (fun h => by rw [Bd.returns] at h; cases h)
  refine ⟨_, _, pre3 _ ?_, hrun, hended, _, _, rfl, ?_, ?_, hEnd.1, hEnd.2.1, hEnd.2.2.1, hEnd.2.2.2.mono (by decide) (by decide)⟩
  · show Steps p.tables e below (T4.setTop (mkF m 9 #[.val (.ref a1)] [])) _
    refine st6 _ ?_
    show Steps p.tables e below (T6.setTop (mkF m 12 #[.val (.ref a1)] [(.ref t0)])) _
    exact retOut X6 hx Bd.returns rfl (Or.inr (Or.inr (Or.inr (Or.inr ⟨rfl, rfl, rfl⟩)))) (hb hby d16_12) hr
  · show Q16x0 Z a1 t0 t1 G1 cs h0 n0 _ T6.heap _
    rw [e6]
    exact ⟨rfl, N4, Kk1⟩
  · show CHr Z consts_1 s.vm s.heap T6.vm T6.heap
    rw [hh, e6]
    exact CHr.trans (CHr.trans CRn1 (CHr.keep KK1 sf0 hC1.1)) (CHv.at (s := s) (vm0 := T1.vm) X6 hZ hEL (CHv.keep KK1 sf0 hC1.1))
def Q16x1 (Z : State) (a1 t0 t1 : Addr) (G1 : Int32) (cs : List Int32) (h0 : Heap) (n0 : Nat) (v : Option Value) (h : Heap) (L : List Loc) : Prop := v = some (.ref t1) ∧ Fr n0 L ∧ Keep h0 h []
set_option maxRecDepth 65536 in
set_option maxHeartbeats 40000000 in
theorem rm16x1 (l : Launch) (Z : State) (a0 : Array Value) (hw : ∀ d ∈ tables_1, d.before a0 Z = true) (ws : List Jvm.Cond) (a1 t0 t1 : Addr) (G1 : Int32) (cs : List Int32) (h0 : Heap) (n0 : Nat) (Z0 : n0 ≤ h0.size) (Ys : own_str Z h0 a1 cs) (St0 : Sta Z h0 "com/example/sekisho/sekisho/registration/Factor" "TOTP" "Lcom/example/sekisho/sekisho/registration/Factor;" (.ref t0)) (St1 : Sta Z h0 "com/example/sekisho/sekisho/registration/Factor" "EMAIL" "Lcom/example/sekisho/sekisho/registration/Factor;" (.ref t1)) (S1 : Sta Z h0 "java/lang/String" "COMPACT_STRINGS" "Z" (.int G1)) (P5 : ¬ (G1 = (0 : Int32))) (hn0 : ¬ own_k0 = cs) (hy : own_k1 = cs) :
    MetFree l (⟨"com/example/sekisho/sekisho/registration/FactorOfKeyPinLaw", "expected", "(Ljava/lang/String;)Lcom/example/sekisho/sekisho/registration/Factor;"⟩ : MethodName) (head1 (Jvm.Cond.code (⟨"com/example/sekisho/sekisho/registration/FactorOfKeyPinLaw", "expected", "(Ljava/lang/String;)Lcom/example/sekisho/sekisho/registration/Factor;"⟩ : MethodName) method_3_code 1 (some (.object "com/example/sekisho/sekisho/registration/Factor")) :: ws) ({ frames := 3, cells := 4, slots := 128, locals := 40 } : Room)) (fun a U => a = #[(.ref a1)] ∧ Z.Warmed39 U.vm ∧ U.heap = h0 ∧ CHv Z consts_1 U.vm h0) (fun _ _ _ _ _ => True) (fun _ U o U' => ∃ v L, o = .returned v ∧ Q16x1 Z a1 t0 t1 G1 cs h0 n0 v U'.heap L ∧ CHr Z consts_1 U.vm U.heap U'.vm U'.heap ∧ ReturnedEndW U o U' L ({ frames := 3, cells := 4, slots := 128, locals := 40 } : Room).cells ({ frames := 3, cells := 4, slots := 128, locals := 40 } : Room).slots) := by
  refine MetFree.of_bodySF (plainFor_of_name pn_16) hisR ?_
  intro p e s m args below meth c s₁ Bd hml0 hP hK
  obtain ⟨rfl, hZ, hh, HC⟩ := hP
  have hx := Bd.exec
  have hby := Bd.bytes
  have hml : c.maxLocals = 1 := hml0
  have hown : s.vm.findClass "com/example/sekisho/sekisho/registration/FactorOfKeyPinLaw" = some m.cls := findClass_of_methodNamed Bd.named
  have hnm := (name_of_methodNamed Bd.named Bd.method).1
  have X0 : Stand p l e ({ frames := 3, cells := 4, slots := 128, locals := 40 } : Room) s m #[(.ref a1)] below meth c s₁ [] 0 0 := Stand.of_body Bd
  have e0 : s₁.heap = h0 := by rw [← hh, Bd.state]; rfl
  have N0 := Fr.nil n0
  have pre0 : ∀ t, Steps p.tables e below (s₁.setTop (mkF m 0 #[.val (.ref a1)] [])) t → Steps p.tables e below (s₁.setTop (entryFrame m #[(.ref a1)] 1)) t := fun t k => castTop (ef_16 m a1) k
  have hS0 : s.Since s.vm 0 := (State.WarmedH.refl s).since 0
  have hk0 : 0 ≤ h0.size := Nat.zero_le _
  have hEL : EW Z a0 consts_1 := own_EW hw
  have wS : ∀ a ∈ Bundle.stringAtoms, a.before a0 Z = true := fun d hd => hw d ((by decide +kernel : ∀ d ∈ Bundle.stringAtoms, d ∈ tables_1) d hd)
  have KK0 := Keep.refl h0 []
  have heq : ∀ d ∈ StrChars.Road.wordsEq, d.before a0 Z = true := fun d hd => hw d ((by decide +kernel : ∀ d ∈ StrChars.Road.wordsEq, d ∈ tables_1) d hd)
  obtain ⟨sl1, T1, h1, ki1, bv1, kb1, X1, e1, E1, hSi1, hki1, hZ, hown, Ea1, Fc1, Fv1, Va1, la1, lb1, hC1, hL1, hsf1, st1⟩ := ldcCH (s := s) (vm0 := s.vm) X0 hx hZ hown (hw _ (List.mem_of_getElem? (i := 93) rfl)) wS e0 hS0 hk0 hEL (List.mem_of_getElem? (i := 0) rfl) (CHv.keep KK0 sf0 HC) (vs := (([67, 104, 97, 108, 108, 101, 110, 103, 101, 79, 77, 65, 84, 79, 84, 80] : List Int32).map (fun c => c.toInt8.toInt32)).map Value.int) (z := (16 : Int32)) ⟨by decide +kernel, by decide +kernel⟩ (by decide) (by decide) (g := (mkF m 0 #[.val (.ref a1)] [])) rfl (hb hby d16_0) (n := 64) (by decide +kernel) (by decide) (by decide) (by decide)
  have Y_a1_1 := Ys.ext E1
  have S_java_lang_String_COMPACT_STRINGS_1 := S1.ext E1
  have S_com_example_sekisho_sekisho_registration_Factor_TOTP_1 := St0.ext E1
  have S_com_example_sekisho_sekisho_registration_Factor_EMAIL_1 := St1.ext E1
  have Zs2 := Nat.le_trans Z0 E1.1
  have hk3 := Nat.le_trans hk0 E1.1
  have Kk1 := KK0.ext E1
  have CRn1 := CHr.trans (CHr.keep KK0 sf0 HC) hC1
  have KK1 := Keep.refl h1 ([] : List Addr)
  have pre1 : ∀ t, Steps p.tables e below (T1.setTop (mkF m 2 #[.val (.ref a1)] [(.ref sl1)])) t → Steps p.tables e below (s₁.setTop (entryFrame m #[(.ref a1)] 1)) t := by
    intro t k
    refine pre0 t ?_
    show Steps p.tables e below (s₁.setTop (mkF m 0 #[.val (.ref a1)] [])) _
    refine st1 _ ?_
    exact k
  have Yl1 : own_str Z h1 sl1 own_k0 := ⟨bv1, kb1, 16, Ea1, Fv1, Fc1, Va1, own_hk0, rfl, by decide⟩
  obtain ⟨ta5, ka5, na5, Ea5, Va5, Ca5, Ka5, pa5, la5, ma5⟩ := id Yl1
  obtain ⟨tb5, kb5, nb5, Eb5, Vb5, Cb5, Kb5, pb5, lb5, mb5⟩ := id Y_a1_1
  obtain ⟨cq4, kq4, q4a, q4b, q4c⟩ := isOf hZ e1 Ea5
  obtain ⟨_, _, ⟨T4, L4, k4, n4⟩, -, X4, ⟨Lc4, hQ4, l4, y4, z4⟩, st4⟩ := X1.virtualBack hx (y := (⟨"java/lang/String", "equals", "(Ljava/lang/Object;)Z"⟩ : MethodName)) (z := (⟨"java/lang/String", "equals", "(Ljava/lang/Object;)Z"⟩ : MethodName)) hown (mvT hZ (hw _ (List.mem_of_getElem? (i := 96) rfl))) (mvT hZ (hw _ (List.mem_of_getElem? (i := 61) rfl))) (notFace_of_selects (args := #[]) (mvT hZ (hw _ (List.mem_of_getElem? (i := 63) rfl)))) (mvT hZ (hw _ (List.mem_of_getElem? (i := 63) rfl))) (mvT hZ (hw _ (List.mem_of_getElem? (i := 62) rfl))) (by decide) (StrChars.Road.eqW (W := 0) hZ heq (kI := 4) (hw _ (List.mem_of_getElem? (i := 5) rfl)) Ea5 Va5 Ca5 Ka5 (StrChars.Road.codOf la5 (fun c hc => (pa5 c hc).2)) (own_up pa5) (la5 ▸ ma5) Eb5 Vb5 Cb5 Kb5 (StrChars.Road.codOf lb5 (fun c hc => (pb5 c hc).2)) (own_up pb5) (lb5 ▸ mb5) S_java_lang_String_COMPACT_STRINGS_1 P5 (by decide) (by decide)) q4a q4c (g := (mkF m 3 #[.val (.ref a1)] [(.ref a1), (.ref sl1)])) rfl (by rw [hml]; rfl) (Steps.refl _) (argsL := [(.ref a1)]) (rest := []) (lenOf pd_2 rfl) rfl (by show 2 * 0 + _ ≤ _; exact Nat.le_of_eq rfl) (hb hby d16_3) (fun _ _ => ⟨rfl, e1, (by decide : 2 + 0 ≤ _), (by decide : 68 + 0 ≤ _)⟩)
  dsimp only [Pt.U, Pt.locs, Pt.cells, Pt.slots] at X4 l4 y4 z4 st4 hQ4
  subst l4 y4 z4
  obtain ⟨hv4, rfl, e4q⟩ := hQ4
  obtain rfl := own_eqv hv4
  have N4q : Fr n0 ([] : List Loc) := Fr.nil n0
  have N4 := Fr.app N0 N4q
  have pre2 : ∀ t, Steps p.tables e below (T4.setTop (mkF m 6 #[.val (.ref a1)] [(.int (own_eqs own_k0 cs))])) t → Steps p.tables e below (s₁.setTop (entryFrame m #[(.ref a1)] 1)) t := by
    intro t k
    refine pre1 t ?_
    show Steps p.tables e below (T1.setTop (mkF m 2 #[.val (.ref a1)] [(.ref sl1)])) _
    refine XS.aloadN X1.here hx rfl (hb hby d16_2) rfl rfl ?_
    show Steps p.tables e below (T1.setTop (mkF m 3 #[.val (.ref a1)] [(.ref a1), (.ref sl1)])) _
    refine st4.trans ?_
    exact k
  have pre3 : ∀ t, Steps p.tables e below (T4.setTop (mkF m 13 #[.val (.ref a1)] [])) t → Steps p.tables e below (s₁.setTop (entryFrame m #[(.ref a1)] 1)) t := by
    intro t k
    refine pre2 t ?_
    show Steps p.tables e below (T4.setTop (mkF m 6 #[.val (.ref a1)] [(.int (own_eqs own_k0 cs))])) _
    refine XS.ifYes X4.here hx rfl (pc0 := 6) (pc' := 13) rfl (hb hby d16_6) rfl ((if0 _ _).trans (teq (own_eq0 hn0)).1) (by decide) (by decide) ?_
    exact k
  obtain ⟨sl6, T6, h6, ki6, bv6, kb6, X6, e6, E6, hSi6, hki6, hZ, hown, Ea6, Fc6, Fv6, Va6, la6, lb6, hC6, hL6, hsf6, st6⟩ := ldcCH (s := s) (vm0 := T1.vm) X4 hx hZ hown (hw _ (List.mem_of_getElem? (i := 98) rfl)) wS e4q hSi1 hki1 hEL (List.mem_of_getElem? (i := 1) rfl) (CHv.keep KK1 sf0 hC1.1) (vs := (([67, 104, 97, 108, 108, 101, 110, 103, 101, 69, 109, 97, 105, 108] : List Int32).map (fun c => c.toInt8.toInt32)).map Value.int) (z := (14 : Int32)) ⟨by decide +kernel, by decide +kernel⟩ (by decide) (by decide) (g := (mkF m 13 #[.val (.ref a1)] [])) rfl (hb hby d16_13) (n := 56) (by decide +kernel) (by decide) (by decide) (by decide)
  have Y_a1_6 := Y_a1_1.ext E6
  have S_java_lang_String_COMPACT_STRINGS_6 := S_java_lang_String_COMPACT_STRINGS_1.ext E6
  have S_com_example_sekisho_sekisho_registration_Factor_TOTP_6 := S_com_example_sekisho_sekisho_registration_Factor_TOTP_1.ext E6
  have S_com_example_sekisho_sekisho_registration_Factor_EMAIL_6 := S_com_example_sekisho_sekisho_registration_Factor_EMAIL_1.ext E6
  have Y_sl1_6 := Yl1.ext E6
  have E_sl1_6 := Ea5.ext E6
  have Zs7 := Nat.le_trans Zs2 E6.1
  have hk8 := Nat.le_trans hki1 E6.1
  have Kk6 := KK1.ext E6
  have Kz6 := Kk1.ext E6
  have CRn6 := CHr.trans (CHr.trans CRn1 (CHr.keep KK1 sf0 hC1.1)) hC6
  have KK6 := Keep.refl h6 ([] : List Addr)
  have pre4 : ∀ t, Steps p.tables e below (T6.setTop (mkF m 15 #[.val (.ref a1)] [(.ref sl6)])) t → Steps p.tables e below (s₁.setTop (entryFrame m #[(.ref a1)] 1)) t := by
    intro t k
    refine pre3 t ?_
    show Steps p.tables e below (T4.setTop (mkF m 13 #[.val (.ref a1)] [])) _
    refine st6 _ ?_
    exact k
  have Yl6 : own_str Z h6 sl6 own_k1 := ⟨bv6, kb6, 14, Ea6, Fv6, Fc6, Va6, own_hk1, rfl, by decide⟩
  obtain ⟨ta10, ka10, na10, Ea10, Va10, Ca10, Ka10, pa10, la10, ma10⟩ := id Yl6
  obtain ⟨tb10, kb10, nb10, Eb10, Vb10, Cb10, Kb10, pb10, lb10, mb10⟩ := id Y_a1_6
  obtain ⟨cq9, kq9, q9a, q9b, q9c⟩ := isOf hZ e6 Ea10
  obtain ⟨_, _, ⟨T9, L9, k9, n9⟩, -, X9, ⟨Lc9, hQ9, l9, y9, z9⟩, st9⟩ := X6.virtualBack hx (y := (⟨"java/lang/String", "equals", "(Ljava/lang/Object;)Z"⟩ : MethodName)) (z := (⟨"java/lang/String", "equals", "(Ljava/lang/Object;)Z"⟩ : MethodName)) hown (mvT hZ (hw _ (List.mem_of_getElem? (i := 96) rfl))) (mvT hZ (hw _ (List.mem_of_getElem? (i := 61) rfl))) (notFace_of_selects (args := #[]) (mvT hZ (hw _ (List.mem_of_getElem? (i := 63) rfl)))) (mvT hZ (hw _ (List.mem_of_getElem? (i := 63) rfl))) (mvT hZ (hw _ (List.mem_of_getElem? (i := 62) rfl))) (by decide) (StrChars.Road.eqW (W := 0) hZ heq (kI := 4) (hw _ (List.mem_of_getElem? (i := 5) rfl)) Ea10 Va10 Ca10 Ka10 (StrChars.Road.codOf la10 (fun c hc => (pa10 c hc).2)) (own_up pa10) (la10 ▸ ma10) Eb10 Vb10 Cb10 Kb10 (StrChars.Road.codOf lb10 (fun c hc => (pb10 c hc).2)) (own_up pb10) (lb10 ▸ mb10) S_java_lang_String_COMPACT_STRINGS_6 P5 (by decide) (by decide)) q9a q9c (g := (mkF m 16 #[.val (.ref a1)] [(.ref a1), (.ref sl6)])) rfl (by rw [hml]; rfl) (Steps.refl _) (argsL := [(.ref a1)]) (rest := []) (lenOf pd_2 rfl) rfl (by show 2 * 0 + _ ≤ _; exact Nat.le_of_eq rfl) (hb hby d16_16) (fun _ _ => ⟨rfl, e6, (by decide : 4 + 0 ≤ _), (by decide : 128 + 0 ≤ _)⟩)
  dsimp only [Pt.U, Pt.locs, Pt.cells, Pt.slots] at X9 l9 y9 z9 st9 hQ9
  subst l9 y9 z9
  obtain ⟨hv9, rfl, e9q⟩ := hQ9
  obtain rfl := own_eqv hv9
  have N9q : Fr n0 ([] : List Loc) := Fr.nil n0
  have N9 := Fr.app N4 N9q
  have pre5 : ∀ t, Steps p.tables e below (T9.setTop (mkF m 19 #[.val (.ref a1)] [(.int (own_eqs own_k1 cs))])) t → Steps p.tables e below (s₁.setTop (entryFrame m #[(.ref a1)] 1)) t := by
    intro t k
    refine pre4 t ?_
    show Steps p.tables e below (T6.setTop (mkF m 15 #[.val (.ref a1)] [(.ref sl6)])) _
    refine XS.aloadN X6.here hx rfl (hb hby d16_15) rfl rfl ?_
    show Steps p.tables e below (T6.setTop (mkF m 16 #[.val (.ref a1)] [(.ref a1), (.ref sl6)])) _
    refine st9.trans ?_
    exact k
  have pre6 : ∀ t, Steps p.tables e below (T9.setTop (mkF m 22 #[.val (.ref a1)] [])) t → Steps p.tables e below (s₁.setTop (entryFrame m #[(.ref a1)] 1)) t := by
    intro t k
    refine pre5 t ?_
    show Steps p.tables e below (T9.setTop (mkF m 19 #[.val (.ref a1)] [(.int (own_eqs own_k1 cs))])) _
    refine XS.ifNo X9.here hx rfl (hb hby d16_19) rfl ((if0 _ _).trans (feq (own_eq1 hy)).1) ?_
    exact k
  obtain ⟨T11, X11, e11, st11⟩ := getS2 X9 hx hZ hown (host := "") (Or.inl (hw _ (List.mem_of_getElem? (i := 99) rfl))) Via.refl e9q S_com_example_sekisho_sekisho_registration_Factor_EMAIL_6 (g := (mkF m 22 #[.val (.ref a1)] [])) rfl (hb hby d16_22)
  obtain ⟨fs, hr, hrun, hended, hEnd⟩ := Stand.leaveW (s := s) (vm₁ := T6.vm) X11 hSi6 (by rw [e11]; exact hki6) (v := some (.ref t1)) (fun h => by rw [Bd.returns] at h; cases h)
  refine ⟨_, _, pre6 _ ?_, hrun, hended, _, _, rfl, ?_, ?_, hEnd.1, hEnd.2.1, hEnd.2.2.1, hEnd.2.2.2.mono (by decide) (by decide)⟩
  · show Steps p.tables e below (T9.setTop (mkF m 22 #[.val (.ref a1)] [])) _
    refine st11 _ ?_
    show Steps p.tables e below (T11.setTop (mkF m 25 #[.val (.ref a1)] [(.ref t1)])) _
    exact retOut X11 hx Bd.returns rfl (Or.inr (Or.inr (Or.inr (Or.inr ⟨rfl, rfl, rfl⟩)))) (hb hby d16_25) hr
  · show Q16x1 Z a1 t0 t1 G1 cs h0 n0 _ T11.heap _
    rw [e11]
    exact ⟨rfl, N9, Kz6⟩
  · show CHr Z consts_1 s.vm s.heap T11.vm T11.heap
    rw [hh, e11]
    exact CHr.trans (CHr.trans CRn6 (CHr.keep KK6 sf0 hC6.1)) (CHv.at (s := s) (vm0 := T6.vm) X11 hZ hEL (CHv.keep KK6 sf0 hC6.1))
def Q16x2 (Z : State) (a1 t0 t1 : Addr) (G1 : Int32) (cs : List Int32) (h0 : Heap) (n0 : Nat) (v : Option Value) (h : Heap) (L : List Loc) : Prop := v = some .null ∧ Fr n0 L ∧ Keep h0 h []
set_option maxRecDepth 65536 in
set_option maxHeartbeats 40000000 in
theorem rm16x2 (l : Launch) (Z : State) (a0 : Array Value) (hw : ∀ d ∈ tables_1, d.before a0 Z = true) (ws : List Jvm.Cond) (a1 t0 t1 : Addr) (G1 : Int32) (cs : List Int32) (h0 : Heap) (n0 : Nat) (Z0 : n0 ≤ h0.size) (Ys : own_str Z h0 a1 cs) (St0 : Sta Z h0 "com/example/sekisho/sekisho/registration/Factor" "TOTP" "Lcom/example/sekisho/sekisho/registration/Factor;" (.ref t0)) (St1 : Sta Z h0 "com/example/sekisho/sekisho/registration/Factor" "EMAIL" "Lcom/example/sekisho/sekisho/registration/Factor;" (.ref t1)) (S1 : Sta Z h0 "java/lang/String" "COMPACT_STRINGS" "Z" (.int G1)) (P5 : ¬ (G1 = (0 : Int32))) (hn0 : ¬ own_k0 = cs) (hn1 : ¬ own_k1 = cs) :
    MetFree l (⟨"com/example/sekisho/sekisho/registration/FactorOfKeyPinLaw", "expected", "(Ljava/lang/String;)Lcom/example/sekisho/sekisho/registration/Factor;"⟩ : MethodName) (head1 (Jvm.Cond.code (⟨"com/example/sekisho/sekisho/registration/FactorOfKeyPinLaw", "expected", "(Ljava/lang/String;)Lcom/example/sekisho/sekisho/registration/Factor;"⟩ : MethodName) method_3_code 1 (some (.object "com/example/sekisho/sekisho/registration/Factor")) :: ws) ({ frames := 3, cells := 4, slots := 128, locals := 40 } : Room)) (fun a U => a = #[(.ref a1)] ∧ Z.Warmed39 U.vm ∧ U.heap = h0 ∧ CHv Z consts_1 U.vm h0) (fun _ _ _ _ _ => True) (fun _ U o U' => ∃ v L, o = .returned v ∧ Q16x2 Z a1 t0 t1 G1 cs h0 n0 v U'.heap L ∧ CHr Z consts_1 U.vm U.heap U'.vm U'.heap ∧ ReturnedEndW U o U' L ({ frames := 3, cells := 4, slots := 128, locals := 40 } : Room).cells ({ frames := 3, cells := 4, slots := 128, locals := 40 } : Room).slots) := by
  refine MetFree.of_bodySF (plainFor_of_name pn_16) hisR ?_
  intro p e s m args below meth c s₁ Bd hml0 hP hK
  obtain ⟨rfl, hZ, hh, HC⟩ := hP
  have hx := Bd.exec
  have hby := Bd.bytes
  have hml : c.maxLocals = 1 := hml0
  have hown : s.vm.findClass "com/example/sekisho/sekisho/registration/FactorOfKeyPinLaw" = some m.cls := findClass_of_methodNamed Bd.named
  have hnm := (name_of_methodNamed Bd.named Bd.method).1
  have X0 : Stand p l e ({ frames := 3, cells := 4, slots := 128, locals := 40 } : Room) s m #[(.ref a1)] below meth c s₁ [] 0 0 := Stand.of_body Bd
  have e0 : s₁.heap = h0 := by rw [← hh, Bd.state]; rfl
  have N0 := Fr.nil n0
  have pre0 : ∀ t, Steps p.tables e below (s₁.setTop (mkF m 0 #[.val (.ref a1)] [])) t → Steps p.tables e below (s₁.setTop (entryFrame m #[(.ref a1)] 1)) t := fun t k => castTop (ef_16 m a1) k
  have hS0 : s.Since s.vm 0 := (State.WarmedH.refl s).since 0
  have hk0 : 0 ≤ h0.size := Nat.zero_le _
  have hEL : EW Z a0 consts_1 := own_EW hw
  have wS : ∀ a ∈ Bundle.stringAtoms, a.before a0 Z = true := fun d hd => hw d ((by decide +kernel : ∀ d ∈ Bundle.stringAtoms, d ∈ tables_1) d hd)
  have KK0 := Keep.refl h0 []
  have heq : ∀ d ∈ StrChars.Road.wordsEq, d.before a0 Z = true := fun d hd => hw d ((by decide +kernel : ∀ d ∈ StrChars.Road.wordsEq, d ∈ tables_1) d hd)
  obtain ⟨sl1, T1, h1, ki1, bv1, kb1, X1, e1, E1, hSi1, hki1, hZ, hown, Ea1, Fc1, Fv1, Va1, la1, lb1, hC1, hL1, hsf1, st1⟩ := ldcCH (s := s) (vm0 := s.vm) X0 hx hZ hown (hw _ (List.mem_of_getElem? (i := 93) rfl)) wS e0 hS0 hk0 hEL (List.mem_of_getElem? (i := 0) rfl) (CHv.keep KK0 sf0 HC) (vs := (([67, 104, 97, 108, 108, 101, 110, 103, 101, 79, 77, 65, 84, 79, 84, 80] : List Int32).map (fun c => c.toInt8.toInt32)).map Value.int) (z := (16 : Int32)) ⟨by decide +kernel, by decide +kernel⟩ (by decide) (by decide) (g := (mkF m 0 #[.val (.ref a1)] [])) rfl (hb hby d16_0) (n := 64) (by decide +kernel) (by decide) (by decide) (by decide)
  have Y_a1_1 := Ys.ext E1
  have S_java_lang_String_COMPACT_STRINGS_1 := S1.ext E1
  have S_com_example_sekisho_sekisho_registration_Factor_TOTP_1 := St0.ext E1
  have S_com_example_sekisho_sekisho_registration_Factor_EMAIL_1 := St1.ext E1
  have Zs2 := Nat.le_trans Z0 E1.1
  have hk3 := Nat.le_trans hk0 E1.1
  have Kk1 := KK0.ext E1
  have CRn1 := CHr.trans (CHr.keep KK0 sf0 HC) hC1
  have KK1 := Keep.refl h1 ([] : List Addr)
  have pre1 : ∀ t, Steps p.tables e below (T1.setTop (mkF m 2 #[.val (.ref a1)] [(.ref sl1)])) t → Steps p.tables e below (s₁.setTop (entryFrame m #[(.ref a1)] 1)) t := by
    intro t k
    refine pre0 t ?_
    show Steps p.tables e below (s₁.setTop (mkF m 0 #[.val (.ref a1)] [])) _
    refine st1 _ ?_
    exact k
  have Yl1 : own_str Z h1 sl1 own_k0 := ⟨bv1, kb1, 16, Ea1, Fv1, Fc1, Va1, own_hk0, rfl, by decide⟩
  obtain ⟨ta5, ka5, na5, Ea5, Va5, Ca5, Ka5, pa5, la5, ma5⟩ := id Yl1
  obtain ⟨tb5, kb5, nb5, Eb5, Vb5, Cb5, Kb5, pb5, lb5, mb5⟩ := id Y_a1_1
  obtain ⟨cq4, kq4, q4a, q4b, q4c⟩ := isOf hZ e1 Ea5
  obtain ⟨_, _, ⟨T4, L4, k4, n4⟩, -, X4, ⟨Lc4, hQ4, l4, y4, z4⟩, st4⟩ := X1.virtualBack hx (y := (⟨"java/lang/String", "equals", "(Ljava/lang/Object;)Z"⟩ : MethodName)) (z := (⟨"java/lang/String", "equals", "(Ljava/lang/Object;)Z"⟩ : MethodName)) hown (mvT hZ (hw _ (List.mem_of_getElem? (i := 96) rfl))) (mvT hZ (hw _ (List.mem_of_getElem? (i := 61) rfl))) (notFace_of_selects (args := #[]) (mvT hZ (hw _ (List.mem_of_getElem? (i := 63) rfl)))) (mvT hZ (hw _ (List.mem_of_getElem? (i := 63) rfl))) (mvT hZ (hw _ (List.mem_of_getElem? (i := 62) rfl))) (by decide) (StrChars.Road.eqW (W := 0) hZ heq (kI := 4) (hw _ (List.mem_of_getElem? (i := 5) rfl)) Ea5 Va5 Ca5 Ka5 (StrChars.Road.codOf la5 (fun c hc => (pa5 c hc).2)) (own_up pa5) (la5 ▸ ma5) Eb5 Vb5 Cb5 Kb5 (StrChars.Road.codOf lb5 (fun c hc => (pb5 c hc).2)) (own_up pb5) (lb5 ▸ mb5) S_java_lang_String_COMPACT_STRINGS_1 P5 (by decide) (by decide)) q4a q4c (g := (mkF m 3 #[.val (.ref a1)] [(.ref a1), (.ref sl1)])) rfl (by rw [hml]; rfl) (Steps.refl _) (argsL := [(.ref a1)]) (rest := []) (lenOf pd_2 rfl) rfl (by show 2 * 0 + _ ≤ _; exact Nat.le_of_eq rfl) (hb hby d16_3) (fun _ _ => ⟨rfl, e1, (by decide : 2 + 0 ≤ _), (by decide : 68 + 0 ≤ _)⟩)
  dsimp only [Pt.U, Pt.locs, Pt.cells, Pt.slots] at X4 l4 y4 z4 st4 hQ4
  subst l4 y4 z4
  obtain ⟨hv4, rfl, e4q⟩ := hQ4
  obtain rfl := own_eqv hv4
  have N4q : Fr n0 ([] : List Loc) := Fr.nil n0
  have N4 := Fr.app N0 N4q
  have pre2 : ∀ t, Steps p.tables e below (T4.setTop (mkF m 6 #[.val (.ref a1)] [(.int (own_eqs own_k0 cs))])) t → Steps p.tables e below (s₁.setTop (entryFrame m #[(.ref a1)] 1)) t := by
    intro t k
    refine pre1 t ?_
    show Steps p.tables e below (T1.setTop (mkF m 2 #[.val (.ref a1)] [(.ref sl1)])) _
    refine XS.aloadN X1.here hx rfl (hb hby d16_2) rfl rfl ?_
    show Steps p.tables e below (T1.setTop (mkF m 3 #[.val (.ref a1)] [(.ref a1), (.ref sl1)])) _
    refine st4.trans ?_
    exact k
  have pre3 : ∀ t, Steps p.tables e below (T4.setTop (mkF m 13 #[.val (.ref a1)] [])) t → Steps p.tables e below (s₁.setTop (entryFrame m #[(.ref a1)] 1)) t := by
    intro t k
    refine pre2 t ?_
    show Steps p.tables e below (T4.setTop (mkF m 6 #[.val (.ref a1)] [(.int (own_eqs own_k0 cs))])) _
    refine XS.ifYes X4.here hx rfl (pc0 := 6) (pc' := 13) rfl (hb hby d16_6) rfl ((if0 _ _).trans (teq (own_eq0 hn0)).1) (by decide) (by decide) ?_
    exact k
  obtain ⟨sl6, T6, h6, ki6, bv6, kb6, X6, e6, E6, hSi6, hki6, hZ, hown, Ea6, Fc6, Fv6, Va6, la6, lb6, hC6, hL6, hsf6, st6⟩ := ldcCH (s := s) (vm0 := T1.vm) X4 hx hZ hown (hw _ (List.mem_of_getElem? (i := 98) rfl)) wS e4q hSi1 hki1 hEL (List.mem_of_getElem? (i := 1) rfl) (CHv.keep KK1 sf0 hC1.1) (vs := (([67, 104, 97, 108, 108, 101, 110, 103, 101, 69, 109, 97, 105, 108] : List Int32).map (fun c => c.toInt8.toInt32)).map Value.int) (z := (14 : Int32)) ⟨by decide +kernel, by decide +kernel⟩ (by decide) (by decide) (g := (mkF m 13 #[.val (.ref a1)] [])) rfl (hb hby d16_13) (n := 56) (by decide +kernel) (by decide) (by decide) (by decide)
  have Y_a1_6 := Y_a1_1.ext E6
  have S_java_lang_String_COMPACT_STRINGS_6 := S_java_lang_String_COMPACT_STRINGS_1.ext E6
  have S_com_example_sekisho_sekisho_registration_Factor_TOTP_6 := S_com_example_sekisho_sekisho_registration_Factor_TOTP_1.ext E6
  have S_com_example_sekisho_sekisho_registration_Factor_EMAIL_6 := S_com_example_sekisho_sekisho_registration_Factor_EMAIL_1.ext E6
  have Y_sl1_6 := Yl1.ext E6
  have E_sl1_6 := Ea5.ext E6
  have Zs7 := Nat.le_trans Zs2 E6.1
  have hk8 := Nat.le_trans hki1 E6.1
  have Kk6 := KK1.ext E6
  have Kz6 := Kk1.ext E6
  have CRn6 := CHr.trans (CHr.trans CRn1 (CHr.keep KK1 sf0 hC1.1)) hC6
  have KK6 := Keep.refl h6 ([] : List Addr)
  have pre4 : ∀ t, Steps p.tables e below (T6.setTop (mkF m 15 #[.val (.ref a1)] [(.ref sl6)])) t → Steps p.tables e below (s₁.setTop (entryFrame m #[(.ref a1)] 1)) t := by
    intro t k
    refine pre3 t ?_
    show Steps p.tables e below (T4.setTop (mkF m 13 #[.val (.ref a1)] [])) _
    refine st6 _ ?_
    exact k
  have Yl6 : own_str Z h6 sl6 own_k1 := ⟨bv6, kb6, 14, Ea6, Fv6, Fc6, Va6, own_hk1, rfl, by decide⟩
  obtain ⟨ta10, ka10, na10, Ea10, Va10, Ca10, Ka10, pa10, la10, ma10⟩ := id Yl6
  obtain ⟨tb10, kb10, nb10, Eb10, Vb10, Cb10, Kb10, pb10, lb10, mb10⟩ := id Y_a1_6
  obtain ⟨cq9, kq9, q9a, q9b, q9c⟩ := isOf hZ e6 Ea10
  obtain ⟨_, _, ⟨T9, L9, k9, n9⟩, -, X9, ⟨Lc9, hQ9, l9, y9, z9⟩, st9⟩ := X6.virtualBack hx (y := (⟨"java/lang/String", "equals", "(Ljava/lang/Object;)Z"⟩ : MethodName)) (z := (⟨"java/lang/String", "equals", "(Ljava/lang/Object;)Z"⟩ : MethodName)) hown (mvT hZ (hw _ (List.mem_of_getElem? (i := 96) rfl))) (mvT hZ (hw _ (List.mem_of_getElem? (i := 61) rfl))) (notFace_of_selects (args := #[]) (mvT hZ (hw _ (List.mem_of_getElem? (i := 63) rfl)))) (mvT hZ (hw _ (List.mem_of_getElem? (i := 63) rfl))) (mvT hZ (hw _ (List.mem_of_getElem? (i := 62) rfl))) (by decide) (StrChars.Road.eqW (W := 0) hZ heq (kI := 4) (hw _ (List.mem_of_getElem? (i := 5) rfl)) Ea10 Va10 Ca10 Ka10 (StrChars.Road.codOf la10 (fun c hc => (pa10 c hc).2)) (own_up pa10) (la10 ▸ ma10) Eb10 Vb10 Cb10 Kb10 (StrChars.Road.codOf lb10 (fun c hc => (pb10 c hc).2)) (own_up pb10) (lb10 ▸ mb10) S_java_lang_String_COMPACT_STRINGS_6 P5 (by decide) (by decide)) q9a q9c (g := (mkF m 16 #[.val (.ref a1)] [(.ref a1), (.ref sl6)])) rfl (by rw [hml]; rfl) (Steps.refl _) (argsL := [(.ref a1)]) (rest := []) (lenOf pd_2 rfl) rfl (by show 2 * 0 + _ ≤ _; exact Nat.le_of_eq rfl) (hb hby d16_16) (fun _ _ => ⟨rfl, e6, (by decide : 4 + 0 ≤ _), (by decide : 128 + 0 ≤ _)⟩)
  dsimp only [Pt.U, Pt.locs, Pt.cells, Pt.slots] at X9 l9 y9 z9 st9 hQ9
  subst l9 y9 z9
  obtain ⟨hv9, rfl, e9q⟩ := hQ9
  obtain rfl := own_eqv hv9
  have N9q : Fr n0 ([] : List Loc) := Fr.nil n0
  have N9 := Fr.app N4 N9q
  have pre5 : ∀ t, Steps p.tables e below (T9.setTop (mkF m 19 #[.val (.ref a1)] [(.int (own_eqs own_k1 cs))])) t → Steps p.tables e below (s₁.setTop (entryFrame m #[(.ref a1)] 1)) t := by
    intro t k
    refine pre4 t ?_
    show Steps p.tables e below (T6.setTop (mkF m 15 #[.val (.ref a1)] [(.ref sl6)])) _
    refine XS.aloadN X6.here hx rfl (hb hby d16_15) rfl rfl ?_
    show Steps p.tables e below (T6.setTop (mkF m 16 #[.val (.ref a1)] [(.ref a1), (.ref sl6)])) _
    refine st9.trans ?_
    exact k
  have pre6 : ∀ t, Steps p.tables e below (T9.setTop (mkF m 26 #[.val (.ref a1)] [])) t → Steps p.tables e below (s₁.setTop (entryFrame m #[(.ref a1)] 1)) t := by
    intro t k
    refine pre5 t ?_
    show Steps p.tables e below (T9.setTop (mkF m 19 #[.val (.ref a1)] [(.int (own_eqs own_k1 cs))])) _
    refine XS.ifYes X9.here hx rfl (pc0 := 19) (pc' := 26) rfl (hb hby d16_19) rfl ((if0 _ _).trans (teq (own_eq0 hn1)).1) (by decide) (by decide) ?_
    exact k
  obtain ⟨fs, hr, hrun, hended, hEnd⟩ := Stand.leaveW (s := s) (vm₁ := T6.vm) X9 hSi6 (by rw [e9q]; exact hki6) (v := some .null) (fun h => by rw [Bd.returns] at h; cases h)
  refine ⟨_, _, pre6 _ ?_, hrun, hended, _, _, rfl, ?_, ?_, hEnd.1, hEnd.2.1, hEnd.2.2.1, hEnd.2.2.2.mono (by decide) (by decide)⟩
  · show Steps p.tables e below (T9.setTop (mkF m 26 #[.val (.ref a1)] [])) _
    refine XS.aconstNull X9.here hx rfl (hb hby d16_26) ?_
    show Steps p.tables e below (T9.setTop (mkF m 27 #[.val (.ref a1)] [.null])) _
    exact retOut X9 hx Bd.returns rfl (Or.inr (Or.inr (Or.inr (Or.inr ⟨rfl, rfl, rfl⟩)))) (hb hby d16_27) hr
  · show Q16x2 Z a1 t0 t1 G1 cs h0 n0 _ T9.heap _
    rw [e9q]
    exact ⟨rfl, N9, Kz6⟩
  · show CHr Z consts_1 s.vm s.heap T9.vm T9.heap
    rw [hh, e9q]
    exact CHr.trans (CHr.trans CRn6 (CHr.keep KK6 sf0 hC6.1)) (CHv.at (s := s) (vm0 := T6.vm) X9 hZ hEL (CHv.keep KK6 sf0 hC6.1))
def Q0 (Z : State) (p0 p1 p2 : Int32) (va : Addr) (cl : Cell) (t0 t1 k0 k1 : Addr) (em : Addr) (G1 : Int32) (h0 : Heap) (n0 : Nat) (v : Option Value) (h : Heap) (L : List Loc) : Prop := v = some (.int 1) ∧ Fr n0 L
set_option maxRecDepth 65536 in
set_option maxHeartbeats 40000000 in
theorem rm0 (l : Launch) (Z : State) (a0 : Array Value) (hw : ∀ d ∈ tables_1, d.before a0 Z = true) (ws : List Jvm.Cond) (p0 p1 p2 : Int32) (va : Addr) (cl : Cell) (t0 t1 k0 k1 : Addr) (em : Addr) (G1 : Int32) (h0 : Heap) (n0 : Nat) (Z0 : n0 ≤ h0.size) (SV : Sta Z h0 "com/example/sekisho/sekisho/registration/Factor" "$VALUES" "[Lcom/example/sekisho/sekisho/registration/Factor;" (.ref va)) (Ar : Arr Z h0 va cl (.object "com/example/sekisho/sekisho/registration/Factor")) (Eva : Exa Z h0 va "[Lcom/example/sekisho/sekisho/registration/Factor;") (Fc : FitC Z cl) (Sz : cl.slots.size = 2) (hs0 : cl.slots[0]? = some (.ref t0)) (hs1 : cl.slots[1]? = some (.ref t1)) (Fk0 : Fld Z h0 t0 "com/example/sekisho/sekisho/registration/Factor" "key" "Ljava/lang/String;" (.ref k0)) (Fk1 : Fld Z h0 t1 "com/example/sekisho/sekisho/registration/Factor" "key" "Ljava/lang/String;" (.ref k1)) (Y0 : own_str Z h0 k0 own_k0) (Y1 : own_str Z h0 k1 own_k1) (SE : Sta Z h0 "java/util/Optional" "EMPTY" "Ljava/util/Optional;" (.ref em)) (EE : Exa Z h0 em "java/util/Optional") (FE : Fld Z h0 em "java/util/Optional" "value" "Ljava/lang/Object;" .null) (S1 : Sta Z h0 "java/lang/String" "COMPACT_STRINGS" "Z" (.int G1)) (P5 : ¬ (G1 = (0 : Int32))) (St0 : Sta Z h0 "com/example/sekisho/sekisho/registration/Factor" "TOTP" "Lcom/example/sekisho/sekisho/registration/Factor;" (.ref t0)) (St1 : Sta Z h0 "com/example/sekisho/sekisho/registration/Factor" "EMAIL" "Lcom/example/sekisho/sekisho/registration/Factor;" (.ref t1)) (Et0 : Exa Z h0 t0 "com/example/sekisho/sekisho/registration/Factor") (Et1 : Exa Z h0 t1 "com/example/sekisho/sekisho/registration/Factor") :
    MetFree l x (head1 (Jvm.Cond.code x code maxLocals ret :: ws) room_1) (fun a U => a = #[(.int p0), (.int p1), (.int p2)] ∧ Z.Warmed39 U.vm ∧ U.heap = h0 ∧ CHv Z consts_1 U.vm h0) (fun _ _ _ _ _ => True) (fun _ U o U' => ∃ v L, o = .returned v ∧ Q0 Z p0 p1 p2 va cl t0 t1 k0 k1 em G1 h0 n0 v U'.heap L ∧ ReturnedEndW U o U' L room_1.cells room_1.slots) := by
  refine MetFree.of_bodySF (plainFor_of_name pn_0) hisR ?_
  intro p e s m args below meth c s₁ Bd hml0 hP hK
  obtain ⟨rfl, hZ, hh, HC⟩ := hP
  have hx := Bd.exec
  have hby := Bd.bytes
  have hml : c.maxLocals = 9 := hml0
  have hown : s.vm.findClass "com/example/sekisho/sekisho/registration/FactorOfKeyPinLaw" = some m.cls := findClass_of_methodNamed Bd.named
  have hnm := (name_of_methodNamed Bd.named Bd.method).1
  have X0 : Stand p l e room_1 s m #[(.int p0), (.int p1), (.int p2)] below meth c s₁ [] 0 0 := Stand.of_body Bd
  have e0 : s₁.heap = h0 := by rw [← hh, Bd.state]; rfl
  have N0 := Fr.nil n0
  have pre0 : ∀ t, Steps p.tables e below (s₁.setTop (mkF m 0 #[.val (.int p0), .val (.int p1), .val (.int p2), .unset, .unset, .unset, .unset, .unset, .unset] [])) t → Steps p.tables e below (s₁.setTop (entryFrame m #[(.int p0), (.int p1), (.int p2)] maxLocals)) t := fun t k => castTop (ef_0 m p0 p1 p2) k
  have hS0 : s.Since s.vm 0 := (State.WarmedH.refl s).since 0
  have hk0 : 0 ≤ h0.size := Nat.zero_le _
  have hEL : EW Z a0 consts_1 := own_EW hw
  have wS : ∀ a ∈ Bundle.stringAtoms, a.before a0 Z = true := fun d hd => hw d ((by decide +kernel : ∀ d ∈ Bundle.stringAtoms, d ∈ tables_1) d hd)
  have KK0 := Keep.refl h0 []
  have Ar0 : own_arr Z h0 va cl (.object "com/example/sekisho/sekisho/registration/Factor") := Ar
  obtain ⟨ev, pre1⟩ : ∃ (ev : Int32), ∀ t, Steps p.tables e below (s₁.setTop (mkF m 11 #[.val (.int p0), .val (.int p1), .val (.int p2), .unset, .unset, .unset, .unset, .unset, .unset] [(.int ev)])) t → Steps p.tables e below (s₁.setTop (entryFrame m #[(.int p0), (.int p1), (.int p2)] maxLocals)) t := by
    by_cases c3 : (p0 &&& (1 : Int32)) = 0
    · refine ⟨((0 : Int32)), fun t k => pre0 t ?_⟩
      show Steps p.tables e below (s₁.setTop (mkF m 0 #[.val (.int p0), .val (.int p1), .val (.int p2), .unset, .unset, .unset, .unset, .unset, .unset] [])) _
      refine XS.iloadN X0.here hx rfl (hb hby at_0) rfl ?_
      show Steps p.tables e below (s₁.setTop (mkF m 1 #[.val (.int p0), .val (.int p1), .val (.int p2), .unset, .unset, .unset, .unset, .unset, .unset] [(.int p0)])) _
      refine XS.iconst X0.here hx rfl (hb hby at_1) ?_
      show Steps p.tables e below (s₁.setTop (mkF m 2 #[.val (.int p0), .val (.int p1), .val (.int p2), .unset, .unset, .unset, .unset, .unset, .unset] [(.int (1 : Int32)), (.int p0)])) _
      refine XS.iand X0.here hx rfl (hb hby at_2) rfl ?_
      show Steps p.tables e below (s₁.setTop (mkF m 3 #[.val (.int p0), .val (.int p1), .val (.int p2), .unset, .unset, .unset, .unset, .unset, .unset] [(.int (p0 &&& (1 : Int32)))])) _
      refine XS.ifYes X0.here hx rfl (pc0 := 3) (pc' := 10) rfl (hb hby at_3) rfl ((if0 _ _).trans (teq c3).1) (by decide) (by decide) ?_
      show Steps p.tables e below (s₁.setTop (mkF m 10 #[.val (.int p0), .val (.int p1), .val (.int p2), .unset, .unset, .unset, .unset, .unset, .unset] [])) _
      refine XS.iconst X0.here hx rfl (hb hby at_10) ?_
      exact k
    · refine ⟨((1 : Int32)), fun t k => pre0 t ?_⟩
      show Steps p.tables e below (s₁.setTop (mkF m 0 #[.val (.int p0), .val (.int p1), .val (.int p2), .unset, .unset, .unset, .unset, .unset, .unset] [])) _
      refine XS.iloadN X0.here hx rfl (hb hby at_0) rfl ?_
      show Steps p.tables e below (s₁.setTop (mkF m 1 #[.val (.int p0), .val (.int p1), .val (.int p2), .unset, .unset, .unset, .unset, .unset, .unset] [(.int p0)])) _
      refine XS.iconst X0.here hx rfl (hb hby at_1) ?_
      show Steps p.tables e below (s₁.setTop (mkF m 2 #[.val (.int p0), .val (.int p1), .val (.int p2), .unset, .unset, .unset, .unset, .unset, .unset] [(.int (1 : Int32)), (.int p0)])) _
      refine XS.iand X0.here hx rfl (hb hby at_2) rfl ?_
      show Steps p.tables e below (s₁.setTop (mkF m 3 #[.val (.int p0), .val (.int p1), .val (.int p2), .unset, .unset, .unset, .unset, .unset, .unset] [(.int (p0 &&& (1 : Int32)))])) _
      refine XS.ifNo X0.here hx rfl (hb hby at_3) rfl ((if0 _ _).trans (feq c3).1) ?_
      show Steps p.tables e below (s₁.setTop (mkF m 6 #[.val (.int p0), .val (.int p1), .val (.int p2), .unset, .unset, .unset, .unset, .unset, .unset] [])) _
      refine XS.iconst X0.here hx rfl (hb hby at_6) ?_
      show Steps p.tables e below (s₁.setTop (mkF m 7 #[.val (.int p0), .val (.int p1), .val (.int p2), .unset, .unset, .unset, .unset, .unset, .unset] [(.int (1 : Int32))])) _
      refine XS.goto X0.here hx rfl (pc0 := 7) (pc' := 11) rfl (hb hby at_7) (by decide) (by decide) ?_
      exact k
  have pre2 : ∀ t, Steps p.tables e below (s₁.setTop (mkF m 34 #[.val (.int p0), .val (.int p1), .val (.int p2), .val (.int ev), .val (.int (((p0.toUInt32 >>> ((1 : Int32) &&& 31).toUInt32).toInt32) &&& (7 : Int32))), .val (.int ((p2 &&& (255 : Int32)).toUInt32.toUInt16.toUInt32.toInt32)), .unset, .unset, .unset] [(.int ((p2 &&& (255 : Int32)).toUInt32.toUInt16.toUInt32.toInt32)), (.int p1), (.int (((p0.toUInt32 >>> ((1 : Int32) &&& 31).toUInt32).toInt32) &&& (7 : Int32))), (.int ev)])) t → Steps p.tables e below (s₁.setTop (entryFrame m #[(.int p0), (.int p1), (.int p2)] maxLocals)) t := by
    intro t k
    refine pre1 t ?_
    show Steps p.tables e below (s₁.setTop (mkF m 11 #[.val (.int p0), .val (.int p1), .val (.int p2), .unset, .unset, .unset, .unset, .unset, .unset] [(.int ev)])) _
    refine XS.istoreN X0.here hx rfl (hb hby at_11) rfl (l' := #[.val (.int p0), .val (.int p1), .val (.int p2), .val (.int ev), .unset, .unset, .unset, .unset, .unset]) rfl ?_
    show Steps p.tables e below (s₁.setTop (mkF m 12 #[.val (.int p0), .val (.int p1), .val (.int p2), .val (.int ev), .unset, .unset, .unset, .unset, .unset] [])) _
    refine XS.iloadN X0.here hx rfl (hb hby at_12) rfl ?_
    show Steps p.tables e below (s₁.setTop (mkF m 13 #[.val (.int p0), .val (.int p1), .val (.int p2), .val (.int ev), .unset, .unset, .unset, .unset, .unset] [(.int p0)])) _
    refine XS.iconst X0.here hx rfl (hb hby at_13) ?_
    show Steps p.tables e below (s₁.setTop (mkF m 14 #[.val (.int p0), .val (.int p1), .val (.int p2), .val (.int ev), .unset, .unset, .unset, .unset, .unset] [(.int (1 : Int32)), (.int p0)])) _
    refine XS.iushr X0.here hx rfl (hb hby at_14) rfl ?_
    show Steps p.tables e below (s₁.setTop (mkF m 15 #[.val (.int p0), .val (.int p1), .val (.int p2), .val (.int ev), .unset, .unset, .unset, .unset, .unset] [(.int ((p0.toUInt32 >>> ((1 : Int32) &&& 31).toUInt32).toInt32))])) _
    refine XS.bipush X0.here hx rfl (hb hby at_15) ?_
    show Steps p.tables e below (s₁.setTop (mkF m 17 #[.val (.int p0), .val (.int p1), .val (.int p2), .val (.int ev), .unset, .unset, .unset, .unset, .unset] [(.int (7 : Int32)), (.int ((p0.toUInt32 >>> ((1 : Int32) &&& 31).toUInt32).toInt32))])) _
    refine XS.iand X0.here hx rfl (hb hby at_17) rfl ?_
    show Steps p.tables e below (s₁.setTop (mkF m 18 #[.val (.int p0), .val (.int p1), .val (.int p2), .val (.int ev), .unset, .unset, .unset, .unset, .unset] [(.int (((p0.toUInt32 >>> ((1 : Int32) &&& 31).toUInt32).toInt32) &&& (7 : Int32)))])) _
    refine XS.istore X0.here hx rfl (hb hby at_18) rfl (l' := #[.val (.int p0), .val (.int p1), .val (.int p2), .val (.int ev), .val (.int (((p0.toUInt32 >>> ((1 : Int32) &&& 31).toUInt32).toInt32) &&& (7 : Int32))), .unset, .unset, .unset, .unset]) rfl ?_
    show Steps p.tables e below (s₁.setTop (mkF m 20 #[.val (.int p0), .val (.int p1), .val (.int p2), .val (.int ev), .val (.int (((p0.toUInt32 >>> ((1 : Int32) &&& 31).toUInt32).toInt32) &&& (7 : Int32))), .unset, .unset, .unset, .unset] [])) _
    refine XS.iloadN X0.here hx rfl (hb hby at_20) rfl ?_
    show Steps p.tables e below (s₁.setTop (mkF m 21 #[.val (.int p0), .val (.int p1), .val (.int p2), .val (.int ev), .val (.int (((p0.toUInt32 >>> ((1 : Int32) &&& 31).toUInt32).toInt32) &&& (7 : Int32))), .unset, .unset, .unset, .unset] [(.int p2)])) _
    refine XS.sipush X0.here hx rfl (hb hby at_21) ?_
    show Steps p.tables e below (s₁.setTop (mkF m 24 #[.val (.int p0), .val (.int p1), .val (.int p2), .val (.int ev), .val (.int (((p0.toUInt32 >>> ((1 : Int32) &&& 31).toUInt32).toInt32) &&& (7 : Int32))), .unset, .unset, .unset, .unset] [(.int (255 : Int32)), (.int p2)])) _
    refine XS.iand X0.here hx rfl (hb hby at_24) rfl ?_
    show Steps p.tables e below (s₁.setTop (mkF m 25 #[.val (.int p0), .val (.int p1), .val (.int p2), .val (.int ev), .val (.int (((p0.toUInt32 >>> ((1 : Int32) &&& 31).toUInt32).toInt32) &&& (7 : Int32))), .unset, .unset, .unset, .unset] [(.int (p2 &&& (255 : Int32)))])) _
    refine XS.i2c X0.here hx rfl (hb hby at_25) rfl ?_
    show Steps p.tables e below (s₁.setTop (mkF m 26 #[.val (.int p0), .val (.int p1), .val (.int p2), .val (.int ev), .val (.int (((p0.toUInt32 >>> ((1 : Int32) &&& 31).toUInt32).toInt32) &&& (7 : Int32))), .unset, .unset, .unset, .unset] [(.int ((p2 &&& (255 : Int32)).toUInt32.toUInt16.toUInt32.toInt32))])) _
    refine XS.istore X0.here hx rfl (hb hby at_26) rfl (l' := #[.val (.int p0), .val (.int p1), .val (.int p2), .val (.int ev), .val (.int (((p0.toUInt32 >>> ((1 : Int32) &&& 31).toUInt32).toInt32) &&& (7 : Int32))), .val (.int ((p2 &&& (255 : Int32)).toUInt32.toUInt16.toUInt32.toInt32)), .unset, .unset, .unset]) rfl ?_
    show Steps p.tables e below (s₁.setTop (mkF m 28 #[.val (.int p0), .val (.int p1), .val (.int p2), .val (.int ev), .val (.int (((p0.toUInt32 >>> ((1 : Int32) &&& 31).toUInt32).toInt32) &&& (7 : Int32))), .val (.int ((p2 &&& (255 : Int32)).toUInt32.toUInt16.toUInt32.toInt32)), .unset, .unset, .unset] [])) _
    refine XS.iloadN X0.here hx rfl (hb hby at_28) rfl ?_
    show Steps p.tables e below (s₁.setTop (mkF m 29 #[.val (.int p0), .val (.int p1), .val (.int p2), .val (.int ev), .val (.int (((p0.toUInt32 >>> ((1 : Int32) &&& 31).toUInt32).toInt32) &&& (7 : Int32))), .val (.int ((p2 &&& (255 : Int32)).toUInt32.toUInt16.toUInt32.toInt32)), .unset, .unset, .unset] [(.int ev)])) _
    refine XS.iload X0.here hx rfl (hb hby at_29) rfl ?_
    show Steps p.tables e below (s₁.setTop (mkF m 31 #[.val (.int p0), .val (.int p1), .val (.int p2), .val (.int ev), .val (.int (((p0.toUInt32 >>> ((1 : Int32) &&& 31).toUInt32).toInt32) &&& (7 : Int32))), .val (.int ((p2 &&& (255 : Int32)).toUInt32.toUInt16.toUInt32.toInt32)), .unset, .unset, .unset] [(.int (((p0.toUInt32 >>> ((1 : Int32) &&& 31).toUInt32).toInt32) &&& (7 : Int32))), (.int ev)])) _
    refine XS.iloadN X0.here hx rfl (hb hby at_31) rfl ?_
    show Steps p.tables e below (s₁.setTop (mkF m 32 #[.val (.int p0), .val (.int p1), .val (.int p2), .val (.int ev), .val (.int (((p0.toUInt32 >>> ((1 : Int32) &&& 31).toUInt32).toInt32) &&& (7 : Int32))), .val (.int ((p2 &&& (255 : Int32)).toUInt32.toUInt16.toUInt32.toInt32)), .unset, .unset, .unset] [(.int p1), (.int (((p0.toUInt32 >>> ((1 : Int32) &&& 31).toUInt32).toInt32) &&& (7 : Int32))), (.int ev)])) _
    refine XS.iload X0.here hx rfl (hb hby at_32) rfl ?_
    exact k
  obtain ⟨_, _, ⟨T1, L1, k1, n1⟩, -, Xa1, hSa1, hsz1, ⟨Lc1, hQ1, l1, y1, z1, hC1⟩, st1⟩ := callSS X0 hx (y := (⟨"com/example/sekisho/sekisho/registration/FactorOfKeyPinLaw", "build", "(ZIIC)Ljava/lang/String;"⟩ : MethodName)) hown (mvT hZ (hw _ (List.mem_of_getElem? (i := 0) rfl))) (mvT hZ (hw _ (List.mem_of_getElem? (i := 1) rfl))) (mvT hZ (hw _ (List.mem_of_getElem? (i := 2) rfl))) (mvT hZ (hw _ (List.mem_of_getElem? (i := 3) rfl))) (by decide) (backOfSH (s := s) (vm0 := s.vm) (W := 0) (rm1 l Z a0 hw [] ev (((p0.toUInt32 >>> ((1 : Int32) &&& 31).toUInt32).toInt32) &&& (7 : Int32)) p1 ((p2 &&& (255 : Int32)).toUInt32.toUInt16.toUInt32.toInt32) G1 h0 n0 Z0 S1 P5 (own_chars p2)) hZ (hw _ (List.mem_of_getElem? (i := 3) rfl)) (hw _ (List.mem_of_getElem? (i := 2) rfl)) (by decide) (by decide) hEL (CHv.keep KK0 sf0 HC)) (g := (mkF m 34 #[.val (.int p0), .val (.int p1), .val (.int p2), .val (.int ev), .val (.int (((p0.toUInt32 >>> ((1 : Int32) &&& 31).toUInt32).toInt32) &&& (7 : Int32))), .val (.int ((p2 &&& (255 : Int32)).toUInt32.toUInt16.toUInt32.toInt32)), .unset, .unset, .unset] [(.int ((p2 &&& (255 : Int32)).toUInt32.toUInt16.toUInt32.toInt32)), (.int p1), (.int (((p0.toUInt32 >>> ((1 : Int32) &&& 31).toUInt32).toInt32) &&& (7 : Int32))), (.int ev)])) rfl (by rw [hml]; rfl) (argsL := [(.int ev), (.int (((p0.toUInt32 >>> ((1 : Int32) &&& 31).toUInt32).toInt32) &&& (7 : Int32))), (.int p1), (.int ((p2 &&& (255 : Int32)).toUInt32.toUInt16.toUInt32.toInt32))]) (rest := []) (lenOf pd_6 rfl) rfl (by show 2 * 0 + _ ≤ _; exact Nat.le_of_eq rfl) (hb hby at_34) (fun _ _ => ⟨rfl, e0, (by decide : 0 + 3 ≤ _), (by decide : 0 + 64 ≤ _)⟩)
  dsimp only [Pt.U, Pt.locs, Pt.cells, Pt.slots] at Xa1 l1 y1 z1 st1 hQ1 hSa1 hsz1 hC1
  subst l1 y1 z1
  obtain ⟨sa, cs, rfl, N1q, K1q, Y1q⟩ := hQ1
  have N1 := Fr.app N0 N1q
  obtain ⟨X1, hSi1, hZ, hown⟩ := rebS (s := s) (vm0 := s.vm) hS0 (by rw [e0]; exact hk0) Xa1 hSa1 hsz1 hZ hown
  have S_com_example_sekisho_sekisho_registration_Factor__VALUES_1 := own_sta0 SV K1q
  have E_va_1 := Eva.keep K1q
  have F_t0_key_1 := Fk0.keep K1q nin0
  have Y_k0_1 := Y0.keep0 K1q
  have F_t1_key_1 := Fk1.keep K1q nin0
  have Y_k1_1 := Y1.keep0 K1q
  have S_java_util_Optional_EMPTY_1 := own_sta0 SE K1q
  have E_em_1 := EE.keep K1q
  have F_em_value_1 := FE.keep K1q nin0
  have S_java_lang_String_COMPACT_STRINGS_1 := own_sta0 S1 K1q
  have Y_va_1 := Ar0.keep0 K1q
  have S_com_example_sekisho_sekisho_registration_Factor_TOTP_1 := own_sta0 St0 K1q
  have E_t0_1 := Et0.keep K1q
  have S_com_example_sekisho_sekisho_registration_Factor_EMAIL_1 := own_sta0 St1 K1q
  have E_t1_1 := Et1.keep K1q
  have Zs2 := Nat.le_trans Z0 K1q.1
  have hk3 := Nat.le_trans hk0 K1q.1
  have Kk1 := KK0.trans K1q all0
  have CRn1 := CHr.trans (CHr.keep KK0 sf0 HC) hC1
  have KK1 := Keep.refl T1.heap ([] : List Addr)
  have hki1 : T1.heap.size ≤ T1.heap.size := Nat.le_refl _
  have pre3 : ∀ t, Steps p.tables e below (T1.setTop (mkF m 37 #[.val (.int p0), .val (.int p1), .val (.int p2), .val (.int ev), .val (.int (((p0.toUInt32 >>> ((1 : Int32) &&& 31).toUInt32).toInt32) &&& (7 : Int32))), .val (.int ((p2 &&& (255 : Int32)).toUInt32.toUInt16.toUInt32.toInt32)), .unset, .unset, .unset] [(.ref sa)])) t → Steps p.tables e below (s₁.setTop (entryFrame m #[(.int p0), (.int p1), (.int p2)] maxLocals)) t := by
    intro t k
    refine pre2 t ?_
    show Steps p.tables e below (s₁.setTop (mkF m 34 #[.val (.int p0), .val (.int p1), .val (.int p2), .val (.int ev), .val (.int (((p0.toUInt32 >>> ((1 : Int32) &&& 31).toUInt32).toInt32) &&& (7 : Int32))), .val (.int ((p2 &&& (255 : Int32)).toUInt32.toUInt16.toUInt32.toInt32)), .unset, .unset, .unset] [(.int ((p2 &&& (255 : Int32)).toUInt32.toUInt16.toUInt32.toInt32)), (.int p1), (.int (((p0.toUInt32 >>> ((1 : Int32) &&& 31).toUInt32).toInt32) &&& (7 : Int32))), (.int ev)])) _
    refine st1.trans ?_
    exact k
  by_cases q0 : own_k0 = cs
  · skip
    obtain ⟨_, _, ⟨T4, L4, k4, n4⟩, -, X4, ⟨Lc4, hQ4, l4, y4, z4⟩, st4⟩ := Jvm.LawKit.callS X1 hx (y := (⟨"com/example/sekisho/sekisho/registration/Factor", "ofKey", "(Ljava/lang/String;)Ljava/util/Optional;"⟩ : MethodName)) hown (mvT hZ (hw _ (List.mem_of_getElem? (i := 37) rfl))) (mvT hZ (hw _ (List.mem_of_getElem? (i := 38) rfl))) (mvT hZ (hw _ (List.mem_of_getElem? (i := 39) rfl))) (mvT hZ (hw _ (List.mem_of_getElem? (i := 40) rfl))) (by decide) (backOf (W := 0) (rm9x0 l Z a0 hw [] sa va cl t0 t1 k0 k1 em G1 cs T1.heap n0 Zs2 S_com_example_sekisho_sekisho_registration_Factor__VALUES_1 Y_va_1 E_va_1 Fc Sz hs0 hs1 F_t0_key_1 F_t1_key_1 Y_k0_1 Y_k1_1 S_java_util_Optional_EMPTY_1 E_em_1 F_em_value_1 S_java_lang_String_COMPACT_STRINGS_1 P5 Y1q q0) hZ (hw _ (List.mem_of_getElem? (i := 40) rfl)) (hw _ (List.mem_of_getElem? (i := 39) rfl)) (by decide) (by decide)) (g := (mkF m 41 #[.val (.int p0), .val (.int p1), .val (.int p2), .val (.int ev), .val (.int (((p0.toUInt32 >>> ((1 : Int32) &&& 31).toUInt32).toInt32) &&& (7 : Int32))), .val (.int ((p2 &&& (255 : Int32)).toUInt32.toUInt16.toUInt32.toInt32)), .val (.ref sa), .unset, .unset] [(.ref sa)])) rfl (by rw [hml]; rfl) (argsL := [(.ref sa)]) (rest := []) (lenOf pd_7 rfl) rfl (by show 2 * 0 + _ ≤ _; exact Nat.le_of_eq rfl) (hb hby at_41) (fun _ _ => ⟨rfl, rfl, (by decide : 3 + 2 ≤ _), (by decide : 64 + 3 ≤ _)⟩)
    dsimp only [Pt.U, Pt.locs, Pt.cells, Pt.slots] at X4 l4 y4 z4 st4 hQ4
    subst l4 y4 z4
    obtain ⟨oo, rfl, N4q, K4q, Eo, Fo⟩ := hQ4
    have N4 := Fr.app N1 N4q
    have S_com_example_sekisho_sekisho_registration_Factor__VALUES_4 := own_sta0 S_com_example_sekisho_sekisho_registration_Factor__VALUES_1 K4q
    have E_va_4 := E_va_1.keep K4q
    have F_t0_key_4 := F_t0_key_1.keep K4q nin0
    have Y_k0_4 := Y_k0_1.keep0 K4q
    have F_t1_key_4 := F_t1_key_1.keep K4q nin0
    have Y_k1_4 := Y_k1_1.keep0 K4q
    have S_java_util_Optional_EMPTY_4 := own_sta0 S_java_util_Optional_EMPTY_1 K4q
    have E_em_4 := E_em_1.keep K4q
    have F_em_value_4 := F_em_value_1.keep K4q nin0
    have S_java_lang_String_COMPACT_STRINGS_4 := own_sta0 S_java_lang_String_COMPACT_STRINGS_1 K4q
    have Y_va_4 := Y_va_1.keep0 K4q
    have S_com_example_sekisho_sekisho_registration_Factor_TOTP_4 := own_sta0 S_com_example_sekisho_sekisho_registration_Factor_TOTP_1 K4q
    have E_t0_4 := E_t0_1.keep K4q
    have S_com_example_sekisho_sekisho_registration_Factor_EMAIL_4 := own_sta0 S_com_example_sekisho_sekisho_registration_Factor_EMAIL_1 K4q
    have E_t1_4 := E_t1_1.keep K4q
    have Y_sa_4 := Y1q.keep0 K4q
    have Zs5 := Nat.le_trans Zs2 K4q.1
    have hk6 := Nat.le_trans hki1 K4q.1
    have Kk4 := KK1.trans K4q all0
    have Kz4 := Kk1.trans K4q all0
    have pre4 : ∀ t, Steps p.tables e below (T4.setTop (mkF m 44 #[.val (.int p0), .val (.int p1), .val (.int p2), .val (.int ev), .val (.int (((p0.toUInt32 >>> ((1 : Int32) &&& 31).toUInt32).toInt32) &&& (7 : Int32))), .val (.int ((p2 &&& (255 : Int32)).toUInt32.toUInt16.toUInt32.toInt32)), .val (.ref sa), .unset, .unset] [(.ref oo)])) t → Steps p.tables e below (s₁.setTop (entryFrame m #[(.int p0), (.int p1), (.int p2)] maxLocals)) t := by
      intro t k
      refine pre3 t ?_
      show Steps p.tables e below (T1.setTop (mkF m 37 #[.val (.int p0), .val (.int p1), .val (.int p2), .val (.int ev), .val (.int (((p0.toUInt32 >>> ((1 : Int32) &&& 31).toUInt32).toInt32) &&& (7 : Int32))), .val (.int ((p2 &&& (255 : Int32)).toUInt32.toUInt16.toUInt32.toInt32)), .unset, .unset, .unset] [(.ref sa)])) _
      refine XS.astore X1.here hx rfl (hb hby at_37) rfl rfl (l' := #[.val (.int p0), .val (.int p1), .val (.int p2), .val (.int ev), .val (.int (((p0.toUInt32 >>> ((1 : Int32) &&& 31).toUInt32).toInt32) &&& (7 : Int32))), .val (.int ((p2 &&& (255 : Int32)).toUInt32.toUInt16.toUInt32.toInt32)), .val (.ref sa), .unset, .unset]) rfl ?_
      show Steps p.tables e below (T1.setTop (mkF m 39 #[.val (.int p0), .val (.int p1), .val (.int p2), .val (.int ev), .val (.int (((p0.toUInt32 >>> ((1 : Int32) &&& 31).toUInt32).toInt32) &&& (7 : Int32))), .val (.int ((p2 &&& (255 : Int32)).toUInt32.toUInt16.toUInt32.toInt32)), .val (.ref sa), .unset, .unset] [])) _
      refine XS.aload X1.here hx rfl (hb hby at_39) rfl rfl ?_
      show Steps p.tables e below (T1.setTop (mkF m 41 #[.val (.int p0), .val (.int p1), .val (.int p2), .val (.int ev), .val (.int (((p0.toUInt32 >>> ((1 : Int32) &&& 31).toUInt32).toInt32) &&& (7 : Int32))), .val (.int ((p2 &&& (255 : Int32)).toUInt32.toUInt16.toUInt32.toInt32)), .val (.ref sa), .unset, .unset] [(.ref sa)])) _
      refine st4 _ ?_
      exact k
    obtain ⟨cq7, kq7, q7a, q7b, q7c⟩ := isOf hZ rfl Eo
    obtain ⟨_, _, ⟨T7, L7, k7, n7⟩, -, X7, ⟨Lc7, hQ7, l7, y7, z7⟩, st7⟩ := X4.virtualBack hx (y := (⟨"java/util/Optional", "orElse", "(Ljava/lang/Object;)Ljava/lang/Object;"⟩ : MethodName)) (z := (⟨"java/util/Optional", "orElse", "(Ljava/lang/Object;)Ljava/lang/Object;"⟩ : MethodName)) hown (mvT hZ (hw _ (List.mem_of_getElem? (i := 83) rfl))) (mvT hZ (hw _ (List.mem_of_getElem? (i := 84) rfl))) (notFace_of_selects (args := #[]) (mvT hZ (hw _ (List.mem_of_getElem? (i := 86) rfl)))) (mvT hZ (hw _ (List.mem_of_getElem? (i := 86) rfl))) (mvT hZ (hw _ (List.mem_of_getElem? (i := 85) rfl))) (by decide) (backOf (W := 0) (rm15r l Z a0 hw [] oo t0 T4.heap n0 Zs5 Fo) hZ (hw _ (List.mem_of_getElem? (i := 87) rfl)) (hw _ (List.mem_of_getElem? (i := 72) rfl)) (by decide) (by decide)) q7a q7c (g := (mkF m 49 #[.val (.int p0), .val (.int p1), .val (.int p2), .val (.int ev), .val (.int (((p0.toUInt32 >>> ((1 : Int32) &&& 31).toUInt32).toInt32) &&& (7 : Int32))), .val (.int ((p2 &&& (255 : Int32)).toUInt32.toUInt16.toUInt32.toInt32)), .val (.ref sa), .val (.ref oo), .unset] [.null, (.ref oo)])) rfl (by rw [hml]; rfl) (Steps.refl _) (argsL := [.null]) (rest := []) (lenOf pd_8 rfl) rfl (by show 2 * 0 + _ ≤ _; exact Nat.le_of_eq rfl) (hb hby at_49) (fun _ _ => ⟨rfl, rfl, (by decide : 5 + 0 ≤ _), (by decide : 67 + 0 ≤ _)⟩)
    dsimp only [Pt.U, Pt.locs, Pt.cells, Pt.slots] at X7 l7 y7 z7 st7 hQ7
    subst l7 y7 z7
    obtain ⟨rfl, N7q, e7q⟩ := hQ7
    have N7 := Fr.app N4 N7q
    have pre5 : ∀ t, Steps p.tables e below (T7.setTop (mkF m 52 #[.val (.int p0), .val (.int p1), .val (.int p2), .val (.int ev), .val (.int (((p0.toUInt32 >>> ((1 : Int32) &&& 31).toUInt32).toInt32) &&& (7 : Int32))), .val (.int ((p2 &&& (255 : Int32)).toUInt32.toUInt16.toUInt32.toInt32)), .val (.ref sa), .val (.ref oo), .unset] [(.ref t0)])) t → Steps p.tables e below (s₁.setTop (entryFrame m #[(.int p0), (.int p1), (.int p2)] maxLocals)) t := by
      intro t k
      refine pre4 t ?_
      show Steps p.tables e below (T4.setTop (mkF m 44 #[.val (.int p0), .val (.int p1), .val (.int p2), .val (.int ev), .val (.int (((p0.toUInt32 >>> ((1 : Int32) &&& 31).toUInt32).toInt32) &&& (7 : Int32))), .val (.int ((p2 &&& (255 : Int32)).toUInt32.toUInt16.toUInt32.toInt32)), .val (.ref sa), .unset, .unset] [(.ref oo)])) _
      refine XS.astore X4.here hx rfl (hb hby at_44) rfl rfl (l' := #[.val (.int p0), .val (.int p1), .val (.int p2), .val (.int ev), .val (.int (((p0.toUInt32 >>> ((1 : Int32) &&& 31).toUInt32).toInt32) &&& (7 : Int32))), .val (.int ((p2 &&& (255 : Int32)).toUInt32.toUInt16.toUInt32.toInt32)), .val (.ref sa), .val (.ref oo), .unset]) rfl ?_
      show Steps p.tables e below (T4.setTop (mkF m 46 #[.val (.int p0), .val (.int p1), .val (.int p2), .val (.int ev), .val (.int (((p0.toUInt32 >>> ((1 : Int32) &&& 31).toUInt32).toInt32) &&& (7 : Int32))), .val (.int ((p2 &&& (255 : Int32)).toUInt32.toUInt16.toUInt32.toInt32)), .val (.ref sa), .val (.ref oo), .unset] [])) _
      refine XS.aload X4.here hx rfl (hb hby at_46) rfl rfl ?_
      show Steps p.tables e below (T4.setTop (mkF m 48 #[.val (.int p0), .val (.int p1), .val (.int p2), .val (.int ev), .val (.int (((p0.toUInt32 >>> ((1 : Int32) &&& 31).toUInt32).toInt32) &&& (7 : Int32))), .val (.int ((p2 &&& (255 : Int32)).toUInt32.toUInt16.toUInt32.toInt32)), .val (.ref sa), .val (.ref oo), .unset] [(.ref oo)])) _
      refine XS.aconstNull X4.here hx rfl (hb hby at_48) ?_
      show Steps p.tables e below (T4.setTop (mkF m 49 #[.val (.int p0), .val (.int p1), .val (.int p2), .val (.int ev), .val (.int (((p0.toUInt32 >>> ((1 : Int32) &&& 31).toUInt32).toInt32) &&& (7 : Int32))), .val (.int ((p2 &&& (255 : Int32)).toUInt32.toUInt16.toUInt32.toInt32)), .val (.ref sa), .val (.ref oo), .unset] [.null, (.ref oo)])) _
      refine st7.trans ?_
      exact k
    obtain ⟨T8, X8, e8, st8⟩ := castY X7 hx hZ hown (hw _ (List.mem_of_getElem? (i := 88) rfl)) e7q (Ins.self E_t0_4) (g := (mkF m 52 #[.val (.int p0), .val (.int p1), .val (.int p2), .val (.int ev), .val (.int (((p0.toUInt32 >>> ((1 : Int32) &&& 31).toUInt32).toInt32) &&& (7 : Int32))), .val (.int ((p2 &&& (255 : Int32)).toUInt32.toUInt16.toUInt32.toInt32)), .val (.ref sa), .val (.ref oo), .unset] [(.ref t0)])) rfl rfl (hb hby at_52)
    have pre6 : ∀ t, Steps p.tables e below (T8.setTop (mkF m 61 #[.val (.int p0), .val (.int p1), .val (.int p2), .val (.int ev), .val (.int (((p0.toUInt32 >>> ((1 : Int32) &&& 31).toUInt32).toInt32) &&& (7 : Int32))), .val (.int ((p2 &&& (255 : Int32)).toUInt32.toUInt16.toUInt32.toInt32)), .val (.ref sa), .val (.ref oo), .val (.ref t0)] [(.ref sa), (.ref t0)])) t → Steps p.tables e below (s₁.setTop (entryFrame m #[(.int p0), (.int p1), (.int p2)] maxLocals)) t := by
      intro t k
      refine pre5 t ?_
      show Steps p.tables e below (T7.setTop (mkF m 52 #[.val (.int p0), .val (.int p1), .val (.int p2), .val (.int ev), .val (.int (((p0.toUInt32 >>> ((1 : Int32) &&& 31).toUInt32).toInt32) &&& (7 : Int32))), .val (.int ((p2 &&& (255 : Int32)).toUInt32.toUInt16.toUInt32.toInt32)), .val (.ref sa), .val (.ref oo), .unset] [(.ref t0)])) _
      refine st8 _ ?_
      show Steps p.tables e below (T8.setTop (mkF m 55 #[.val (.int p0), .val (.int p1), .val (.int p2), .val (.int ev), .val (.int (((p0.toUInt32 >>> ((1 : Int32) &&& 31).toUInt32).toInt32) &&& (7 : Int32))), .val (.int ((p2 &&& (255 : Int32)).toUInt32.toUInt16.toUInt32.toInt32)), .val (.ref sa), .val (.ref oo), .unset] [(.ref t0)])) _
      refine XS.astore X8.here hx rfl (hb hby at_55) rfl rfl (l' := #[.val (.int p0), .val (.int p1), .val (.int p2), .val (.int ev), .val (.int (((p0.toUInt32 >>> ((1 : Int32) &&& 31).toUInt32).toInt32) &&& (7 : Int32))), .val (.int ((p2 &&& (255 : Int32)).toUInt32.toUInt16.toUInt32.toInt32)), .val (.ref sa), .val (.ref oo), .val (.ref t0)]) rfl ?_
      show Steps p.tables e below (T8.setTop (mkF m 57 #[.val (.int p0), .val (.int p1), .val (.int p2), .val (.int ev), .val (.int (((p0.toUInt32 >>> ((1 : Int32) &&& 31).toUInt32).toInt32) &&& (7 : Int32))), .val (.int ((p2 &&& (255 : Int32)).toUInt32.toUInt16.toUInt32.toInt32)), .val (.ref sa), .val (.ref oo), .val (.ref t0)] [])) _
      refine XS.aload X8.here hx rfl (hb hby at_57) rfl rfl ?_
      show Steps p.tables e below (T8.setTop (mkF m 59 #[.val (.int p0), .val (.int p1), .val (.int p2), .val (.int ev), .val (.int (((p0.toUInt32 >>> ((1 : Int32) &&& 31).toUInt32).toInt32) &&& (7 : Int32))), .val (.int ((p2 &&& (255 : Int32)).toUInt32.toUInt16.toUInt32.toInt32)), .val (.ref sa), .val (.ref oo), .val (.ref t0)] [(.ref t0)])) _
      refine XS.aload X8.here hx rfl (hb hby at_59) rfl rfl ?_
      exact k
    obtain ⟨_, _, ⟨T9, L9, k9, n9⟩, -, Xa9, hSa9, hsz9, ⟨Lc9, hQ9, l9, y9, z9, hC9⟩, st9⟩ := callSS X8 hx (y := (⟨"com/example/sekisho/sekisho/registration/FactorOfKeyPinLaw", "expected", "(Ljava/lang/String;)Lcom/example/sekisho/sekisho/registration/Factor;"⟩ : MethodName)) hown (mvT hZ (hw _ (List.mem_of_getElem? (i := 90) rfl))) (mvT hZ (hw _ (List.mem_of_getElem? (i := 91) rfl))) (mvT hZ (hw _ (List.mem_of_getElem? (i := 2) rfl))) (mvT hZ (hw _ (List.mem_of_getElem? (i := 92) rfl))) (by decide) (backOfSH (s := s) (vm0 := T1.vm) (W := 1) (rm16x0 l Z a0 hw [] sa t0 t1 G1 cs T4.heap n0 Zs5 Y_sa_4 S_com_example_sekisho_sekisho_registration_Factor_TOTP_4 S_com_example_sekisho_sekisho_registration_Factor_EMAIL_4 S_java_lang_String_COMPACT_STRINGS_4 P5 q0) hZ (hw _ (List.mem_of_getElem? (i := 92) rfl)) (hw _ (List.mem_of_getElem? (i := 2) rfl)) (by decide) (by decide) hEL (CHv.keep Kk4 sf0 hC1.1)) (g := (mkF m 61 #[.val (.int p0), .val (.int p1), .val (.int p2), .val (.int ev), .val (.int (((p0.toUInt32 >>> ((1 : Int32) &&& 31).toUInt32).toInt32) &&& (7 : Int32))), .val (.int ((p2 &&& (255 : Int32)).toUInt32.toUInt16.toUInt32.toInt32)), .val (.ref sa), .val (.ref oo), .val (.ref t0)] [(.ref sa), (.ref t0)])) rfl (by rw [hml]; rfl) (argsL := [(.ref sa)]) (rest := [(.ref t0)]) (lenOf pd_9 rfl) rfl (by show 2 * 0 + _ ≤ _; exact Nat.le_of_eq rfl) (hb hby at_61) (fun _ _ => ⟨rfl, e8, (by decide : 5 + 4 ≤ _), (by decide : 67 + 128 ≤ _)⟩)
    dsimp only [Pt.U, Pt.locs, Pt.cells, Pt.slots] at Xa9 l9 y9 z9 st9 hQ9 hSa9 hsz9 hC9
    subst l9 y9 z9
    obtain ⟨rfl, N9q, K9q⟩ := hQ9
    have N9 := Fr.app N7 N9q
    obtain ⟨X9, hSi9, hZ, hown⟩ := rebS (s := s) (vm0 := T1.vm) hSi1 (by rw [e8]; exact hk6) Xa9 hSa9 hsz9 hZ hown
    have S_com_example_sekisho_sekisho_registration_Factor__VALUES_9 := own_sta0 S_com_example_sekisho_sekisho_registration_Factor__VALUES_4 K9q
    have E_va_9 := E_va_4.keep K9q
    have F_t0_key_9 := F_t0_key_4.keep K9q nin0
    have Y_k0_9 := Y_k0_4.keep0 K9q
    have F_t1_key_9 := F_t1_key_4.keep K9q nin0
    have Y_k1_9 := Y_k1_4.keep0 K9q
    have S_java_util_Optional_EMPTY_9 := own_sta0 S_java_util_Optional_EMPTY_4 K9q
    have E_em_9 := E_em_4.keep K9q
    have F_em_value_9 := F_em_value_4.keep K9q nin0
    have S_java_lang_String_COMPACT_STRINGS_9 := own_sta0 S_java_lang_String_COMPACT_STRINGS_4 K9q
    have Y_va_9 := Y_va_4.keep0 K9q
    have S_com_example_sekisho_sekisho_registration_Factor_TOTP_9 := own_sta0 S_com_example_sekisho_sekisho_registration_Factor_TOTP_4 K9q
    have E_t0_9 := E_t0_4.keep K9q
    have S_com_example_sekisho_sekisho_registration_Factor_EMAIL_9 := own_sta0 S_com_example_sekisho_sekisho_registration_Factor_EMAIL_4 K9q
    have E_t1_9 := E_t1_4.keep K9q
    have Y_sa_9 := Y_sa_4.keep0 K9q
    have E_oo_9 := Eo.keep K9q
    have F_oo_value_9 := Fo.keep K9q nin0
    have Zs10 := Nat.le_trans Zs5 K9q.1
    have hk11 := Nat.le_trans hk6 K9q.1
    have Kk9 := Kk4.trans K9q all0
    have Kz9 := Kz4.trans K9q all0
    have CRn9 := CHr.trans (CHr.trans CRn1 (CHr.keep Kk4 sf0 hC1.1)) hC9
    have KK9 := Keep.refl T9.heap ([] : List Addr)
    have hki9 : T9.heap.size ≤ T9.heap.size := Nat.le_refl _
    have pre7 : ∀ t, Steps p.tables e below (T9.setTop (mkF m 64 #[.val (.int p0), .val (.int p1), .val (.int p2), .val (.int ev), .val (.int (((p0.toUInt32 >>> ((1 : Int32) &&& 31).toUInt32).toInt32) &&& (7 : Int32))), .val (.int ((p2 &&& (255 : Int32)).toUInt32.toUInt16.toUInt32.toInt32)), .val (.ref sa), .val (.ref oo), .val (.ref t0)] [(.ref t0), (.ref t0)])) t → Steps p.tables e below (s₁.setTop (entryFrame m #[(.int p0), (.int p1), (.int p2)] maxLocals)) t := by
      intro t k
      refine pre6 t ?_
      show Steps p.tables e below (T8.setTop (mkF m 61 #[.val (.int p0), .val (.int p1), .val (.int p2), .val (.int ev), .val (.int (((p0.toUInt32 >>> ((1 : Int32) &&& 31).toUInt32).toInt32) &&& (7 : Int32))), .val (.int ((p2 &&& (255 : Int32)).toUInt32.toUInt16.toUInt32.toInt32)), .val (.ref sa), .val (.ref oo), .val (.ref t0)] [(.ref sa), (.ref t0)])) _
      refine st9.trans ?_
      exact k
    obtain ⟨fs, hr, hrun, hended, hEnd⟩ := Stand.leaveW (s := s) (vm₁ := T9.vm) X9 hSi9 (by exact hki9) (v := some (.int (1 : Int32))) (fun h => by rw [Bd.returns] at h; cases h)
    refine ⟨_, _, pre7 _ ?_, hrun, hended, _, _, rfl, ?_, hEnd.1, hEnd.2.1, hEnd.2.2.1, hEnd.2.2.2.mono (by decide) (by decide)⟩
    · show Steps p.tables e below (T9.setTop (mkF m 64 #[.val (.int p0), .val (.int p1), .val (.int p2), .val (.int ev), .val (.int (((p0.toUInt32 >>> ((1 : Int32) &&& 31).toUInt32).toInt32) &&& (7 : Int32))), .val (.int ((p2 &&& (255 : Int32)).toUInt32.toUInt16.toUInt32.toInt32)), .val (.ref sa), .val (.ref oo), .val (.ref t0)] [(.ref t0), (.ref t0)])) _
      refine Jvm.RoadKit.acmp (g := (mkF m 64 #[.val (.int p0), .val (.int p1), .val (.int p2), .val (.int ev), .val (.int (((p0.toUInt32 >>> ((1 : Int32) &&& 31).toUInt32).toInt32) &&& (7 : Int32))), .val (.int ((p2 &&& (255 : Int32)).toUInt32.toUInt16.toUInt32.toInt32)), .val (.ref sa), .val (.ref oo), .val (.ref t0)] [(.ref t0), (.ref t0)])) X9 hx rfl rfl rfl (pc0 := 64) (pc' := 67) (same := true) rfl (hb hby at_64) rfl (decide_eq_true rfl) (by decide) (by decide) ?_
      show Steps p.tables e below (T9.setTop (mkF m 67 #[.val (.int p0), .val (.int p1), .val (.int p2), .val (.int ev), .val (.int (((p0.toUInt32 >>> ((1 : Int32) &&& 31).toUInt32).toInt32) &&& (7 : Int32))), .val (.int ((p2 &&& (255 : Int32)).toUInt32.toUInt16.toUInt32.toInt32)), .val (.ref sa), .val (.ref oo), .val (.ref t0)] [])) _
      refine XS.iconst X9.here hx rfl (hb hby at_67) ?_
      show Steps p.tables e below (T9.setTop (mkF m 68 #[.val (.int p0), .val (.int p1), .val (.int p2), .val (.int ev), .val (.int (((p0.toUInt32 >>> ((1 : Int32) &&& 31).toUInt32).toInt32) &&& (7 : Int32))), .val (.int ((p2 &&& (255 : Int32)).toUInt32.toUInt16.toUInt32.toInt32)), .val (.ref sa), .val (.ref oo), .val (.ref t0)] [(.int (1 : Int32))])) _
      refine XS.goto X9.here hx rfl (pc0 := 68) (pc' := 72) rfl (hb hby at_68) (by decide) (by decide) ?_
      show Steps p.tables e below (T9.setTop (mkF m 72 #[.val (.int p0), .val (.int p1), .val (.int p2), .val (.int ev), .val (.int (((p0.toUInt32 >>> ((1 : Int32) &&& 31).toUInt32).toInt32) &&& (7 : Int32))), .val (.int ((p2 &&& (255 : Int32)).toUInt32.toUInt16.toUInt32.toInt32)), .val (.ref sa), .val (.ref oo), .val (.ref t0)] [(.int (1 : Int32))])) _
      exact retN X9 hx (t := .boolean) Bd.returns (by simp) (hb hby at_72) hr
    · show Q0 Z p0 p1 p2 va cl t0 t1 k0 k1 em G1 h0 n0 _ T9.heap _
      exact ⟨rfl, N9⟩
  · skip
    by_cases q1 : own_k1 = cs
    · skip
      obtain ⟨_, _, ⟨T12, L12, k12, n12⟩, -, X12, ⟨Lc12, hQ12, l12, y12, z12⟩, st12⟩ := Jvm.LawKit.callS X1 hx (y := (⟨"com/example/sekisho/sekisho/registration/Factor", "ofKey", "(Ljava/lang/String;)Ljava/util/Optional;"⟩ : MethodName)) hown (mvT hZ (hw _ (List.mem_of_getElem? (i := 37) rfl))) (mvT hZ (hw _ (List.mem_of_getElem? (i := 38) rfl))) (mvT hZ (hw _ (List.mem_of_getElem? (i := 39) rfl))) (mvT hZ (hw _ (List.mem_of_getElem? (i := 40) rfl))) (by decide) (backOf (W := 0) (rm9x1 l Z a0 hw [] sa va cl t0 t1 k0 k1 em G1 cs T1.heap n0 Zs2 S_com_example_sekisho_sekisho_registration_Factor__VALUES_1 Y_va_1 E_va_1 Fc Sz hs0 hs1 F_t0_key_1 F_t1_key_1 Y_k0_1 Y_k1_1 S_java_util_Optional_EMPTY_1 E_em_1 F_em_value_1 S_java_lang_String_COMPACT_STRINGS_1 P5 Y1q q0 q1) hZ (hw _ (List.mem_of_getElem? (i := 40) rfl)) (hw _ (List.mem_of_getElem? (i := 39) rfl)) (by decide) (by decide)) (g := (mkF m 41 #[.val (.int p0), .val (.int p1), .val (.int p2), .val (.int ev), .val (.int (((p0.toUInt32 >>> ((1 : Int32) &&& 31).toUInt32).toInt32) &&& (7 : Int32))), .val (.int ((p2 &&& (255 : Int32)).toUInt32.toUInt16.toUInt32.toInt32)), .val (.ref sa), .unset, .unset] [(.ref sa)])) rfl (by rw [hml]; rfl) (argsL := [(.ref sa)]) (rest := []) (lenOf pd_7 rfl) rfl (by show 2 * 0 + _ ≤ _; exact Nat.le_of_eq rfl) (hb hby at_41) (fun _ _ => ⟨rfl, rfl, (by decide : 3 + 2 ≤ _), (by decide : 64 + 3 ≤ _)⟩)
      dsimp only [Pt.U, Pt.locs, Pt.cells, Pt.slots] at X12 l12 y12 z12 st12 hQ12
      subst l12 y12 z12
      obtain ⟨oo, rfl, N12q, K12q, Eo, Fo⟩ := hQ12
      have N12 := Fr.app N1 N12q
      have S_com_example_sekisho_sekisho_registration_Factor__VALUES_12 := own_sta0 S_com_example_sekisho_sekisho_registration_Factor__VALUES_1 K12q
      have E_va_12 := E_va_1.keep K12q
      have F_t0_key_12 := F_t0_key_1.keep K12q nin0
      have Y_k0_12 := Y_k0_1.keep0 K12q
      have F_t1_key_12 := F_t1_key_1.keep K12q nin0
      have Y_k1_12 := Y_k1_1.keep0 K12q
      have S_java_util_Optional_EMPTY_12 := own_sta0 S_java_util_Optional_EMPTY_1 K12q
      have E_em_12 := E_em_1.keep K12q
      have F_em_value_12 := F_em_value_1.keep K12q nin0
      have S_java_lang_String_COMPACT_STRINGS_12 := own_sta0 S_java_lang_String_COMPACT_STRINGS_1 K12q
      have Y_va_12 := Y_va_1.keep0 K12q
      have S_com_example_sekisho_sekisho_registration_Factor_TOTP_12 := own_sta0 S_com_example_sekisho_sekisho_registration_Factor_TOTP_1 K12q
      have E_t0_12 := E_t0_1.keep K12q
      have S_com_example_sekisho_sekisho_registration_Factor_EMAIL_12 := own_sta0 S_com_example_sekisho_sekisho_registration_Factor_EMAIL_1 K12q
      have E_t1_12 := E_t1_1.keep K12q
      have Y_sa_12 := Y1q.keep0 K12q
      have Zs13 := Nat.le_trans Zs2 K12q.1
      have hk14 := Nat.le_trans hki1 K12q.1
      have Kk12 := KK1.trans K12q all0
      have Kz12 := Kk1.trans K12q all0
      have pre8 : ∀ t, Steps p.tables e below (T12.setTop (mkF m 44 #[.val (.int p0), .val (.int p1), .val (.int p2), .val (.int ev), .val (.int (((p0.toUInt32 >>> ((1 : Int32) &&& 31).toUInt32).toInt32) &&& (7 : Int32))), .val (.int ((p2 &&& (255 : Int32)).toUInt32.toUInt16.toUInt32.toInt32)), .val (.ref sa), .unset, .unset] [(.ref oo)])) t → Steps p.tables e below (s₁.setTop (entryFrame m #[(.int p0), (.int p1), (.int p2)] maxLocals)) t := by
        intro t k
        refine pre3 t ?_
        show Steps p.tables e below (T1.setTop (mkF m 37 #[.val (.int p0), .val (.int p1), .val (.int p2), .val (.int ev), .val (.int (((p0.toUInt32 >>> ((1 : Int32) &&& 31).toUInt32).toInt32) &&& (7 : Int32))), .val (.int ((p2 &&& (255 : Int32)).toUInt32.toUInt16.toUInt32.toInt32)), .unset, .unset, .unset] [(.ref sa)])) _
        refine XS.astore X1.here hx rfl (hb hby at_37) rfl rfl (l' := #[.val (.int p0), .val (.int p1), .val (.int p2), .val (.int ev), .val (.int (((p0.toUInt32 >>> ((1 : Int32) &&& 31).toUInt32).toInt32) &&& (7 : Int32))), .val (.int ((p2 &&& (255 : Int32)).toUInt32.toUInt16.toUInt32.toInt32)), .val (.ref sa), .unset, .unset]) rfl ?_
        show Steps p.tables e below (T1.setTop (mkF m 39 #[.val (.int p0), .val (.int p1), .val (.int p2), .val (.int ev), .val (.int (((p0.toUInt32 >>> ((1 : Int32) &&& 31).toUInt32).toInt32) &&& (7 : Int32))), .val (.int ((p2 &&& (255 : Int32)).toUInt32.toUInt16.toUInt32.toInt32)), .val (.ref sa), .unset, .unset] [])) _
        refine XS.aload X1.here hx rfl (hb hby at_39) rfl rfl ?_
        show Steps p.tables e below (T1.setTop (mkF m 41 #[.val (.int p0), .val (.int p1), .val (.int p2), .val (.int ev), .val (.int (((p0.toUInt32 >>> ((1 : Int32) &&& 31).toUInt32).toInt32) &&& (7 : Int32))), .val (.int ((p2 &&& (255 : Int32)).toUInt32.toUInt16.toUInt32.toInt32)), .val (.ref sa), .unset, .unset] [(.ref sa)])) _
        refine st12 _ ?_
        exact k
      obtain ⟨cq15, kq15, q15a, q15b, q15c⟩ := isOf hZ rfl Eo
      obtain ⟨_, _, ⟨T15, L15, k15, n15⟩, -, X15, ⟨Lc15, hQ15, l15, y15, z15⟩, st15⟩ := X12.virtualBack hx (y := (⟨"java/util/Optional", "orElse", "(Ljava/lang/Object;)Ljava/lang/Object;"⟩ : MethodName)) (z := (⟨"java/util/Optional", "orElse", "(Ljava/lang/Object;)Ljava/lang/Object;"⟩ : MethodName)) hown (mvT hZ (hw _ (List.mem_of_getElem? (i := 83) rfl))) (mvT hZ (hw _ (List.mem_of_getElem? (i := 84) rfl))) (notFace_of_selects (args := #[]) (mvT hZ (hw _ (List.mem_of_getElem? (i := 86) rfl)))) (mvT hZ (hw _ (List.mem_of_getElem? (i := 86) rfl))) (mvT hZ (hw _ (List.mem_of_getElem? (i := 85) rfl))) (by decide) (backOf (W := 0) (rm15r l Z a0 hw [] oo t1 T12.heap n0 Zs13 Fo) hZ (hw _ (List.mem_of_getElem? (i := 87) rfl)) (hw _ (List.mem_of_getElem? (i := 72) rfl)) (by decide) (by decide)) q15a q15c (g := (mkF m 49 #[.val (.int p0), .val (.int p1), .val (.int p2), .val (.int ev), .val (.int (((p0.toUInt32 >>> ((1 : Int32) &&& 31).toUInt32).toInt32) &&& (7 : Int32))), .val (.int ((p2 &&& (255 : Int32)).toUInt32.toUInt16.toUInt32.toInt32)), .val (.ref sa), .val (.ref oo), .unset] [.null, (.ref oo)])) rfl (by rw [hml]; rfl) (Steps.refl _) (argsL := [.null]) (rest := []) (lenOf pd_8 rfl) rfl (by show 2 * 0 + _ ≤ _; exact Nat.le_of_eq rfl) (hb hby at_49) (fun _ _ => ⟨rfl, rfl, (by decide : 5 + 0 ≤ _), (by decide : 67 + 0 ≤ _)⟩)
      dsimp only [Pt.U, Pt.locs, Pt.cells, Pt.slots] at X15 l15 y15 z15 st15 hQ15
      subst l15 y15 z15
      obtain ⟨rfl, N15q, e15q⟩ := hQ15
      have N15 := Fr.app N12 N15q
      have pre9 : ∀ t, Steps p.tables e below (T15.setTop (mkF m 52 #[.val (.int p0), .val (.int p1), .val (.int p2), .val (.int ev), .val (.int (((p0.toUInt32 >>> ((1 : Int32) &&& 31).toUInt32).toInt32) &&& (7 : Int32))), .val (.int ((p2 &&& (255 : Int32)).toUInt32.toUInt16.toUInt32.toInt32)), .val (.ref sa), .val (.ref oo), .unset] [(.ref t1)])) t → Steps p.tables e below (s₁.setTop (entryFrame m #[(.int p0), (.int p1), (.int p2)] maxLocals)) t := by
        intro t k
        refine pre8 t ?_
        show Steps p.tables e below (T12.setTop (mkF m 44 #[.val (.int p0), .val (.int p1), .val (.int p2), .val (.int ev), .val (.int (((p0.toUInt32 >>> ((1 : Int32) &&& 31).toUInt32).toInt32) &&& (7 : Int32))), .val (.int ((p2 &&& (255 : Int32)).toUInt32.toUInt16.toUInt32.toInt32)), .val (.ref sa), .unset, .unset] [(.ref oo)])) _
        refine XS.astore X12.here hx rfl (hb hby at_44) rfl rfl (l' := #[.val (.int p0), .val (.int p1), .val (.int p2), .val (.int ev), .val (.int (((p0.toUInt32 >>> ((1 : Int32) &&& 31).toUInt32).toInt32) &&& (7 : Int32))), .val (.int ((p2 &&& (255 : Int32)).toUInt32.toUInt16.toUInt32.toInt32)), .val (.ref sa), .val (.ref oo), .unset]) rfl ?_
        show Steps p.tables e below (T12.setTop (mkF m 46 #[.val (.int p0), .val (.int p1), .val (.int p2), .val (.int ev), .val (.int (((p0.toUInt32 >>> ((1 : Int32) &&& 31).toUInt32).toInt32) &&& (7 : Int32))), .val (.int ((p2 &&& (255 : Int32)).toUInt32.toUInt16.toUInt32.toInt32)), .val (.ref sa), .val (.ref oo), .unset] [])) _
        refine XS.aload X12.here hx rfl (hb hby at_46) rfl rfl ?_
        show Steps p.tables e below (T12.setTop (mkF m 48 #[.val (.int p0), .val (.int p1), .val (.int p2), .val (.int ev), .val (.int (((p0.toUInt32 >>> ((1 : Int32) &&& 31).toUInt32).toInt32) &&& (7 : Int32))), .val (.int ((p2 &&& (255 : Int32)).toUInt32.toUInt16.toUInt32.toInt32)), .val (.ref sa), .val (.ref oo), .unset] [(.ref oo)])) _
        refine XS.aconstNull X12.here hx rfl (hb hby at_48) ?_
        show Steps p.tables e below (T12.setTop (mkF m 49 #[.val (.int p0), .val (.int p1), .val (.int p2), .val (.int ev), .val (.int (((p0.toUInt32 >>> ((1 : Int32) &&& 31).toUInt32).toInt32) &&& (7 : Int32))), .val (.int ((p2 &&& (255 : Int32)).toUInt32.toUInt16.toUInt32.toInt32)), .val (.ref sa), .val (.ref oo), .unset] [.null, (.ref oo)])) _
        refine st15.trans ?_
        exact k
      obtain ⟨T16, X16, e16, st16⟩ := castY X15 hx hZ hown (hw _ (List.mem_of_getElem? (i := 88) rfl)) e15q (Ins.self E_t1_12) (g := (mkF m 52 #[.val (.int p0), .val (.int p1), .val (.int p2), .val (.int ev), .val (.int (((p0.toUInt32 >>> ((1 : Int32) &&& 31).toUInt32).toInt32) &&& (7 : Int32))), .val (.int ((p2 &&& (255 : Int32)).toUInt32.toUInt16.toUInt32.toInt32)), .val (.ref sa), .val (.ref oo), .unset] [(.ref t1)])) rfl rfl (hb hby at_52)
      have pre10 : ∀ t, Steps p.tables e below (T16.setTop (mkF m 61 #[.val (.int p0), .val (.int p1), .val (.int p2), .val (.int ev), .val (.int (((p0.toUInt32 >>> ((1 : Int32) &&& 31).toUInt32).toInt32) &&& (7 : Int32))), .val (.int ((p2 &&& (255 : Int32)).toUInt32.toUInt16.toUInt32.toInt32)), .val (.ref sa), .val (.ref oo), .val (.ref t1)] [(.ref sa), (.ref t1)])) t → Steps p.tables e below (s₁.setTop (entryFrame m #[(.int p0), (.int p1), (.int p2)] maxLocals)) t := by
        intro t k
        refine pre9 t ?_
        show Steps p.tables e below (T15.setTop (mkF m 52 #[.val (.int p0), .val (.int p1), .val (.int p2), .val (.int ev), .val (.int (((p0.toUInt32 >>> ((1 : Int32) &&& 31).toUInt32).toInt32) &&& (7 : Int32))), .val (.int ((p2 &&& (255 : Int32)).toUInt32.toUInt16.toUInt32.toInt32)), .val (.ref sa), .val (.ref oo), .unset] [(.ref t1)])) _
        refine st16 _ ?_
        show Steps p.tables e below (T16.setTop (mkF m 55 #[.val (.int p0), .val (.int p1), .val (.int p2), .val (.int ev), .val (.int (((p0.toUInt32 >>> ((1 : Int32) &&& 31).toUInt32).toInt32) &&& (7 : Int32))), .val (.int ((p2 &&& (255 : Int32)).toUInt32.toUInt16.toUInt32.toInt32)), .val (.ref sa), .val (.ref oo), .unset] [(.ref t1)])) _
        refine XS.astore X16.here hx rfl (hb hby at_55) rfl rfl (l' := #[.val (.int p0), .val (.int p1), .val (.int p2), .val (.int ev), .val (.int (((p0.toUInt32 >>> ((1 : Int32) &&& 31).toUInt32).toInt32) &&& (7 : Int32))), .val (.int ((p2 &&& (255 : Int32)).toUInt32.toUInt16.toUInt32.toInt32)), .val (.ref sa), .val (.ref oo), .val (.ref t1)]) rfl ?_
        show Steps p.tables e below (T16.setTop (mkF m 57 #[.val (.int p0), .val (.int p1), .val (.int p2), .val (.int ev), .val (.int (((p0.toUInt32 >>> ((1 : Int32) &&& 31).toUInt32).toInt32) &&& (7 : Int32))), .val (.int ((p2 &&& (255 : Int32)).toUInt32.toUInt16.toUInt32.toInt32)), .val (.ref sa), .val (.ref oo), .val (.ref t1)] [])) _
        refine XS.aload X16.here hx rfl (hb hby at_57) rfl rfl ?_
        show Steps p.tables e below (T16.setTop (mkF m 59 #[.val (.int p0), .val (.int p1), .val (.int p2), .val (.int ev), .val (.int (((p0.toUInt32 >>> ((1 : Int32) &&& 31).toUInt32).toInt32) &&& (7 : Int32))), .val (.int ((p2 &&& (255 : Int32)).toUInt32.toUInt16.toUInt32.toInt32)), .val (.ref sa), .val (.ref oo), .val (.ref t1)] [(.ref t1)])) _
        refine XS.aload X16.here hx rfl (hb hby at_59) rfl rfl ?_
        exact k
      obtain ⟨_, _, ⟨T17, L17, k17, n17⟩, -, Xa17, hSa17, hsz17, ⟨Lc17, hQ17, l17, y17, z17, hC17⟩, st17⟩ := callSS X16 hx (y := (⟨"com/example/sekisho/sekisho/registration/FactorOfKeyPinLaw", "expected", "(Ljava/lang/String;)Lcom/example/sekisho/sekisho/registration/Factor;"⟩ : MethodName)) hown (mvT hZ (hw _ (List.mem_of_getElem? (i := 90) rfl))) (mvT hZ (hw _ (List.mem_of_getElem? (i := 91) rfl))) (mvT hZ (hw _ (List.mem_of_getElem? (i := 2) rfl))) (mvT hZ (hw _ (List.mem_of_getElem? (i := 92) rfl))) (by decide) (backOfSH (s := s) (vm0 := T1.vm) (W := 1) (rm16x1 l Z a0 hw [] sa t0 t1 G1 cs T12.heap n0 Zs13 Y_sa_12 S_com_example_sekisho_sekisho_registration_Factor_TOTP_12 S_com_example_sekisho_sekisho_registration_Factor_EMAIL_12 S_java_lang_String_COMPACT_STRINGS_12 P5 q0 q1) hZ (hw _ (List.mem_of_getElem? (i := 92) rfl)) (hw _ (List.mem_of_getElem? (i := 2) rfl)) (by decide) (by decide) hEL (CHv.keep Kk12 sf0 hC1.1)) (g := (mkF m 61 #[.val (.int p0), .val (.int p1), .val (.int p2), .val (.int ev), .val (.int (((p0.toUInt32 >>> ((1 : Int32) &&& 31).toUInt32).toInt32) &&& (7 : Int32))), .val (.int ((p2 &&& (255 : Int32)).toUInt32.toUInt16.toUInt32.toInt32)), .val (.ref sa), .val (.ref oo), .val (.ref t1)] [(.ref sa), (.ref t1)])) rfl (by rw [hml]; rfl) (argsL := [(.ref sa)]) (rest := [(.ref t1)]) (lenOf pd_9 rfl) rfl (by show 2 * 0 + _ ≤ _; exact Nat.le_of_eq rfl) (hb hby at_61) (fun _ _ => ⟨rfl, e16, (by decide : 5 + 4 ≤ _), (by decide : 67 + 128 ≤ _)⟩)
      dsimp only [Pt.U, Pt.locs, Pt.cells, Pt.slots] at Xa17 l17 y17 z17 st17 hQ17 hSa17 hsz17 hC17
      subst l17 y17 z17
      obtain ⟨rfl, N17q, K17q⟩ := hQ17
      have N17 := Fr.app N15 N17q
      obtain ⟨X17, hSi17, hZ, hown⟩ := rebS (s := s) (vm0 := T1.vm) hSi1 (by rw [e16]; exact hk14) Xa17 hSa17 hsz17 hZ hown
      have S_com_example_sekisho_sekisho_registration_Factor__VALUES_17 := own_sta0 S_com_example_sekisho_sekisho_registration_Factor__VALUES_12 K17q
      have E_va_17 := E_va_12.keep K17q
      have F_t0_key_17 := F_t0_key_12.keep K17q nin0
      have Y_k0_17 := Y_k0_12.keep0 K17q
      have F_t1_key_17 := F_t1_key_12.keep K17q nin0
      have Y_k1_17 := Y_k1_12.keep0 K17q
      have S_java_util_Optional_EMPTY_17 := own_sta0 S_java_util_Optional_EMPTY_12 K17q
      have E_em_17 := E_em_12.keep K17q
      have F_em_value_17 := F_em_value_12.keep K17q nin0
      have S_java_lang_String_COMPACT_STRINGS_17 := own_sta0 S_java_lang_String_COMPACT_STRINGS_12 K17q
      have Y_va_17 := Y_va_12.keep0 K17q
      have S_com_example_sekisho_sekisho_registration_Factor_TOTP_17 := own_sta0 S_com_example_sekisho_sekisho_registration_Factor_TOTP_12 K17q
      have E_t0_17 := E_t0_12.keep K17q
      have S_com_example_sekisho_sekisho_registration_Factor_EMAIL_17 := own_sta0 S_com_example_sekisho_sekisho_registration_Factor_EMAIL_12 K17q
      have E_t1_17 := E_t1_12.keep K17q
      have Y_sa_17 := Y_sa_12.keep0 K17q
      have E_oo_17 := Eo.keep K17q
      have F_oo_value_17 := Fo.keep K17q nin0
      have Zs18 := Nat.le_trans Zs13 K17q.1
      have hk19 := Nat.le_trans hk14 K17q.1
      have Kk17 := Kk12.trans K17q all0
      have Kz17 := Kz12.trans K17q all0
      have CRn17 := CHr.trans (CHr.trans CRn1 (CHr.keep Kk12 sf0 hC1.1)) hC17
      have KK17 := Keep.refl T17.heap ([] : List Addr)
      have hki17 : T17.heap.size ≤ T17.heap.size := Nat.le_refl _
      have pre11 : ∀ t, Steps p.tables e below (T17.setTop (mkF m 64 #[.val (.int p0), .val (.int p1), .val (.int p2), .val (.int ev), .val (.int (((p0.toUInt32 >>> ((1 : Int32) &&& 31).toUInt32).toInt32) &&& (7 : Int32))), .val (.int ((p2 &&& (255 : Int32)).toUInt32.toUInt16.toUInt32.toInt32)), .val (.ref sa), .val (.ref oo), .val (.ref t1)] [(.ref t1), (.ref t1)])) t → Steps p.tables e below (s₁.setTop (entryFrame m #[(.int p0), (.int p1), (.int p2)] maxLocals)) t := by
        intro t k
        refine pre10 t ?_
        show Steps p.tables e below (T16.setTop (mkF m 61 #[.val (.int p0), .val (.int p1), .val (.int p2), .val (.int ev), .val (.int (((p0.toUInt32 >>> ((1 : Int32) &&& 31).toUInt32).toInt32) &&& (7 : Int32))), .val (.int ((p2 &&& (255 : Int32)).toUInt32.toUInt16.toUInt32.toInt32)), .val (.ref sa), .val (.ref oo), .val (.ref t1)] [(.ref sa), (.ref t1)])) _
        refine st17.trans ?_
        exact k
      obtain ⟨fs, hr, hrun, hended, hEnd⟩ := Stand.leaveW (s := s) (vm₁ := T17.vm) X17 hSi17 (by exact hki17) (v := some (.int (1 : Int32))) (fun h => by rw [Bd.returns] at h; cases h)
      refine ⟨_, _, pre11 _ ?_, hrun, hended, _, _, rfl, ?_, hEnd.1, hEnd.2.1, hEnd.2.2.1, hEnd.2.2.2.mono (by decide) (by decide)⟩
      · show Steps p.tables e below (T17.setTop (mkF m 64 #[.val (.int p0), .val (.int p1), .val (.int p2), .val (.int ev), .val (.int (((p0.toUInt32 >>> ((1 : Int32) &&& 31).toUInt32).toInt32) &&& (7 : Int32))), .val (.int ((p2 &&& (255 : Int32)).toUInt32.toUInt16.toUInt32.toInt32)), .val (.ref sa), .val (.ref oo), .val (.ref t1)] [(.ref t1), (.ref t1)])) _
        refine Jvm.RoadKit.acmp (g := (mkF m 64 #[.val (.int p0), .val (.int p1), .val (.int p2), .val (.int ev), .val (.int (((p0.toUInt32 >>> ((1 : Int32) &&& 31).toUInt32).toInt32) &&& (7 : Int32))), .val (.int ((p2 &&& (255 : Int32)).toUInt32.toUInt16.toUInt32.toInt32)), .val (.ref sa), .val (.ref oo), .val (.ref t1)] [(.ref t1), (.ref t1)])) X17 hx rfl rfl rfl (pc0 := 64) (pc' := 67) (same := true) rfl (hb hby at_64) rfl (decide_eq_true rfl) (by decide) (by decide) ?_
        show Steps p.tables e below (T17.setTop (mkF m 67 #[.val (.int p0), .val (.int p1), .val (.int p2), .val (.int ev), .val (.int (((p0.toUInt32 >>> ((1 : Int32) &&& 31).toUInt32).toInt32) &&& (7 : Int32))), .val (.int ((p2 &&& (255 : Int32)).toUInt32.toUInt16.toUInt32.toInt32)), .val (.ref sa), .val (.ref oo), .val (.ref t1)] [])) _
        refine XS.iconst X17.here hx rfl (hb hby at_67) ?_
        show Steps p.tables e below (T17.setTop (mkF m 68 #[.val (.int p0), .val (.int p1), .val (.int p2), .val (.int ev), .val (.int (((p0.toUInt32 >>> ((1 : Int32) &&& 31).toUInt32).toInt32) &&& (7 : Int32))), .val (.int ((p2 &&& (255 : Int32)).toUInt32.toUInt16.toUInt32.toInt32)), .val (.ref sa), .val (.ref oo), .val (.ref t1)] [(.int (1 : Int32))])) _
        refine XS.goto X17.here hx rfl (pc0 := 68) (pc' := 72) rfl (hb hby at_68) (by decide) (by decide) ?_
        show Steps p.tables e below (T17.setTop (mkF m 72 #[.val (.int p0), .val (.int p1), .val (.int p2), .val (.int ev), .val (.int (((p0.toUInt32 >>> ((1 : Int32) &&& 31).toUInt32).toInt32) &&& (7 : Int32))), .val (.int ((p2 &&& (255 : Int32)).toUInt32.toUInt16.toUInt32.toInt32)), .val (.ref sa), .val (.ref oo), .val (.ref t1)] [(.int (1 : Int32))])) _
        exact retN X17 hx (t := .boolean) Bd.returns (by simp) (hb hby at_72) hr
      · show Q0 Z p0 p1 p2 va cl t0 t1 k0 k1 em G1 h0 n0 _ T17.heap _
        exact ⟨rfl, N17⟩
    · skip
      obtain ⟨_, _, ⟨T20, L20, k20, n20⟩, -, X20, ⟨Lc20, hQ20, l20, y20, z20⟩, st20⟩ := Jvm.LawKit.callS X1 hx (y := (⟨"com/example/sekisho/sekisho/registration/Factor", "ofKey", "(Ljava/lang/String;)Ljava/util/Optional;"⟩ : MethodName)) hown (mvT hZ (hw _ (List.mem_of_getElem? (i := 37) rfl))) (mvT hZ (hw _ (List.mem_of_getElem? (i := 38) rfl))) (mvT hZ (hw _ (List.mem_of_getElem? (i := 39) rfl))) (mvT hZ (hw _ (List.mem_of_getElem? (i := 40) rfl))) (by decide) (backOf (W := 0) (rm9x2 l Z a0 hw [] sa va cl t0 t1 k0 k1 em G1 cs T1.heap n0 Zs2 S_com_example_sekisho_sekisho_registration_Factor__VALUES_1 Y_va_1 E_va_1 Fc Sz hs0 hs1 F_t0_key_1 F_t1_key_1 Y_k0_1 Y_k1_1 S_java_util_Optional_EMPTY_1 E_em_1 F_em_value_1 S_java_lang_String_COMPACT_STRINGS_1 P5 Y1q q0 q1) hZ (hw _ (List.mem_of_getElem? (i := 40) rfl)) (hw _ (List.mem_of_getElem? (i := 39) rfl)) (by decide) (by decide)) (g := (mkF m 41 #[.val (.int p0), .val (.int p1), .val (.int p2), .val (.int ev), .val (.int (((p0.toUInt32 >>> ((1 : Int32) &&& 31).toUInt32).toInt32) &&& (7 : Int32))), .val (.int ((p2 &&& (255 : Int32)).toUInt32.toUInt16.toUInt32.toInt32)), .val (.ref sa), .unset, .unset] [(.ref sa)])) rfl (by rw [hml]; rfl) (argsL := [(.ref sa)]) (rest := []) (lenOf pd_7 rfl) rfl (by show 2 * 0 + _ ≤ _; exact Nat.le_of_eq rfl) (hb hby at_41) (fun _ _ => ⟨rfl, rfl, (by decide : 3 + 2 ≤ _), (by decide : 64 + 3 ≤ _)⟩)
      dsimp only [Pt.U, Pt.locs, Pt.cells, Pt.slots] at X20 l20 y20 z20 st20 hQ20
      subst l20 y20 z20
      obtain ⟨oo, rfl, N20q, K20q, Eo, Fo⟩ := hQ20
      have N20 := Fr.app N1 N20q
      have S_com_example_sekisho_sekisho_registration_Factor__VALUES_20 := own_sta0 S_com_example_sekisho_sekisho_registration_Factor__VALUES_1 K20q
      have E_va_20 := E_va_1.keep K20q
      have F_t0_key_20 := F_t0_key_1.keep K20q nin0
      have Y_k0_20 := Y_k0_1.keep0 K20q
      have F_t1_key_20 := F_t1_key_1.keep K20q nin0
      have Y_k1_20 := Y_k1_1.keep0 K20q
      have S_java_util_Optional_EMPTY_20 := own_sta0 S_java_util_Optional_EMPTY_1 K20q
      have E_em_20 := E_em_1.keep K20q
      have F_em_value_20 := F_em_value_1.keep K20q nin0
      have S_java_lang_String_COMPACT_STRINGS_20 := own_sta0 S_java_lang_String_COMPACT_STRINGS_1 K20q
      have Y_va_20 := Y_va_1.keep0 K20q
      have S_com_example_sekisho_sekisho_registration_Factor_TOTP_20 := own_sta0 S_com_example_sekisho_sekisho_registration_Factor_TOTP_1 K20q
      have E_t0_20 := E_t0_1.keep K20q
      have S_com_example_sekisho_sekisho_registration_Factor_EMAIL_20 := own_sta0 S_com_example_sekisho_sekisho_registration_Factor_EMAIL_1 K20q
      have E_t1_20 := E_t1_1.keep K20q
      have Y_sa_20 := Y1q.keep0 K20q
      have Zs21 := Nat.le_trans Zs2 K20q.1
      have hk22 := Nat.le_trans hki1 K20q.1
      have Kk20 := KK1.trans K20q all0
      have Kz20 := Kk1.trans K20q all0
      have pre12 : ∀ t, Steps p.tables e below (T20.setTop (mkF m 44 #[.val (.int p0), .val (.int p1), .val (.int p2), .val (.int ev), .val (.int (((p0.toUInt32 >>> ((1 : Int32) &&& 31).toUInt32).toInt32) &&& (7 : Int32))), .val (.int ((p2 &&& (255 : Int32)).toUInt32.toUInt16.toUInt32.toInt32)), .val (.ref sa), .unset, .unset] [(.ref oo)])) t → Steps p.tables e below (s₁.setTop (entryFrame m #[(.int p0), (.int p1), (.int p2)] maxLocals)) t := by
        intro t k
        refine pre3 t ?_
        show Steps p.tables e below (T1.setTop (mkF m 37 #[.val (.int p0), .val (.int p1), .val (.int p2), .val (.int ev), .val (.int (((p0.toUInt32 >>> ((1 : Int32) &&& 31).toUInt32).toInt32) &&& (7 : Int32))), .val (.int ((p2 &&& (255 : Int32)).toUInt32.toUInt16.toUInt32.toInt32)), .unset, .unset, .unset] [(.ref sa)])) _
        refine XS.astore X1.here hx rfl (hb hby at_37) rfl rfl (l' := #[.val (.int p0), .val (.int p1), .val (.int p2), .val (.int ev), .val (.int (((p0.toUInt32 >>> ((1 : Int32) &&& 31).toUInt32).toInt32) &&& (7 : Int32))), .val (.int ((p2 &&& (255 : Int32)).toUInt32.toUInt16.toUInt32.toInt32)), .val (.ref sa), .unset, .unset]) rfl ?_
        show Steps p.tables e below (T1.setTop (mkF m 39 #[.val (.int p0), .val (.int p1), .val (.int p2), .val (.int ev), .val (.int (((p0.toUInt32 >>> ((1 : Int32) &&& 31).toUInt32).toInt32) &&& (7 : Int32))), .val (.int ((p2 &&& (255 : Int32)).toUInt32.toUInt16.toUInt32.toInt32)), .val (.ref sa), .unset, .unset] [])) _
        refine XS.aload X1.here hx rfl (hb hby at_39) rfl rfl ?_
        show Steps p.tables e below (T1.setTop (mkF m 41 #[.val (.int p0), .val (.int p1), .val (.int p2), .val (.int ev), .val (.int (((p0.toUInt32 >>> ((1 : Int32) &&& 31).toUInt32).toInt32) &&& (7 : Int32))), .val (.int ((p2 &&& (255 : Int32)).toUInt32.toUInt16.toUInt32.toInt32)), .val (.ref sa), .unset, .unset] [(.ref sa)])) _
        refine st20 _ ?_
        exact k
      obtain ⟨cq23, kq23, q23a, q23b, q23c⟩ := isOf hZ rfl Eo
      obtain ⟨_, _, ⟨T23, L23, k23, n23⟩, -, X23, ⟨Lc23, hQ23, l23, y23, z23⟩, st23⟩ := X20.virtualBack hx (y := (⟨"java/util/Optional", "orElse", "(Ljava/lang/Object;)Ljava/lang/Object;"⟩ : MethodName)) (z := (⟨"java/util/Optional", "orElse", "(Ljava/lang/Object;)Ljava/lang/Object;"⟩ : MethodName)) hown (mvT hZ (hw _ (List.mem_of_getElem? (i := 83) rfl))) (mvT hZ (hw _ (List.mem_of_getElem? (i := 84) rfl))) (notFace_of_selects (args := #[]) (mvT hZ (hw _ (List.mem_of_getElem? (i := 86) rfl)))) (mvT hZ (hw _ (List.mem_of_getElem? (i := 86) rfl))) (mvT hZ (hw _ (List.mem_of_getElem? (i := 85) rfl))) (by decide) (backOf (W := 0) (rm15n l Z a0 hw [] oo T20.heap n0 Zs21 Fo) hZ (hw _ (List.mem_of_getElem? (i := 87) rfl)) (hw _ (List.mem_of_getElem? (i := 72) rfl)) (by decide) (by decide)) q23a q23c (g := (mkF m 49 #[.val (.int p0), .val (.int p1), .val (.int p2), .val (.int ev), .val (.int (((p0.toUInt32 >>> ((1 : Int32) &&& 31).toUInt32).toInt32) &&& (7 : Int32))), .val (.int ((p2 &&& (255 : Int32)).toUInt32.toUInt16.toUInt32.toInt32)), .val (.ref sa), .val (.ref oo), .unset] [.null, (.ref oo)])) rfl (by rw [hml]; rfl) (Steps.refl _) (argsL := [.null]) (rest := []) (lenOf pd_8 rfl) rfl (by show 2 * 0 + _ ≤ _; exact Nat.le_of_eq rfl) (hb hby at_49) (fun _ _ => ⟨rfl, rfl, (by decide : 5 + 0 ≤ _), (by decide : 67 + 0 ≤ _)⟩)
      dsimp only [Pt.U, Pt.locs, Pt.cells, Pt.slots] at X23 l23 y23 z23 st23 hQ23
      subst l23 y23 z23
      obtain ⟨rfl, N23q, e23q⟩ := hQ23
      have N23 := Fr.app N20 N23q
      have pre13 : ∀ t, Steps p.tables e below (T23.setTop (mkF m 52 #[.val (.int p0), .val (.int p1), .val (.int p2), .val (.int ev), .val (.int (((p0.toUInt32 >>> ((1 : Int32) &&& 31).toUInt32).toInt32) &&& (7 : Int32))), .val (.int ((p2 &&& (255 : Int32)).toUInt32.toUInt16.toUInt32.toInt32)), .val (.ref sa), .val (.ref oo), .unset] [.null])) t → Steps p.tables e below (s₁.setTop (entryFrame m #[(.int p0), (.int p1), (.int p2)] maxLocals)) t := by
        intro t k
        refine pre12 t ?_
        show Steps p.tables e below (T20.setTop (mkF m 44 #[.val (.int p0), .val (.int p1), .val (.int p2), .val (.int ev), .val (.int (((p0.toUInt32 >>> ((1 : Int32) &&& 31).toUInt32).toInt32) &&& (7 : Int32))), .val (.int ((p2 &&& (255 : Int32)).toUInt32.toUInt16.toUInt32.toInt32)), .val (.ref sa), .unset, .unset] [(.ref oo)])) _
        refine XS.astore X20.here hx rfl (hb hby at_44) rfl rfl (l' := #[.val (.int p0), .val (.int p1), .val (.int p2), .val (.int ev), .val (.int (((p0.toUInt32 >>> ((1 : Int32) &&& 31).toUInt32).toInt32) &&& (7 : Int32))), .val (.int ((p2 &&& (255 : Int32)).toUInt32.toUInt16.toUInt32.toInt32)), .val (.ref sa), .val (.ref oo), .unset]) rfl ?_
        show Steps p.tables e below (T20.setTop (mkF m 46 #[.val (.int p0), .val (.int p1), .val (.int p2), .val (.int ev), .val (.int (((p0.toUInt32 >>> ((1 : Int32) &&& 31).toUInt32).toInt32) &&& (7 : Int32))), .val (.int ((p2 &&& (255 : Int32)).toUInt32.toUInt16.toUInt32.toInt32)), .val (.ref sa), .val (.ref oo), .unset] [])) _
        refine XS.aload X20.here hx rfl (hb hby at_46) rfl rfl ?_
        show Steps p.tables e below (T20.setTop (mkF m 48 #[.val (.int p0), .val (.int p1), .val (.int p2), .val (.int ev), .val (.int (((p0.toUInt32 >>> ((1 : Int32) &&& 31).toUInt32).toInt32) &&& (7 : Int32))), .val (.int ((p2 &&& (255 : Int32)).toUInt32.toUInt16.toUInt32.toInt32)), .val (.ref sa), .val (.ref oo), .unset] [(.ref oo)])) _
        refine XS.aconstNull X20.here hx rfl (hb hby at_48) ?_
        show Steps p.tables e below (T20.setTop (mkF m 49 #[.val (.int p0), .val (.int p1), .val (.int p2), .val (.int ev), .val (.int (((p0.toUInt32 >>> ((1 : Int32) &&& 31).toUInt32).toInt32) &&& (7 : Int32))), .val (.int ((p2 &&& (255 : Int32)).toUInt32.toUInt16.toUInt32.toInt32)), .val (.ref sa), .val (.ref oo), .unset] [.null, (.ref oo)])) _
        refine st23.trans ?_
        exact k
      have pre14 : ∀ t, Steps p.tables e below (T23.setTop (mkF m 61 #[.val (.int p0), .val (.int p1), .val (.int p2), .val (.int ev), .val (.int (((p0.toUInt32 >>> ((1 : Int32) &&& 31).toUInt32).toInt32) &&& (7 : Int32))), .val (.int ((p2 &&& (255 : Int32)).toUInt32.toUInt16.toUInt32.toInt32)), .val (.ref sa), .val (.ref oo), .val .null] [(.ref sa), .null])) t → Steps p.tables e below (s₁.setTop (entryFrame m #[(.int p0), (.int p1), (.int p2)] maxLocals)) t := by
        intro t k
        refine pre13 t ?_
        show Steps p.tables e below (T23.setTop (mkF m 52 #[.val (.int p0), .val (.int p1), .val (.int p2), .val (.int ev), .val (.int (((p0.toUInt32 >>> ((1 : Int32) &&& 31).toUInt32).toInt32) &&& (7 : Int32))), .val (.int ((p2 &&& (255 : Int32)).toUInt32.toUInt16.toUInt32.toInt32)), .val (.ref sa), .val (.ref oo), .unset] [.null])) _
        refine X23.checkcastNull hx (g := (mkF m 52 #[.val (.int p0), .val (.int p1), .val (.int p2), .val (.int ev), .val (.int (((p0.toUInt32 >>> ((1 : Int32) &&& 31).toUInt32).toInt32) &&& (7 : Int32))), .val (.int ((p2 &&& (255 : Int32)).toUInt32.toUInt16.toUInt32.toInt32)), .val (.ref sa), .val (.ref oo), .unset] [.null])) rfl rfl (hb hby at_52) _ ?_
        show Steps p.tables e below (T23.setTop (mkF m 55 #[.val (.int p0), .val (.int p1), .val (.int p2), .val (.int ev), .val (.int (((p0.toUInt32 >>> ((1 : Int32) &&& 31).toUInt32).toInt32) &&& (7 : Int32))), .val (.int ((p2 &&& (255 : Int32)).toUInt32.toUInt16.toUInt32.toInt32)), .val (.ref sa), .val (.ref oo), .unset] [.null])) _
        refine XS.astore X23.here hx rfl (hb hby at_55) rfl rfl (l' := #[.val (.int p0), .val (.int p1), .val (.int p2), .val (.int ev), .val (.int (((p0.toUInt32 >>> ((1 : Int32) &&& 31).toUInt32).toInt32) &&& (7 : Int32))), .val (.int ((p2 &&& (255 : Int32)).toUInt32.toUInt16.toUInt32.toInt32)), .val (.ref sa), .val (.ref oo), .val .null]) rfl ?_
        show Steps p.tables e below (T23.setTop (mkF m 57 #[.val (.int p0), .val (.int p1), .val (.int p2), .val (.int ev), .val (.int (((p0.toUInt32 >>> ((1 : Int32) &&& 31).toUInt32).toInt32) &&& (7 : Int32))), .val (.int ((p2 &&& (255 : Int32)).toUInt32.toUInt16.toUInt32.toInt32)), .val (.ref sa), .val (.ref oo), .val .null] [])) _
        refine XS.aload X23.here hx rfl (hb hby at_57) rfl rfl ?_
        show Steps p.tables e below (T23.setTop (mkF m 59 #[.val (.int p0), .val (.int p1), .val (.int p2), .val (.int ev), .val (.int (((p0.toUInt32 >>> ((1 : Int32) &&& 31).toUInt32).toInt32) &&& (7 : Int32))), .val (.int ((p2 &&& (255 : Int32)).toUInt32.toUInt16.toUInt32.toInt32)), .val (.ref sa), .val (.ref oo), .val .null] [.null])) _
        refine XS.aload X23.here hx rfl (hb hby at_59) rfl rfl ?_
        exact k
      obtain ⟨_, _, ⟨T24, L24, k24, n24⟩, -, Xa24, hSa24, hsz24, ⟨Lc24, hQ24, l24, y24, z24, hC24⟩, st24⟩ := callSS X23 hx (y := (⟨"com/example/sekisho/sekisho/registration/FactorOfKeyPinLaw", "expected", "(Ljava/lang/String;)Lcom/example/sekisho/sekisho/registration/Factor;"⟩ : MethodName)) hown (mvT hZ (hw _ (List.mem_of_getElem? (i := 90) rfl))) (mvT hZ (hw _ (List.mem_of_getElem? (i := 91) rfl))) (mvT hZ (hw _ (List.mem_of_getElem? (i := 2) rfl))) (mvT hZ (hw _ (List.mem_of_getElem? (i := 92) rfl))) (by decide) (backOfSH (s := s) (vm0 := T1.vm) (W := 1) (rm16x2 l Z a0 hw [] sa t0 t1 G1 cs T20.heap n0 Zs21 Y_sa_20 S_com_example_sekisho_sekisho_registration_Factor_TOTP_20 S_com_example_sekisho_sekisho_registration_Factor_EMAIL_20 S_java_lang_String_COMPACT_STRINGS_20 P5 q0 q1) hZ (hw _ (List.mem_of_getElem? (i := 92) rfl)) (hw _ (List.mem_of_getElem? (i := 2) rfl)) (by decide) (by decide) hEL (CHv.keep Kk20 sf0 hC1.1)) (g := (mkF m 61 #[.val (.int p0), .val (.int p1), .val (.int p2), .val (.int ev), .val (.int (((p0.toUInt32 >>> ((1 : Int32) &&& 31).toUInt32).toInt32) &&& (7 : Int32))), .val (.int ((p2 &&& (255 : Int32)).toUInt32.toUInt16.toUInt32.toInt32)), .val (.ref sa), .val (.ref oo), .val .null] [(.ref sa), .null])) rfl (by rw [hml]; rfl) (argsL := [(.ref sa)]) (rest := [.null]) (lenOf pd_9 rfl) rfl (by show 2 * 0 + _ ≤ _; exact Nat.le_of_eq rfl) (hb hby at_61) (fun _ _ => ⟨rfl, e23q, (by decide : 5 + 4 ≤ _), (by decide : 67 + 128 ≤ _)⟩)
      dsimp only [Pt.U, Pt.locs, Pt.cells, Pt.slots] at Xa24 l24 y24 z24 st24 hQ24 hSa24 hsz24 hC24
      subst l24 y24 z24
      obtain ⟨rfl, N24q, K24q⟩ := hQ24
      have N24 := Fr.app N23 N24q
      obtain ⟨X24, hSi24, hZ, hown⟩ := rebS (s := s) (vm0 := T1.vm) hSi1 (by rw [e23q]; exact hk22) Xa24 hSa24 hsz24 hZ hown
      have S_com_example_sekisho_sekisho_registration_Factor__VALUES_24 := own_sta0 S_com_example_sekisho_sekisho_registration_Factor__VALUES_20 K24q
      have E_va_24 := E_va_20.keep K24q
      have F_t0_key_24 := F_t0_key_20.keep K24q nin0
      have Y_k0_24 := Y_k0_20.keep0 K24q
      have F_t1_key_24 := F_t1_key_20.keep K24q nin0
      have Y_k1_24 := Y_k1_20.keep0 K24q
      have S_java_util_Optional_EMPTY_24 := own_sta0 S_java_util_Optional_EMPTY_20 K24q
      have E_em_24 := E_em_20.keep K24q
      have F_em_value_24 := F_em_value_20.keep K24q nin0
      have S_java_lang_String_COMPACT_STRINGS_24 := own_sta0 S_java_lang_String_COMPACT_STRINGS_20 K24q
      have Y_va_24 := Y_va_20.keep0 K24q
      have S_com_example_sekisho_sekisho_registration_Factor_TOTP_24 := own_sta0 S_com_example_sekisho_sekisho_registration_Factor_TOTP_20 K24q
      have E_t0_24 := E_t0_20.keep K24q
      have S_com_example_sekisho_sekisho_registration_Factor_EMAIL_24 := own_sta0 S_com_example_sekisho_sekisho_registration_Factor_EMAIL_20 K24q
      have E_t1_24 := E_t1_20.keep K24q
      have Y_sa_24 := Y_sa_20.keep0 K24q
      have E_oo_24 := Eo.keep K24q
      have F_oo_value_24 := Fo.keep K24q nin0
      have Zs25 := Nat.le_trans Zs21 K24q.1
      have hk26 := Nat.le_trans hk22 K24q.1
      have Kk24 := Kk20.trans K24q all0
      have Kz24 := Kz20.trans K24q all0
      have CRn24 := CHr.trans (CHr.trans CRn1 (CHr.keep Kk20 sf0 hC1.1)) hC24
      have KK24 := Keep.refl T24.heap ([] : List Addr)
      have hki24 : T24.heap.size ≤ T24.heap.size := Nat.le_refl _
      have pre15 : ∀ t, Steps p.tables e below (T24.setTop (mkF m 64 #[.val (.int p0), .val (.int p1), .val (.int p2), .val (.int ev), .val (.int (((p0.toUInt32 >>> ((1 : Int32) &&& 31).toUInt32).toInt32) &&& (7 : Int32))), .val (.int ((p2 &&& (255 : Int32)).toUInt32.toUInt16.toUInt32.toInt32)), .val (.ref sa), .val (.ref oo), .val .null] [.null, .null])) t → Steps p.tables e below (s₁.setTop (entryFrame m #[(.int p0), (.int p1), (.int p2)] maxLocals)) t := by
        intro t k
        refine pre14 t ?_
        show Steps p.tables e below (T23.setTop (mkF m 61 #[.val (.int p0), .val (.int p1), .val (.int p2), .val (.int ev), .val (.int (((p0.toUInt32 >>> ((1 : Int32) &&& 31).toUInt32).toInt32) &&& (7 : Int32))), .val (.int ((p2 &&& (255 : Int32)).toUInt32.toUInt16.toUInt32.toInt32)), .val (.ref sa), .val (.ref oo), .val .null] [(.ref sa), .null])) _
        refine st24.trans ?_
        exact k
      obtain ⟨fs, hr, hrun, hended, hEnd⟩ := Stand.leaveW (s := s) (vm₁ := T24.vm) X24 hSi24 (by exact hki24) (v := some (.int (1 : Int32))) (fun h => by rw [Bd.returns] at h; cases h)
      refine ⟨_, _, pre15 _ ?_, hrun, hended, _, _, rfl, ?_, hEnd.1, hEnd.2.1, hEnd.2.2.1, hEnd.2.2.2.mono (by decide) (by decide)⟩
      · show Steps p.tables e below (T24.setTop (mkF m 64 #[.val (.int p0), .val (.int p1), .val (.int p2), .val (.int ev), .val (.int (((p0.toUInt32 >>> ((1 : Int32) &&& 31).toUInt32).toInt32) &&& (7 : Int32))), .val (.int ((p2 &&& (255 : Int32)).toUInt32.toUInt16.toUInt32.toInt32)), .val (.ref sa), .val (.ref oo), .val .null] [.null, .null])) _
        refine Jvm.RoadKit.acmp (g := (mkF m 64 #[.val (.int p0), .val (.int p1), .val (.int p2), .val (.int ev), .val (.int (((p0.toUInt32 >>> ((1 : Int32) &&& 31).toUInt32).toInt32) &&& (7 : Int32))), .val (.int ((p2 &&& (255 : Int32)).toUInt32.toUInt16.toUInt32.toInt32)), .val (.ref sa), .val (.ref oo), .val .null] [.null, .null])) X24 hx rfl rfl rfl (pc0 := 64) (pc' := 67) (same := true) rfl (hb hby at_64) rfl (decide_eq_true rfl) (by decide) (by decide) ?_
        show Steps p.tables e below (T24.setTop (mkF m 67 #[.val (.int p0), .val (.int p1), .val (.int p2), .val (.int ev), .val (.int (((p0.toUInt32 >>> ((1 : Int32) &&& 31).toUInt32).toInt32) &&& (7 : Int32))), .val (.int ((p2 &&& (255 : Int32)).toUInt32.toUInt16.toUInt32.toInt32)), .val (.ref sa), .val (.ref oo), .val .null] [])) _
        refine XS.iconst X24.here hx rfl (hb hby at_67) ?_
        show Steps p.tables e below (T24.setTop (mkF m 68 #[.val (.int p0), .val (.int p1), .val (.int p2), .val (.int ev), .val (.int (((p0.toUInt32 >>> ((1 : Int32) &&& 31).toUInt32).toInt32) &&& (7 : Int32))), .val (.int ((p2 &&& (255 : Int32)).toUInt32.toUInt16.toUInt32.toInt32)), .val (.ref sa), .val (.ref oo), .val .null] [(.int (1 : Int32))])) _
        refine XS.goto X24.here hx rfl (pc0 := 68) (pc' := 72) rfl (hb hby at_68) (by decide) (by decide) ?_
        show Steps p.tables e below (T24.setTop (mkF m 72 #[.val (.int p0), .val (.int p1), .val (.int p2), .val (.int ev), .val (.int (((p0.toUInt32 >>> ((1 : Int32) &&& 31).toUInt32).toInt32) &&& (7 : Int32))), .val (.int ((p2 &&& (255 : Int32)).toUInt32.toUInt16.toUInt32.toInt32)), .val (.ref sa), .val (.ref oo), .val .null] [(.int (1 : Int32))])) _
        exact retN X24 hx (t := .boolean) Bd.returns (by simp) (hb hby at_72) hr
      · show Q0 Z p0 p1 p2 va cl t0 t1 k0 k1 em G1 h0 n0 _ T24.heap _
        exact ⟨rfl, N24⟩
set_option maxRecDepth 65536 in
set_option maxHeartbeats 40000000 in
theorem comes_1 {Post : Tables → Env → Array Value → State → Outcome → State → Prop} (hpost : ∀ tb e args s v u, (limb_1_1.after args s (.returned v) u = true ∧ limb_1_2.after args s (.returned v) u = true ∧ True) → ReturnedEndW s (.returned v) u (Jvm.fieldLocs frame_1_writes args s ++ Jvm.arrayLocs frame_1_arrays args s ++ Jvm.staticLocs frame_1_statics s) 32 5312 → Post tb e args s (.returned v) u) :
    ArmFor flags0 classFile x code maxLocals ret World_1 tables_1 room_1 Calls_1 rest_1 Pre_1 Post := by
  intro l hfl _ _ p e ha hc hk s m args below hf hA hF happ hP
  obtain ⟨hcalls, hrest, hpre⟩ := hP
  obtain ⟨-, -, -, hnamed, -, -, -, hat⟩ := (Spec.applies_iff hf).mp happ
  obtain ⟨hg, hn⟩ := and_e (Cond.before_iff.mp (show (Jvm.Cond.and given_1 narrow_1).before args s = true from hpre))
  obtain ⟨gv1, gv2⟩ := and_e hg
  obtain ⟨gv3, gv4⟩ := and_e gv2
  obtain ⟨gv5, gv6⟩ := and_e gv4
  obtain ⟨w0, w1, w2, rfl⟩ : ∃ w0 w1 w2 : Value, args = #[w0, w1, w2] := by
    have hs : args.size = 3 := by simpa [Cond.value, given_1] using gv1
    obtain ⟨L⟩ := args
    match L, hs with
    | [w0, w1, w2], _ => exact ⟨w0, w1, w2, rfl⟩
  have hw := fun d (hd : d ∈ tables_1) => atoms_spec (ws := Jvm.Cond.code x code maxLocals ret :: tables_1) hat d (List.mem_cons_of_mem _ hd)
  have hfit : Fit s := fun {y c} hc i hi => by
    obtain ⟨ha, rfl⟩ := Array.getElem?_eq_some_iff.mp hc
    have q := List.all_eq_true.mp ((Array.all_eq_true_iff_forall_mem.mp hF) _ (Array.getElem_mem ha)) i (List.mem_range.mpr hi)
    simpa [Array.getElem?_eq_getElem hi] using q
  obtain ⟨hsets, hown0⟩ := atoms_of _ (rest_1_c_eq ▸ (show rest_1_c.before _ s = true from hrest))
  have hr0 := Cond.before_iff.mp hown0
  obtain ⟨i0, ei0⟩ := is_v gv3
  obtain rfl : w0 = (.int i0) := Option.some.inj ei0
  obtain ⟨i1, ei1⟩ := is_v gv5
  obtain rfl : w1 = (.int i1) := Option.some.inj ei1
  obtain ⟨i2, ei2⟩ := is_v gv6
  obtain rfl : w2 = (.int i2) := Option.some.inj ei2
  obtain ⟨nw1, nw2⟩ := and_e hn
  obtain ⟨nw3, nw4⟩ := and_e nw2
  obtain ⟨nw5, nw6⟩ := and_e nw4
  obtain ⟨nw7, nw8⟩ := and_e nw6
  obtain ⟨nw9, nw10⟩ := and_e nw8
  obtain ⟨nw11, nw12⟩ := and_e nw10
  obtain ⟨nw13, nw14⟩ := and_e nw12
  obtain ⟨nw15, nw16⟩ := and_e nw14
  obtain ⟨nw17, nw18⟩ := and_e nw16
  obtain ⟨nw19, nw20⟩ := and_e nw18
  obtain ⟨nw21, nw22⟩ := and_e nw20
  obtain ⟨nw23, nw24⟩ := and_e nw22
  obtain ⟨nw25, nw26⟩ := and_e nw24
  obtain ⟨nw27, nw28⟩ := and_e nw26
  obtain ⟨nw29, nw30⟩ := and_e nw28
  obtain ⟨nw31, nw32⟩ := and_e nw30
  obtain ⟨nw33, nw34⟩ := and_e nw32
  obtain ⟨nw35, nw36⟩ := and_e nw34
  obtain ⟨nw37, nw38⟩ := and_e nw36
  obtain ⟨nw39, nw40⟩ := and_e nw38
  obtain ⟨nw41, nw42⟩ := and_e nw40
  obtain ⟨nw43, nw44⟩ := and_e nw42
  obtain ⟨nw45, nw46⟩ := and_e nw44
  obtain ⟨nw47, nw48⟩ := and_e nw46
  obtain ⟨nw49, nw50⟩ := and_e nw48
  obtain ⟨nw51, nw52⟩ := and_e nw50
  obtain ⟨nw53, nw54⟩ := and_e nw52
  obtain ⟨nw55, nw56⟩ := and_e nw54
  obtain ⟨nw57, nw58⟩ := and_e nw56
  obtain ⟨nw59, nw60⟩ := and_e nw58
  obtain ⟨nw61, nw62⟩ := and_e nw60
  obtain ⟨nw63, nw64⟩ := and_e nw62
  obtain ⟨nw65, nw66⟩ := and_e nw64
  obtain ⟨nw67, nw68⟩ := and_e nw66
  obtain ⟨nw69, nw70⟩ := and_e nw68
  obtain ⟨nw71, nw72⟩ := and_e nw70
  obtain ⟨nw73, nw74⟩ := and_e nw72
  obtain ⟨nw75, nw76⟩ := and_e nw74
  obtain ⟨nw77, nw78⟩ := and_e nw76
  obtain ⟨nw79, nw80⟩ := and_e nw78
  obtain ⟨nw81, nw82⟩ := and_e nw80
  obtain ⟨nw83, nw84⟩ := and_e nw82
  obtain ⟨nw85, nw86⟩ := and_e nw84
  obtain ⟨nw87, nw88⟩ := and_e nw86
  obtain ⟨va, ev⟩ := arr_v nw1
  have SV : Sta s s.heap "com/example/sekisho/sekisho/registration/Factor" "$VALUES" "[Lcom/example/sekisho/sekisho/registration/Factor;" (.ref va) := Sta.start ev (Or.inr ⟨(hw _ (List.mem_of_getElem? (i := 39) rfl)), (hw _ (List.mem_of_getElem? (i := 45) rfl))⟩)
  obtain ⟨va', cl, qv, hcl, harr, hvm⟩ := Jvm.Free.IntBox.arrayOf_fwd (Cond.before_iff.mpr nw1) ev
  obtain rfl : va = va' := Value.ref.inj qv
  obtain ⟨hlt, hsz⟩ := Jvm.Free.IntBox.length_fwd (Cond.before_iff.mpr nw5) ev hcl harr hvm
  have Ar : Arr s s.heap va cl (.object "com/example/sekisho/sekisho/registration/Factor") := ⟨hcl, harr, hvm⟩
  have Eva := Exa.start ev nw3
  have Fc : FitC s cl := FitC.start hfit Ar
  have Sz : cl.slots.size = 2 := own_nat hlt hsz (by decide)
  obtain ⟨t0, et0⟩ := exa_v nw7
  have St0 : Sta s s.heap "com/example/sekisho/sekisho/registration/Factor" "TOTP" "Lcom/example/sekisho/sekisho/registration/Factor;" (.ref t0) := Sta.start et0 (Or.inr ⟨(hw _ (List.mem_of_getElem? (i := 39) rfl)), (hw _ (List.mem_of_getElem? (i := 53) rfl))⟩)
  have Et0 := Exa.start et0 nw7
  have hs0 : cl.slots[0]? = some (.ref t0) := own_at (elem_in (own_eqr et0 nw9) ev (Term.int_eval (0)) hcl).2 (by decide)
  obtain ⟨k0, ek0⟩ := exa_v nw15
  have Ek0 := Exa.start ek0 nw15
  have Fk0 : Fld s s.heap t0 "com/example/sekisho/sekisho/registration/Factor" "key" "Ljava/lang/String;" (.ref k0) := Fld.start ((fld_at et0).symm.trans ek0)
  have Fd0 : Fld s s.heap k0 "java/lang/String" "coder" "B" (.int (0 : Int32)) := Fld.start ((fld_at ek0).symm.trans (eqv_i (Term.int_eval (0)) nw17))
  obtain ⟨vb0, eb0⟩ := arr_v nw19
  have Fb0 : Fld s s.heap k0 "java/lang/String" "value" "[B" (.ref vb0) := Fld.start ((fld_at ek0).symm.trans eb0)
  obtain ⟨vb0', cb0, qb0, hcb0, hab0, hvb0⟩ := Jvm.Free.IntBox.arrayOf_fwd (Cond.before_iff.mpr nw19) eb0
  obtain rfl : vb0 = vb0' := Value.ref.inj qb0
  obtain ⟨hlb0, hsb0⟩ := Jvm.Free.IntBox.length_fwd (Cond.before_iff.mpr nw21) eb0 hcb0 hab0 hvb0
  have Hb0 : HasL cb0 0 ([(.int (67 : Int32)), (.int (104 : Int32)), (.int (97 : Int32)), (.int (108 : Int32)), (.int (108 : Int32)), (.int (101 : Int32)), (.int (110 : Int32)), (.int (103 : Int32)), (.int (101 : Int32)), (.int (79 : Int32)), (.int (77 : Int32)), (.int (65 : Int32)), (.int (84 : Int32)), (.int (79 : Int32)), (.int (84 : Int32)), (.int (80 : Int32))] : List Value) := ⟨own_at (elem_in (eqv_i (Term.int_eval (67)) nw31) eb0 (Term.int_eval (0)) hcb0).2 (by decide), own_at (elem_in (eqv_i (Term.int_eval (104)) nw33) eb0 (Term.int_eval (1)) hcb0).2 (by decide), own_at (elem_in (eqv_i (Term.int_eval (97)) nw35) eb0 (Term.int_eval (2)) hcb0).2 (by decide), own_at (elem_in (eqv_i (Term.int_eval (108)) nw37) eb0 (Term.int_eval (3)) hcb0).2 (by decide), own_at (elem_in (eqv_i (Term.int_eval (108)) nw39) eb0 (Term.int_eval (4)) hcb0).2 (by decide), own_at (elem_in (eqv_i (Term.int_eval (101)) nw41) eb0 (Term.int_eval (5)) hcb0).2 (by decide), own_at (elem_in (eqv_i (Term.int_eval (110)) nw43) eb0 (Term.int_eval (6)) hcb0).2 (by decide), own_at (elem_in (eqv_i (Term.int_eval (103)) nw45) eb0 (Term.int_eval (7)) hcb0).2 (by decide), own_at (elem_in (eqv_i (Term.int_eval (101)) nw47) eb0 (Term.int_eval (8)) hcb0).2 (by decide), own_at (elem_in (eqv_i (Term.int_eval (79)) nw49) eb0 (Term.int_eval (9)) hcb0).2 (by decide), own_at (elem_in (eqv_i (Term.int_eval (77)) nw51) eb0 (Term.int_eval (10)) hcb0).2 (by decide), own_at (elem_in (eqv_i (Term.int_eval (65)) nw53) eb0 (Term.int_eval (11)) hcb0).2 (by decide), own_at (elem_in (eqv_i (Term.int_eval (84)) nw55) eb0 (Term.int_eval (12)) hcb0).2 (by decide), own_at (elem_in (eqv_i (Term.int_eval (79)) nw57) eb0 (Term.int_eval (13)) hcb0).2 (by decide), own_at (elem_in (eqv_i (Term.int_eval (84)) nw59) eb0 (Term.int_eval (14)) hcb0).2 (by decide), own_at (elem_in (eqv_i (Term.int_eval (80)) nw61) eb0 (Term.int_eval (15)) hcb0).2 (by decide), trivial⟩
  have Vb0 : Arv s s.heap vb0 cb0.cls .byte (16 : Int32) ([(.int (67 : Int32)), (.int (104 : Int32)), (.int (97 : Int32)), (.int (108 : Int32)), (.int (108 : Int32)), (.int (101 : Int32)), (.int (110 : Int32)), (.int (103 : Int32)), (.int (101 : Int32)), (.int (79 : Int32)), (.int (77 : Int32)), (.int (65 : Int32)), (.int (84 : Int32)), (.int (79 : Int32)), (.int (84 : Int32)), (.int (80 : Int32))] : List Value) (.int 0) := Arv.start hfit ⟨hcb0, hab0, hvb0⟩ hlb0 hsb0 (by decide) (by decide) Hb0
  have eB0 : ((own_k0.map (fun c => c.toInt8.toInt32)).map Value.int) = ([(.int (67 : Int32)), (.int (104 : Int32)), (.int (97 : Int32)), (.int (108 : Int32)), (.int (108 : Int32)), (.int (101 : Int32)), (.int (110 : Int32)), (.int (103 : Int32)), (.int (101 : Int32)), (.int (79 : Int32)), (.int (77 : Int32)), (.int (65 : Int32)), (.int (84 : Int32)), (.int (79 : Int32)), (.int (84 : Int32)), (.int (80 : Int32))] : List Value) := by decide +kernel
  have Y0 : own_str s s.heap k0 own_k0 := ⟨vb0, cb0.cls, 16, Ek0, Fb0, Fd0, by rw [eB0]; exact Vb0, own_hk0, rfl, by decide⟩
  obtain ⟨t1, et1⟩ := exa_v nw11
  have St1 : Sta s s.heap "com/example/sekisho/sekisho/registration/Factor" "EMAIL" "Lcom/example/sekisho/sekisho/registration/Factor;" (.ref t1) := Sta.start et1 (Or.inr ⟨(hw _ (List.mem_of_getElem? (i := 39) rfl)), (hw _ (List.mem_of_getElem? (i := 54) rfl))⟩)
  have Et1 := Exa.start et1 nw11
  have hs1 : cl.slots[1]? = some (.ref t1) := own_at (elem_in (own_eqr et1 nw13) ev (Term.int_eval (1)) hcl).2 (by decide)
  obtain ⟨k1, ek1⟩ := exa_v nw23
  have Ek1 := Exa.start ek1 nw23
  have Fk1 : Fld s s.heap t1 "com/example/sekisho/sekisho/registration/Factor" "key" "Ljava/lang/String;" (.ref k1) := Fld.start ((fld_at et1).symm.trans ek1)
  have Fd1 : Fld s s.heap k1 "java/lang/String" "coder" "B" (.int (0 : Int32)) := Fld.start ((fld_at ek1).symm.trans (eqv_i (Term.int_eval (0)) nw25))
  obtain ⟨vb1, eb1⟩ := arr_v nw27
  have Fb1 : Fld s s.heap k1 "java/lang/String" "value" "[B" (.ref vb1) := Fld.start ((fld_at ek1).symm.trans eb1)
  obtain ⟨vb1', cb1, qb1, hcb1, hab1, hvb1⟩ := Jvm.Free.IntBox.arrayOf_fwd (Cond.before_iff.mpr nw27) eb1
  obtain rfl : vb1 = vb1' := Value.ref.inj qb1
  obtain ⟨hlb1, hsb1⟩ := Jvm.Free.IntBox.length_fwd (Cond.before_iff.mpr nw29) eb1 hcb1 hab1 hvb1
  have Hb1 : HasL cb1 0 ([(.int (67 : Int32)), (.int (104 : Int32)), (.int (97 : Int32)), (.int (108 : Int32)), (.int (108 : Int32)), (.int (101 : Int32)), (.int (110 : Int32)), (.int (103 : Int32)), (.int (101 : Int32)), (.int (69 : Int32)), (.int (109 : Int32)), (.int (97 : Int32)), (.int (105 : Int32)), (.int (108 : Int32))] : List Value) := ⟨own_at (elem_in (eqv_i (Term.int_eval (67)) nw63) eb1 (Term.int_eval (0)) hcb1).2 (by decide), own_at (elem_in (eqv_i (Term.int_eval (104)) nw65) eb1 (Term.int_eval (1)) hcb1).2 (by decide), own_at (elem_in (eqv_i (Term.int_eval (97)) nw67) eb1 (Term.int_eval (2)) hcb1).2 (by decide), own_at (elem_in (eqv_i (Term.int_eval (108)) nw69) eb1 (Term.int_eval (3)) hcb1).2 (by decide), own_at (elem_in (eqv_i (Term.int_eval (108)) nw71) eb1 (Term.int_eval (4)) hcb1).2 (by decide), own_at (elem_in (eqv_i (Term.int_eval (101)) nw73) eb1 (Term.int_eval (5)) hcb1).2 (by decide), own_at (elem_in (eqv_i (Term.int_eval (110)) nw75) eb1 (Term.int_eval (6)) hcb1).2 (by decide), own_at (elem_in (eqv_i (Term.int_eval (103)) nw77) eb1 (Term.int_eval (7)) hcb1).2 (by decide), own_at (elem_in (eqv_i (Term.int_eval (101)) nw79) eb1 (Term.int_eval (8)) hcb1).2 (by decide), own_at (elem_in (eqv_i (Term.int_eval (69)) nw81) eb1 (Term.int_eval (9)) hcb1).2 (by decide), own_at (elem_in (eqv_i (Term.int_eval (109)) nw83) eb1 (Term.int_eval (10)) hcb1).2 (by decide), own_at (elem_in (eqv_i (Term.int_eval (97)) nw85) eb1 (Term.int_eval (11)) hcb1).2 (by decide), own_at (elem_in (eqv_i (Term.int_eval (105)) nw87) eb1 (Term.int_eval (12)) hcb1).2 (by decide), own_at (elem_in (eqv_i (Term.int_eval (108)) nw88) eb1 (Term.int_eval (13)) hcb1).2 (by decide), trivial⟩
  have Vb1 : Arv s s.heap vb1 cb1.cls .byte (14 : Int32) ([(.int (67 : Int32)), (.int (104 : Int32)), (.int (97 : Int32)), (.int (108 : Int32)), (.int (108 : Int32)), (.int (101 : Int32)), (.int (110 : Int32)), (.int (103 : Int32)), (.int (101 : Int32)), (.int (69 : Int32)), (.int (109 : Int32)), (.int (97 : Int32)), (.int (105 : Int32)), (.int (108 : Int32))] : List Value) (.int 0) := Arv.start hfit ⟨hcb1, hab1, hvb1⟩ hlb1 hsb1 (by decide) (by decide) Hb1
  have eB1 : ((own_k1.map (fun c => c.toInt8.toInt32)).map Value.int) = ([(.int (67 : Int32)), (.int (104 : Int32)), (.int (97 : Int32)), (.int (108 : Int32)), (.int (108 : Int32)), (.int (101 : Int32)), (.int (110 : Int32)), (.int (103 : Int32)), (.int (101 : Int32)), (.int (69 : Int32)), (.int (109 : Int32)), (.int (97 : Int32)), (.int (105 : Int32)), (.int (108 : Int32))] : List Value) := by decide +kernel
  have Y1 : own_str s s.heap k1 own_k1 := ⟨vb1, cb1.cls, 14, Ek1, Fb1, Fd1, by rw [eB1]; exact Vb1, own_hk1, rfl, by decide⟩
  have n3 := not_v (Cond.before_iff.mp (hsets _ (List.mem_of_getElem? (i := 2) rfl)))
  obtain ⟨G1, e6⟩ := is_v (Cond.before_iff.mp (hsets _ (List.mem_of_getElem? (i := 1) rfl)))
  have S1 : Sta s s.heap "java/lang/String" "COMPACT_STRINGS" "Z" (.int G1) := Sta.start e6 (Or.inl (hsets _ (List.mem_of_getElem? (i := 0) rfl)))
  have P5 : ¬ (G1 = (0 : Int32)) := gotF (Cond.eq_ints e6 (Term.int_eval (0))) n3
  have xo := Cond.before_iff.mp (hsets _ (List.mem_of_getElem? (i := 11) rfl))
  obtain ⟨em, eo⟩ := exa_v xo
  have SE : Sta s s.heap "java/util/Optional" "EMPTY" "Ljava/util/Optional;" (.ref em) := Sta.start eo (Or.inl (hsets _ (List.mem_of_getElem? (i := 10) rfl)))
  have EE := Exa.start eo xo
  have FE : Fld s s.heap em "java/util/Optional" "value" "Ljava/lang/Object;" .null := Fld.start ((fld_at eo).symm.trans (own_eqn (Cond.before_iff.mp (hsets _ (List.mem_of_getElem? (i := 12) rfl)))))
  have HC0 : CHv s consts_1 s.vm s.heap := CHv.start (own_EW hw) (fun p hp => hcalls.1 p hp) (hsets _ (List.mem_of_getElem? (i := 2) rfl)) (hw _ (List.mem_of_getElem? (i := 26) rfl)) (hw _ (List.mem_of_getElem? (i := 5) rfl))
  obtain ⟨n, o, h1, h2, h3, _, L, rfl, ⟨rfl, N⟩, hq⟩ := rm0 l s _ hw tables_1 i0 i1 i2 va cl t0 t1 k0 k1 em G1 s.heap s.heap.size (Nat.le_refl _) SV Ar Eva Fc Sz hs0 hs1 Fk0 Fk1 Y0 Y1 SE EE FE S1 P5 St0 St1 Et0 Et1 p e ha hc hk s m _ below hf ((Spec.applies_iff_loose hf).mp happ).1 ⟨rfl, State.Warmed39.refl s, rfl, HC0⟩ trivial
  refine ⟨n, _, h1, h2, h3, hpost _ _ _ _ _ _ ⟨Cond.after_iff.mpr rfl, Cond.after_iff.mpr (eq_i res_at (Term.int_eval (1)) rfl), trivial⟩ ⟨hq.1, hq.2.1, hq.2.2.1, (hq.2.2.2.sift fun y hy => Or.inr (N y hy)).mono (by decide) (by decide)⟩⟩
theorem main_1_1 : Claimed_1_1 := comes_1 fun _ _ _ _ _ _ h hF => ⟨h.1, hF⟩
theorem main_1_2 : Claimed_1_2 := comes_1 fun _ _ _ _ _ _ h hF => ⟨h.2.1, hF⟩
end Jvm.Pilot.@@N@@
namespace Jvm.Pilot.@@N@@
open Jvm Jvm.ClassFile Sem Op Lib Jvm.Free Jvm.Stand Jvm.Pilot.@@N@@.Jvm.D
/-! MADE BY PROGRAM (witnessworld.py) out of the Statement's table words and the real class files: 23 classes; the members and pool entries that the words name. The judged class is class 1, her method 1. -/
namespace start1
open Jvm.ClassFile
def u (s : String) : CpInfo := .utf8 (stringToUtf16 s)
/-- a pool by its gaps: so many unusable entries, then the entry; so many at the end -/
def gap : Nat → List CpInfo → List CpInfo
  | 0, r => r
  | n + 1, r => .unusable :: gap n r
def poolList (es : List (Nat × CpInfo)) (last : Nat) : List CpInfo := es.foldr (fun e r => gap e.1 (e.2 :: r)) (gap last [])
def pool (es : List (Nat × CpInfo)) (last : Nat) : Array CpInfo := ⟨poolList es last⟩
def fileOf (pool : Array CpInfo) (this : Nat) (attrs : Array Attribute := #[]) (ms : Array MethodInfo := #[]) (fl : Nat := 33) (sup : Nat := 0) (ifs : Array Nat := #[]) (fds : Array FieldInfo := #[]) : ClassFile where
  minorVersion := 0
  majorVersion := 65
  constantPool := pool
  accessFlags := fl
  thisClass := this
  superClass := sup
  interfaces := ifs
  fields := fds
  methods := ms
  attributes := attrs
def plain (name : String) (sup : Option ClassId) : Class where
  name := name
  kind := .ordinary
  loader := none
  accessFlags := 33
  super := sup
  interfaces := #[]
  cf := none
  fields := #[]
  methods := #[]
  instanceTypes := #[]
  staticTypes := #[]
  resolved := #[]
  callSites := []
  init := .initialized
  statics := none
  mirror := none

def pool0 : Array CpInfo := pool [(5, u "<init>"), (0, u "()V"), (1, .class_ 10), (1, u "java/lang/Object"), (85, u "clone"), (0, u "()Ljava/lang/Object;")] 26

def k0c0 : Code := { maxStack := 0, maxLocals := 1, code := object_method_1_code, exceptionTable := #[], attributes := #[] }
def k0m0 : Method := { name := "<init>", desc := "()V", sig := { parameters := [], returnType := none }, accessFlags := 1, code := some k0c0 }
def k0m1 : Method := { name := "clone", desc := "()Ljava/lang/Object;", sig := { parameters := [], returnType := some (.object "java/lang/Object") }, accessFlags := 260, code := none }
/-- java/lang/Object -/
def k0 : Class := { plain "java/lang/Object" none with
  accessFlags := 33
  interfaces := #[]
  cf := some (fileOf pool0 8 #[] #[{ accessFlags := 1, nameIndex := 5, descriptorIndex := 6, attributes := #[] }, { accessFlags := 260, nameIndex := 96, descriptorIndex := 97, attributes := #[] }] 33 0 #[] #[])
  fields := #[]
  methods := #[k0m0, k0m1]
  instanceTypes := #[]
  staticTypes := #[]
  resolved := Array.replicate 124 none
  statics := none }

def pool1 : Array CpInfo := pool [(2, .class_ 4), (1, u "java/lang/Object"), (0, u "<init>"), (0, u "()V"), (0, .methodref 8 9), (0, .class_ 10), (0, .nameAndType 11 12), (0, u "com/example/sekisho/sekisho/registration/FactorOfKeyPinLaw"), (0, u "build"), (0, u "(ZIIC)Ljava/lang/String;"), (0, .methodref 14 15), (0, .class_ 16), (0, .nameAndType 17 18), (0, u "com/example/sekisho/sekisho/registration/Factor"), (0, u "ofKey"), (0, u "(Ljava/lang/String;)Ljava/util/Optional;"), (0, .methodref 20 21), (0, .class_ 22), (0, .nameAndType 23 24), (0, u "java/util/Optional"), (0, u "orElse"), (0, u "(Ljava/lang/Object;)Ljava/lang/Object;"), (0, .methodref 8 26), (0, .nameAndType 27 28), (0, u "expected"), (0, u "(Ljava/lang/String;)Lcom/example/sekisho/sekisho/registration/Factor;"), (0, .string 30), (0, u "ChallengeOMATOTP"), (0, .methodref 32 33), (0, .class_ 34), (0, .nameAndType 35 36), (0, u "java/lang/String"), (0, u "equals"), (0, u "(Ljava/lang/Object;)Z"), (0, .fieldref 14 38), (0, .nameAndType 39 40), (0, u "TOTP"), (0, u "Lcom/example/sekisho/sekisho/registration/Factor;"), (0, .string 42), (0, u "ChallengeEmail"), (0, .fieldref 14 44), (0, .nameAndType 45 40), (0, u "EMAIL"), (0, .methodref 8 47), (0, .nameAndType 48 49), (0, u "keyChars"), (0, u "(Z)[C"), (0, .methodref 32 51), (0, .nameAndType 5 52), (0, u "([C)V"), (0, .integer 2147483647), (0, .string 55), (0, u "Email"), (0, .string 39), (0, .string 58), (0, u ""), (2, u "law"), (0, u "(III)Z")] 3

def k1m0 : Method := { name := "<init>", desc := "()V", sig := { parameters := [], returnType := none }, accessFlags := 1, code := none }
def k1c1 : Code := { maxStack := 4, maxLocals := 9, code := code, exceptionTable := #[], attributes := #[] }
def k1m1 : Method := { name := "law", desc := "(III)Z", sig := { parameters := [.int, .int, .int], returnType := some .boolean }, accessFlags := 9, code := some k1c1 }
def k1c2 : Code := { maxStack := 2, maxLocals := 1, code := method_3_code, exceptionTable := #[], attributes := #[] }
def k1m2 : Method := { name := "expected", desc := "(Ljava/lang/String;)Lcom/example/sekisho/sekisho/registration/Factor;", sig := { parameters := [(.object "java/lang/String")], returnType := some (.object "com/example/sekisho/sekisho/registration/Factor") }, accessFlags := 10, code := some k1c2 }
def k1c3 : Code := { maxStack := 4, maxLocals := 1, code := method_4_code, exceptionTable := #[], attributes := #[] }
def k1m3 : Method := { name := "keyChars", desc := "(Z)[C", sig := { parameters := [.boolean], returnType := some (.array .char) }, accessFlags := 10, code := some k1c3 }
def k1c4 : Code := { maxStack := 6, maxLocals := 5, code := method_5_code, exceptionTable := #[], attributes := #[] }
def k1m4 : Method := { name := "build", desc := "(ZIIC)Ljava/lang/String;", sig := { parameters := [.boolean, .int, .int, .char], returnType := some (.object "java/lang/String") }, accessFlags := 10, code := some k1c4 }
/-- com/example/sekisho/sekisho/registration/FactorOfKeyPinLaw -/
def k1 : Class := { plain "com/example/sekisho/sekisho/registration/FactorOfKeyPinLaw" (some 0) with
  accessFlags := 49
  interfaces := #[]
  cf := some (fileOf pool1 8 #[] #[{ accessFlags := 1, nameIndex := 5, descriptorIndex := 6, attributes := #[] }, { accessFlags := 9, nameIndex := 61, descriptorIndex := 62, attributes := #[] }, { accessFlags := 10, nameIndex := 27, descriptorIndex := 28, attributes := #[] }, { accessFlags := 10, nameIndex := 48, descriptorIndex := 49, attributes := #[] }, { accessFlags := 10, nameIndex := 11, descriptorIndex := 12, attributes := #[] }] 49 2 #[] #[])
  fields := #[]
  methods := #[k1m0, k1m1, k1m2, k1m3, k1m4]
  instanceTypes := #[]
  staticTypes := #[]
  resolved := Array.replicate 66 none
  statics := none }

def pool2 : Array CpInfo := pool [(1, .class_ 2), (0, u "java/io/Serializable"), (0, .class_ 4), (0, u "java/lang/Object")] 2

/-- java/io/Serializable -/
def k2 : Class := { plain "java/io/Serializable" (some 0) with
  accessFlags := 1537
  interfaces := #[]
  cf := some (fileOf pool2 1 #[] #[] 1537 3 #[] #[])
  fields := #[]
  methods := #[]
  instanceTypes := #[]
  staticTypes := #[]
  resolved := Array.replicate 7 none
  statics := none }

def pool3 : Array CpInfo := pool [(1, .class_ 2), (0, u "java/lang/Comparable"), (0, .class_ 4), (0, u "java/lang/Object")] 7

/-- java/lang/Comparable -/
def k3 : Class := { plain "java/lang/Comparable" (some 0) with
  accessFlags := 1537
  interfaces := #[]
  cf := some (fileOf pool3 1 #[] #[] 1537 3 #[] #[])
  fields := #[]
  methods := #[]
  instanceTypes := #[]
  staticTypes := #[]
  resolved := Array.replicate 12 none
  statics := none }

def pool4 : Array CpInfo := pool [(2, .class_ 4), (1, u "java/lang/CharSequence"), (42, .class_ 48), (0, u "java/lang/CharSequence$1CodePointIterator"), (10, .class_ 60), (0, u "java/lang/CharSequence$1CharIterator"), (5, .class_ 67), (0, u "java/lang/Object")] 63

/-- java/lang/CharSequence -/
def k4 : Class := { plain "java/lang/CharSequence" (some 0) with
  accessFlags := 1537
  interfaces := #[]
  cf := some (fileOf pool4 2 #[.nestMembers #[47, 59]] #[] 1537 66 #[] #[])
  fields := #[]
  methods := #[]
  instanceTypes := #[]
  staticTypes := #[]
  resolved := Array.replicate 131 none
  statics := none }

def pool5 : Array CpInfo := pool [(1, .class_ 2), (0, u "java/lang/constant/Constable"), (0, .class_ 4), (0, u "java/lang/Object")] 6

/-- java/lang/constant/Constable -/
def k5 : Class := { plain "java/lang/constant/Constable" (some 0) with
  accessFlags := 1537
  interfaces := #[]
  cf := some (fileOf pool5 1 #[] #[] 1537 3 #[] #[])
  fields := #[]
  methods := #[]
  instanceTypes := #[]
  staticTypes := #[]
  resolved := Array.replicate 11 none
  statics := none }

def pool6 : Array CpInfo := pool [(1, .class_ 2), (0, u "java/lang/constant/ConstantDesc"), (0, .class_ 4), (0, u "java/lang/Object")] 32

/-- java/lang/constant/ConstantDesc -/
def k6 : Class := { plain "java/lang/constant/ConstantDesc" (some 0) with
  accessFlags := 1537
  interfaces := #[]
  cf := some (fileOf pool6 1 #[] #[] 1537 3 #[] #[])
  fields := #[]
  methods := #[]
  instanceTypes := #[]
  staticTypes := #[]
  resolved := Array.replicate 37 none
  statics := none }

def pool7 : Array CpInfo := pool [(1, .methodref 2 3), (0, .class_ 4), (0, .nameAndType 5 6), (0, u "java/lang/Object"), (0, u "<init>"), (0, u "()V"), (2, .fieldref 10 11), (0, .class_ 12), (0, .nameAndType 13 14), (0, u "java/lang/String"), (0, u "value"), (0, u "[B"), (0, .fieldref 10 16), (0, .nameAndType 17 18), (0, u "coder"), (0, u "B"), (2, u "hash"), (0, u "I"), (2, u "hashIsZero"), (0, u "Z"), (0, .methodref 10 28), (0, .nameAndType 5 29), (0, u "([CIILjava/lang/Void;)V"), (8, .fieldref 10 39), (0, .nameAndType 40 26), (0, u "COMPACT_STRINGS"), (1, .class_ 44), (1, u "java/lang/StringUTF16"), (0, u "compress"), (1, .methodref 42 48), (0, .nameAndType 49 50), (0, u "coderFromArrayLen"), (0, u "([BI)B"), (56, .class_ 109), (1, u "java/lang/StringLatin1"), (67, .methodref 42 178), (0, .nameAndType 45 179), (0, u "([CII)[B"), (361, .methodref 107 542), (0, .nameAndType 543 544), (0, u "equals"), (0, u "([B[B)Z"), (28, u "(Ljava/lang/Object;)Z"), (1, .class_ 576), (0, u "java/lang/CharSequence"), (22, u "CASE_INSENSITIVE_ORDER"), (0, u "Ljava/util/Comparator;"), (409, u "([C)V"), (90, u "serialPersistentFields"), (0, u "[Ljava/io/ObjectStreamField;"), (0, .class_ 1104), (0, u "java/lang/String$CaseInsensitiveComparator"), (1, .class_ 1107), (0, u "java/io/Serializable"), (0, .class_ 1109), (0, u "java/lang/Comparable"), (0, .class_ 1111), (0, u "java/lang/constant/Constable"), (0, .class_ 1113), (0, u "java/lang/constant/ConstantDesc"), (2, u "serialVersionUID"), (0, u "J"), (3, u "REPL"), (0, u "C"), (2, u "LATIN1"), (1, u "UTF16")] 323

def k7m0 : Method := { name := "<init>", desc := "()V", sig := { parameters := [], returnType := none }, accessFlags := 1, code := none }
def k7c1 : Code := { maxStack := 5, maxLocals := 2, code := jdk_42_method_3_code, exceptionTable := #[], attributes := #[] }
def k7m1 : Method := { name := "<init>", desc := "([C)V", sig := { parameters := [(.array .char)], returnType := none }, accessFlags := 1, code := some k7c1 }
def k7c2 : Code := { maxStack := 2, maxLocals := 3, code := jdk_42_method_66_code, exceptionTable := #[], attributes := #[] }
def k7m2 : Method := { name := "equals", desc := "(Ljava/lang/Object;)Z", sig := { parameters := [(.object "java/lang/Object")], returnType := some .boolean }, accessFlags := 1, code := some k7c2 }
def k7c3 : Code := { maxStack := 4, maxLocals := 6, code := jdk_42_method_149_code, exceptionTable := #[], attributes := #[] }
def k7m3 : Method := { name := "<init>", desc := "([CIILjava/lang/Void;)V", sig := { parameters := [(.array .char), .int, .int, (.object "java/lang/Void")], returnType := none }, accessFlags := 2, code := some k7c3 }
/-- java/lang/String -/
def k7 : Class := { plain "java/lang/String" (some 0) with
  accessFlags := 49
  interfaces := #[2, 3, 4, 5, 6]
  cf := some (fileOf pool7 10 #[.nestMembers #[1103]] #[{ accessFlags := 1, nameIndex := 5, descriptorIndex := 6, attributes := #[] }, { accessFlags := 1, nameIndex := 5, descriptorIndex := 1010, attributes := #[] }, { accessFlags := 1, nameIndex := 543, descriptorIndex := 573, attributes := #[] }, { accessFlags := 2, nameIndex := 5, descriptorIndex := 29, attributes := #[] }] 49 2 #[1106, 1108, 575, 1110, 1112] #[{ accessFlags := 18, nameIndex := 13, descriptorIndex := 14, attributes := #[] }, { accessFlags := 18, nameIndex := 17, descriptorIndex := 18, attributes := #[] }, { accessFlags := 2, nameIndex := 21, descriptorIndex := 22, attributes := #[] }, { accessFlags := 2, nameIndex := 25, descriptorIndex := 26, attributes := #[] }, { accessFlags := 26, nameIndex := 1116, descriptorIndex := 1117, attributes := #[] }, { accessFlags := 24, nameIndex := 40, descriptorIndex := 26, attributes := #[] }, { accessFlags := 26, nameIndex := 1101, descriptorIndex := 1102, attributes := #[] }, { accessFlags := 26, nameIndex := 1121, descriptorIndex := 1122, attributes := #[] }, { accessFlags := 25, nameIndex := 599, descriptorIndex := 600, attributes := #[] }, { accessFlags := 24, nameIndex := 1125, descriptorIndex := 18, attributes := #[] }, { accessFlags := 24, nameIndex := 1127, descriptorIndex := 18, attributes := #[] }])
  fields := #[{ name := "value", type := (.array .byte), accessFlags := 18, slot := 0, constantValue := 0 }, { name := "coder", type := .byte, accessFlags := 18, slot := 1, constantValue := 0 }, { name := "hash", type := .int, accessFlags := 2, slot := 2, constantValue := 0 }, { name := "hashIsZero", type := .boolean, accessFlags := 2, slot := 3, constantValue := 0 }, { name := "serialVersionUID", type := .long, accessFlags := 26, slot := 0, constantValue := 0 }, { name := "COMPACT_STRINGS", type := .boolean, accessFlags := 24, slot := 1, constantValue := 0 }, { name := "serialPersistentFields", type := (.array (.object "java/io/ObjectStreamField")), accessFlags := 26, slot := 2, constantValue := 0 }, { name := "REPL", type := .char, accessFlags := 26, slot := 3, constantValue := 0 }, { name := "CASE_INSENSITIVE_ORDER", type := (.object "java/util/Comparator"), accessFlags := 25, slot := 4, constantValue := 0 }, { name := "LATIN1", type := .byte, accessFlags := 24, slot := 5, constantValue := 0 }, { name := "UTF16", type := .byte, accessFlags := 24, slot := 6, constantValue := 0 }]
  methods := #[k7m0, k7m1, k7m2, k7m3]
  instanceTypes := #[(.array .byte), .byte, .int, .boolean]
  staticTypes := #[.long, .boolean, (.array (.object "java/io/ObjectStreamField")), .char, (.object "java/util/Comparator"), .byte, .byte]
  resolved := Array.replicate 1451 none
  statics := some 0 }

def pool8 : Array CpInfo := pool [(6, .class_ 8), (1, u "java/lang/Object"), (0, u "<init>"), (0, u "()V"), (1, .class_ 14), (1, u "java/lang/StringUTF16"), (31, u "$assertionsDisabled"), (0, u "Z"), (13, u "HI_BYTE_SHIFT"), (0, u "I"), (2, u "LO_BYTE_SHIFT"), (49, .methodref 12 116), (0, .nameAndType 117 118), (0, u "compress"), (0, u "([CI[BII)I"), (3, u "([CII)[B"), (138, u "coderFromArrayLen"), (0, u "([BI)B"), (106, .class_ 371), (1, u "java/lang/StringUTF16$LinesSpliterator"), (58, u "MAX_LENGTH"), (196, .class_ 628), (0, u "java/lang/StringUTF16$CodePointsSpliterator"), (0, .class_ 630), (0, u "java/lang/StringUTF16$CharsSpliterator")] 4

def k8m0 : Method := { name := "<init>", desc := "()V", sig := { parameters := [], returnType := none }, accessFlags := 0, code := none }
def k8c1 : Code := { maxStack := 2, maxLocals := 2, code := jdk_52_method_15_code, exceptionTable := #[], attributes := #[] }
def k8m1 : Method := { name := "coderFromArrayLen", desc := "([BI)B", sig := { parameters := [(.array .byte), .int], returnType := some .byte }, accessFlags := 8, code := some k8c1 }
def k8c2 : Code := { maxStack := 5, maxLocals := 6, code := jdk_52_method_16_code, exceptionTable := #[], attributes := #[] }
def k8m2 : Method := { name := "compress", desc := "([CII)[B", sig := { parameters := [(.array .char), .int, .int], returnType := some (.array .byte) }, accessFlags := 9, code := some k8c2 }
def k8c3 : Code := { maxStack := 3, maxLocals := 7, code := jdk_52_method_21_code, exceptionTable := #[], attributes := #[] }
def k8m3 : Method := { name := "compress", desc := "([CI[BII)I", sig := { parameters := [(.array .char), .int, (.array .byte), .int, .int], returnType := some .int }, accessFlags := 9, code := some k8c3 }
/-- java/lang/StringUTF16 -/
def k8 : Class := { plain "java/lang/StringUTF16" (some 0) with
  accessFlags := 48
  interfaces := #[]
  cf := some (fileOf pool8 12 #[.nestMembers #[627, 629, 369]] #[{ accessFlags := 0, nameIndex := 9, descriptorIndex := 10, attributes := #[] }, { accessFlags := 8, nameIndex := 261, descriptorIndex := 262, attributes := #[] }, { accessFlags := 9, nameIndex := 117, descriptorIndex := 122, attributes := #[] }, { accessFlags := 9, nameIndex := 117, descriptorIndex := 118, attributes := #[] }] 48 6 #[] #[{ accessFlags := 26, nameIndex := 61, descriptorIndex := 62, attributes := #[] }, { accessFlags := 26, nameIndex := 65, descriptorIndex := 62, attributes := #[] }, { accessFlags := 24, nameIndex := 430, descriptorIndex := 62, attributes := #[] }, { accessFlags := 4120, nameIndex := 46, descriptorIndex := 47, attributes := #[] }])
  fields := #[{ name := "HI_BYTE_SHIFT", type := .int, accessFlags := 26, slot := 0, constantValue := 0 }, { name := "LO_BYTE_SHIFT", type := .int, accessFlags := 26, slot := 1, constantValue := 0 }, { name := "MAX_LENGTH", type := .int, accessFlags := 24, slot := 2, constantValue := 0 }, { name := "$assertionsDisabled", type := .boolean, accessFlags := 4120, slot := 3, constantValue := 0 }]
  methods := #[k8m0, k8m1, k8m2, k8m3]
  instanceTypes := #[]
  staticTypes := #[.int, .int, .int, .boolean]
  resolved := Array.replicate 635 none
  statics := none }

def pool9 : Array CpInfo := pool [(2, .class_ 4), (1, u "java/lang/Enum"), (0, u "name"), (0, u "Ljava/lang/String;"), (2, u "ordinal"), (0, u "I"), (1, .class_ 14), (1, u "java/lang/Object"), (4, u "hash"), (86, .class_ 108), (1, u "java/lang/Enum$EnumDesc"), (2, .class_ 112), (0, u "java/lang/constant/Constable"), (0, .class_ 114), (0, u "java/lang/Comparable"), (0, .class_ 116), (0, u "java/io/Serializable")] 87

/-- java/lang/Enum -/
def k9 : Class := { plain "java/lang/Enum" (some 0) with
  accessFlags := 1057
  interfaces := #[5, 3, 2]
  cf := some (fileOf pool9 2 #[.nestMembers #[106]] #[] 1057 12 #[111, 113, 115] #[{ accessFlags := 18, nameIndex := 5, descriptorIndex := 6, attributes := #[] }, { accessFlags := 18, nameIndex := 9, descriptorIndex := 10, attributes := #[] }, { accessFlags := 2, nameIndex := 19, descriptorIndex := 10, attributes := #[] }])
  fields := #[{ name := "name", type := (.object "java/lang/String"), accessFlags := 18, slot := 0, constantValue := 0 }, { name := "ordinal", type := .int, accessFlags := 18, slot := 1, constantValue := 0 }, { name := "hash", type := .int, accessFlags := 2, slot := 2, constantValue := 0 }]
  methods := #[]
  instanceTypes := #[(.object "java/lang/String"), .int, .int]
  staticTypes := #[]
  resolved := Array.replicate 204 none
  statics := none }

def pool10 : Array CpInfo := pool [(1, .class_ 2), (0, u "com/example/sekisho/sekisho/registration/Factor"), (2, u "TOTP"), (0, u "Lcom/example/sekisho/sekisho/registration/Factor;"), (2, u "EMAIL"), (0, .fieldref 1 11), (0, .nameAndType 12 13), (0, u "$VALUES"), (0, u "[Lcom/example/sekisho/sekisho/registration/Factor;"), (0, .methodref 15 16), (0, .class_ 13), (0, .nameAndType 17 18), (0, u "clone"), (0, u "()Ljava/lang/Object;"), (1, .class_ 22), (1, u "java/lang/Enum"), (6, .fieldref 1 30), (0, .nameAndType 31 32), (0, u "key"), (0, u "Ljava/lang/String;"), (2, u "displayName"), (0, .methodref 1 37), (0, .nameAndType 38 39), (0, u "values"), (0, u "()[Lcom/example/sekisho/sekisho/registration/Factor;"), (0, .methodref 41 42), (0, .class_ 43), (0, .nameAndType 44 45), (0, u "java/lang/String"), (0, u "equals"), (0, u "(Ljava/lang/Object;)Z"), (0, .methodref 47 48), (0, .class_ 49), (0, .nameAndType 50 51), (0, u "java/util/Optional"), (0, u "ofNullable"), (0, u "(Ljava/lang/Object;)Ljava/util/Optional;"), (21, u "ofKey"), (0, u "(Ljava/lang/String;)Ljava/util/Optional;")] 7

def k10c0 : Code := { maxStack := 1, maxLocals := 0, code := prog_12_method_1_code, exceptionTable := #[], attributes := #[] }
def k10m0 : Method := { name := "values", desc := "()[Lcom/example/sekisho/sekisho/registration/Factor;", sig := { parameters := [], returnType := some (.array (.object "com/example/sekisho/sekisho/registration/Factor")) }, accessFlags := 9, code := some k10c0 }
def k10c1 : Code := { maxStack := 2, maxLocals := 6, code := prog_12_method_6_code, exceptionTable := #[], attributes := #[] }
def k10m1 : Method := { name := "ofKey", desc := "(Ljava/lang/String;)Ljava/util/Optional;", sig := { parameters := [(.object "java/lang/String")], returnType := some (.object "java/util/Optional") }, accessFlags := 9, code := some k10c1 }
/-- com/example/sekisho/sekisho/registration/Factor -/
def k10 : Class := { plain "com/example/sekisho/sekisho/registration/Factor" (some 9) with
  accessFlags := 16433
  interfaces := #[]
  cf := some (fileOf pool10 1 #[] #[{ accessFlags := 9, nameIndex := 38, descriptorIndex := 39, attributes := #[] }, { accessFlags := 9, nameIndex := 73, descriptorIndex := 74, attributes := #[] }] 16433 20 #[] #[{ accessFlags := 16409, nameIndex := 5, descriptorIndex := 6, attributes := #[] }, { accessFlags := 16409, nameIndex := 9, descriptorIndex := 6, attributes := #[] }, { accessFlags := 18, nameIndex := 31, descriptorIndex := 32, attributes := #[] }, { accessFlags := 18, nameIndex := 35, descriptorIndex := 32, attributes := #[] }, { accessFlags := 4122, nameIndex := 12, descriptorIndex := 13, attributes := #[] }])
  fields := #[{ name := "TOTP", type := (.object "com/example/sekisho/sekisho/registration/Factor"), accessFlags := 16409, slot := 0, constantValue := 0 }, { name := "EMAIL", type := (.object "com/example/sekisho/sekisho/registration/Factor"), accessFlags := 16409, slot := 1, constantValue := 0 }, { name := "key", type := (.object "java/lang/String"), accessFlags := 18, slot := 3, constantValue := 0 }, { name := "displayName", type := (.object "java/lang/String"), accessFlags := 18, slot := 4, constantValue := 0 }, { name := "$VALUES", type := (.array (.object "com/example/sekisho/sekisho/registration/Factor")), accessFlags := 4122, slot := 2, constantValue := 0 }]
  methods := #[k10m0, k10m1]
  instanceTypes := #[(.object "java/lang/String"), .int, .int, (.object "java/lang/String"), (.object "java/lang/String")]
  staticTypes := #[(.object "com/example/sekisho/sekisho/registration/Factor"), (.object "com/example/sekisho/sekisho/registration/Factor"), (.array (.object "com/example/sekisho/sekisho/registration/Factor"))]
  resolved := Array.replicate 82 none
  statics := some 1 }

def pool11 : Array CpInfo := pool [(1, .class_ 2), (0, u "java/lang/Cloneable"), (0, .class_ 4), (0, u "java/lang/Object")] 2

/-- java/lang/Cloneable -/
def k11 : Class := { plain "java/lang/Cloneable" (some 0) with
  accessFlags := 1537
  interfaces := #[]
  cf := some (fileOf pool11 1 #[] #[] 1537 3 #[] #[])
  fields := #[]
  methods := #[]
  instanceTypes := #[]
  staticTypes := #[]
  resolved := Array.replicate 7 none
  statics := none }

def pool12 : Array CpInfo := pool [(4, .class_ 6), (1, u "java/lang/Object"), (0, u "<init>"), (0, u "()V"), (5, .class_ 16), (1, u "java/lang/StringLatin1"), (104, u "$assertionsDisabled"), (0, u "Z"), (98, .class_ 223), (1, u "java/lang/StringLatin1$LinesSpliterator"), (57, u "equals"), (0, u "([B[B)Z"), (107, .class_ 391), (0, u "java/lang/StringLatin1$CharsSpliterator")] 3

def k12m0 : Method := { name := "<init>", desc := "()V", sig := { parameters := [], returnType := none }, accessFlags := 0, code := none }
def k12c1 : Code := { maxStack := 3, maxLocals := 3, code := jdk_43_method_13_code, exceptionTable := #[], attributes := #[] }
def k12m1 : Method := { name := "equals", desc := "([B[B)Z", sig := { parameters := [(.array .byte), (.array .byte)], returnType := some .boolean }, accessFlags := 9, code := some k12c1 }
/-- java/lang/StringLatin1 -/
def k12 : Class := { plain "java/lang/StringLatin1" (some 0) with
  accessFlags := 48
  interfaces := #[]
  cf := some (fileOf pool12 14 #[.nestMembers #[390, 221]] #[{ accessFlags := 0, nameIndex := 7, descriptorIndex := 8, attributes := #[] }, { accessFlags := 9, nameIndex := 281, descriptorIndex := 282, attributes := #[] }] 48 4 #[] #[{ accessFlags := 4120, nameIndex := 121, descriptorIndex := 122, attributes := #[] }])
  fields := #[{ name := "$assertionsDisabled", type := .boolean, accessFlags := 4120, slot := 0, constantValue := 0 }]
  methods := #[k12m0, k12m1]
  instanceTypes := #[]
  staticTypes := #[.boolean]
  resolved := Array.replicate 395 none
  statics := none }

def pool13 : Array CpInfo := pool [(1, .fieldref 2 3), (0, .class_ 4), (0, .nameAndType 5 6), (0, u "java/util/Optional"), (0, u "EMPTY"), (0, u "Ljava/util/Optional;"), (0, .methodref 8 9), (0, .class_ 10), (0, .nameAndType 11 12), (0, u "java/lang/Object"), (0, u "<init>"), (0, u "()V"), (0, .fieldref 2 14), (0, .nameAndType 15 16), (0, u "value"), (0, u "Ljava/lang/Object;"), (5, u "(Ljava/lang/Object;)Ljava/lang/Object;"), (0, .methodref 2 24), (0, .nameAndType 11 25), (0, u "(Ljava/lang/Object;)V"), (38, u "ofNullable"), (0, u "(Ljava/lang/Object;)Ljava/util/Optional;"), (99, u "orElse")] 21

def k13c0 : Code := { maxStack := 2, maxLocals := 2, code := jdk_32_method_2_code, exceptionTable := #[], attributes := #[] }
def k13m0 : Method := { name := "<init>", desc := "(Ljava/lang/Object;)V", sig := { parameters := [(.object "java/lang/Object")], returnType := none }, accessFlags := 2, code := some k13c0 }
def k13c1 : Code := { maxStack := 3, maxLocals := 1, code := jdk_32_method_4_code, exceptionTable := #[], attributes := #[] }
def k13m1 : Method := { name := "ofNullable", desc := "(Ljava/lang/Object;)Ljava/util/Optional;", sig := { parameters := [(.object "java/lang/Object")], returnType := some (.object "java/util/Optional") }, accessFlags := 9, code := some k13c1 }
def k13c2 : Code := { maxStack := 1, maxLocals := 2, code := jdk_32_method_15_code, exceptionTable := #[], attributes := #[] }
def k13m2 : Method := { name := "orElse", desc := "(Ljava/lang/Object;)Ljava/lang/Object;", sig := { parameters := [(.object "java/lang/Object")], returnType := some (.object "java/lang/Object") }, accessFlags := 1, code := some k13c2 }
/-- java/util/Optional -/
def k13 : Class := { plain "java/util/Optional" (some 0) with
  accessFlags := 49
  interfaces := #[]
  cf := some (fileOf pool13 2 #[] #[{ accessFlags := 2, nameIndex := 11, descriptorIndex := 25, attributes := #[] }, { accessFlags := 9, nameIndex := 64, descriptorIndex := 65, attributes := #[] }, { accessFlags := 1, nameIndex := 165, descriptorIndex := 22, attributes := #[] }] 49 8 #[] #[{ accessFlags := 26, nameIndex := 5, descriptorIndex := 6, attributes := #[] }, { accessFlags := 18, nameIndex := 15, descriptorIndex := 16, attributes := #[] }])
  fields := #[{ name := "EMPTY", type := (.object "java/util/Optional"), accessFlags := 26, slot := 0, constantValue := 0 }, { name := "value", type := (.object "java/lang/Object"), accessFlags := 18, slot := 0, constantValue := 0 }]
  methods := #[k13m0, k13m1, k13m2]
  instanceTypes := #[(.object "java/lang/Object")]
  staticTypes := #[(.object "java/util/Optional")]
  resolved := Array.replicate 187 none
  statics := some 2 }

def pool14 : Array CpInfo := pool [(2, .class_ 4), (1, u "java/lang/Object"), (0, u "<init>"), (0, u "()V"), (17, .class_ 26), (1, u "jdk/internal/util/Preconditions"), (28, .class_ 56), (0, u "jdk/internal/util/Preconditions$4"), (57, .class_ 115), (0, u "jdk/internal/util/Preconditions$1"), (7, u "SIOOBE_FORMATTER"), (0, u "Ljava/util/function/BiFunction;"), (0, .class_ 126), (0, u "jdk/internal/util/Preconditions$2"), (3, u "AIOOBE_FORMATTER"), (0, .class_ 132), (0, u "jdk/internal/util/Preconditions$3"), (3, u "IOOBE_FORMATTER")] 57

def k14m0 : Method := { name := "<init>", desc := "()V", sig := { parameters := [], returnType := none }, accessFlags := 1, code := none }
/-- jdk/internal/util/Preconditions -/
def k14 : Class := { plain "jdk/internal/util/Preconditions" (some 0) with
  accessFlags := 33
  interfaces := #[]
  cf := some (fileOf pool14 24 #[.nestMembers #[55, 131, 125, 114]] #[{ accessFlags := 1, nameIndex := 5, descriptorIndex := 6, attributes := #[] }] 33 2 #[] #[{ accessFlags := 25, nameIndex := 123, descriptorIndex := 124, attributes := #[] }, { accessFlags := 25, nameIndex := 130, descriptorIndex := 124, attributes := #[] }, { accessFlags := 25, nameIndex := 136, descriptorIndex := 124, attributes := #[] }])
  fields := #[{ name := "SIOOBE_FORMATTER", type := (.object "java/util/function/BiFunction"), accessFlags := 25, slot := 0, constantValue := 0 }, { name := "AIOOBE_FORMATTER", type := (.object "java/util/function/BiFunction"), accessFlags := 25, slot := 1, constantValue := 0 }, { name := "IOOBE_FORMATTER", type := (.object "java/util/function/BiFunction"), accessFlags := 25, slot := 2, constantValue := 0 }]
  methods := #[k14m0]
  instanceTypes := #[]
  staticTypes := #[(.object "java/util/function/BiFunction"), (.object "java/util/function/BiFunction"), (.object "java/util/function/BiFunction")]
  resolved := Array.replicate 194 none
  statics := some 3 }

def pool15 : Array CpInfo := pool [(9, u "<init>"), (6, .class_ 18), (1, u "java/lang/Object"), (0, u "()V"), (1, .class_ 23), (1, u "jdk/internal/util/ArraysSupport"), (0, u "LOG2_ARRAY_LONG_INDEX_SCALE"), (0, u "I"), (2, u "U"), (0, u "Ljdk/internal/misc/Unsafe;"), (8, u "BIG_ENDIAN"), (0, u "Z"), (8, u "LOG2_BYTE_BIT_SIZE"), (4, u "LOG2_ARRAY_INT_INDEX_SCALE"), (54, u "JLA"), (0, u "Ljdk/internal/access/JavaLangAccess;"), (11, u "LOG2_ARRAY_BOOLEAN_INDEX_SCALE"), (9, u "LOG2_ARRAY_BYTE_INDEX_SCALE"), (5, u "LOG2_ARRAY_CHAR_INDEX_SCALE"), (5, u "LOG2_ARRAY_SHORT_INDEX_SCALE"), (18, u "LOG2_ARRAY_FLOAT_INDEX_SCALE"), (24, u "LOG2_ARRAY_DOUBLE_INDEX_SCALE"), (89, u "T_BOOLEAN"), (2, u "T_CHAR"), (1, u "T_FLOAT"), (1, u "T_DOUBLE"), (1, u "T_BYTE"), (1, u "T_SHORT"), (1, u "T_INT"), (1, u "T_LONG"), (1, u "SOFT_MAX_ARRAY_LENGTH")] 83

def k15m0 : Method := { name := "<init>", desc := "()V", sig := { parameters := [], returnType := none }, accessFlags := 2, code := none }
/-- jdk/internal/util/ArraysSupport -/
def k15 : Class := { plain "jdk/internal/util/ArraysSupport" (some 0) with
  accessFlags := 33
  interfaces := #[]
  cf := some (fileOf pool15 21 #[] #[{ accessFlags := 2, nameIndex := 9, descriptorIndex := 19, attributes := #[] }] 33 16 #[] #[{ accessFlags := 24, nameIndex := 28, descriptorIndex := 29, attributes := #[] }, { accessFlags := 26, nameIndex := 38, descriptorIndex := 39, attributes := #[] }, { accessFlags := 25, nameIndex := 121, descriptorIndex := 25, attributes := #[] }, { accessFlags := 25, nameIndex := 131, descriptorIndex := 25, attributes := #[] }, { accessFlags := 25, nameIndex := 137, descriptorIndex := 25, attributes := #[] }, { accessFlags := 25, nameIndex := 143, descriptorIndex := 25, attributes := #[] }, { accessFlags := 25, nameIndex := 53, descriptorIndex := 25, attributes := #[] }, { accessFlags := 25, nameIndex := 24, descriptorIndex := 25, attributes := #[] }, { accessFlags := 25, nameIndex := 162, descriptorIndex := 25, attributes := #[] }, { accessFlags := 25, nameIndex := 187, descriptorIndex := 25, attributes := #[] }, { accessFlags := 26, nameIndex := 48, descriptorIndex := 25, attributes := #[] }, { accessFlags := 25, nameIndex := 277, descriptorIndex := 25, attributes := #[] }, { accessFlags := 25, nameIndex := 280, descriptorIndex := 25, attributes := #[] }, { accessFlags := 25, nameIndex := 282, descriptorIndex := 25, attributes := #[] }, { accessFlags := 25, nameIndex := 284, descriptorIndex := 25, attributes := #[] }, { accessFlags := 25, nameIndex := 286, descriptorIndex := 25, attributes := #[] }, { accessFlags := 25, nameIndex := 288, descriptorIndex := 25, attributes := #[] }, { accessFlags := 25, nameIndex := 290, descriptorIndex := 25, attributes := #[] }, { accessFlags := 25, nameIndex := 292, descriptorIndex := 25, attributes := #[] }, { accessFlags := 26, nameIndex := 108, descriptorIndex := 109, attributes := #[] }, { accessFlags := 25, nameIndex := 294, descriptorIndex := 25, attributes := #[] }])
  fields := #[{ name := "U", type := (.object "jdk/internal/misc/Unsafe"), accessFlags := 24, slot := 0, constantValue := 0 }, { name := "BIG_ENDIAN", type := .boolean, accessFlags := 26, slot := 1, constantValue := 0 }, { name := "LOG2_ARRAY_BOOLEAN_INDEX_SCALE", type := .int, accessFlags := 25, slot := 2, constantValue := 0 }, { name := "LOG2_ARRAY_BYTE_INDEX_SCALE", type := .int, accessFlags := 25, slot := 3, constantValue := 0 }, { name := "LOG2_ARRAY_CHAR_INDEX_SCALE", type := .int, accessFlags := 25, slot := 4, constantValue := 0 }, { name := "LOG2_ARRAY_SHORT_INDEX_SCALE", type := .int, accessFlags := 25, slot := 5, constantValue := 0 }, { name := "LOG2_ARRAY_INT_INDEX_SCALE", type := .int, accessFlags := 25, slot := 6, constantValue := 0 }, { name := "LOG2_ARRAY_LONG_INDEX_SCALE", type := .int, accessFlags := 25, slot := 7, constantValue := 0 }, { name := "LOG2_ARRAY_FLOAT_INDEX_SCALE", type := .int, accessFlags := 25, slot := 8, constantValue := 0 }, { name := "LOG2_ARRAY_DOUBLE_INDEX_SCALE", type := .int, accessFlags := 25, slot := 9, constantValue := 0 }, { name := "LOG2_BYTE_BIT_SIZE", type := .int, accessFlags := 26, slot := 10, constantValue := 0 }, { name := "T_BOOLEAN", type := .int, accessFlags := 25, slot := 11, constantValue := 0 }, { name := "T_CHAR", type := .int, accessFlags := 25, slot := 12, constantValue := 0 }, { name := "T_FLOAT", type := .int, accessFlags := 25, slot := 13, constantValue := 0 }, { name := "T_DOUBLE", type := .int, accessFlags := 25, slot := 14, constantValue := 0 }, { name := "T_BYTE", type := .int, accessFlags := 25, slot := 15, constantValue := 0 }, { name := "T_SHORT", type := .int, accessFlags := 25, slot := 16, constantValue := 0 }, { name := "T_INT", type := .int, accessFlags := 25, slot := 17, constantValue := 0 }, { name := "T_LONG", type := .int, accessFlags := 25, slot := 18, constantValue := 0 }, { name := "JLA", type := (.object "jdk/internal/access/JavaLangAccess"), accessFlags := 26, slot := 19, constantValue := 0 }, { name := "SOFT_MAX_ARRAY_LENGTH", type := .int, accessFlags := 25, slot := 20, constantValue := 0 }]
  methods := #[k15m0]
  instanceTypes := #[]
  staticTypes := #[(.object "jdk/internal/misc/Unsafe"), .boolean, .int, .int, .int, .int, .int, .int, .int, .int, .int, .int, .int, .int, .int, .int, .int, .int, .int, (.object "jdk/internal/access/JavaLangAccess"), .int]
  resolved := Array.replicate 378 none
  statics := none }

/-- the primitive byte -/
def k16 : Class := { plain "byte" none with kind := .primitive 'B', accessFlags := 0x411 }
/-- [B -/
def k17 : Class := { plain "[B" (some 0) with kind := .array 16 .byte, interfaces := #[11, 2], accessFlags := 1041 }

/-- the primitive char -/
def k18 : Class := { plain "char" none with kind := .primitive 'C', accessFlags := 0x411 }
/-- [C -/
def k19 : Class := { plain "[C" (some 0) with kind := .array 18 .char, interfaces := #[11, 2], accessFlags := 1041 }

/-- the primitive int -/
def k20 : Class := { plain "int" none with kind := .primitive 'I', accessFlags := 0x411 }
/-- [I -/
def k21 : Class := { plain "[I" (some 0) with kind := .array 20 .int, interfaces := #[11, 2], accessFlags := 1041 }

/-- [Lcom/example/sekisho/sekisho/registration/Factor; -/
def k22 : Class := { plain "[Lcom/example/sekisho/sekisho/registration/Factor;" (some 0) with kind := .array 10 (.object "com/example/sekisho/sekisho/registration/Factor"), interfaces := #[11, 2], accessFlags := 1041 }

def heap : Heap := #[{ cls := 7, slots := #[.long 0, .int 1, .null, .int 0, .null, .int 0, .int 0], vm := .statics 7 },
  { cls := 10, slots := #[.ref 5, .ref 8, .ref 4], vm := .statics 10 },
  { cls := 13, slots := #[.ref 11], vm := .statics 13 },
  { cls := 14, slots := #[.null, .null, .null], vm := .statics 14 },
  { cls := 22, slots := #[.ref 5, .ref 8], vm := .none },
  { cls := 10, slots := #[.null, .int 0, .int 0, .ref 6, .null], vm := .none },
  { cls := 7, slots := #[.ref 7, .int 0, .int 0, .int 0], vm := .none },
  { cls := 17, slots := #[.int 67, .int 104, .int 97, .int 108, .int 108, .int 101, .int 110, .int 103, .int 101, .int 79, .int 77, .int 65, .int 84, .int 79, .int 84, .int 80], vm := .none },
  { cls := 10, slots := #[.null, .int 1, .int 0, .ref 9, .null], vm := .none },
  { cls := 7, slots := #[.ref 10, .int 0, .int 0, .int 0], vm := .none },
  { cls := 17, slots := #[.int 67, .int 104, .int 97, .int 108, .int 108, .int 101, .int 110, .int 103, .int 101, .int 69, .int 109, .int 97, .int 105, .int 108], vm := .none },
  { cls := 13, slots := #[.null], vm := .none }]
def classes : Array Class := #[k0, k1, k2, k3, k4, k5, k6, k7, k8, k9, k10, k11, k12, k13, k14, k15, k16, k17, k18, k19, k20, k21, k22]
def interned : List (Array UInt16 × Addr) := []
def slotsUsed : Nat := 65
def theMethod : MethodId := ⟨1, 1⟩
def args0 : Array Value := #[.int 5, .int 6, .int 65]
def aboutOver (below : List Frame) : State where
  vm := { classes := classes, interned := interned.toArray }
  heap := heap
  slotsUsed := slotsUsed
  threads := #[{ frames := .invoking theMethod args0 :: below }]
def below0 : List Frame := [.native { method := ⟨0, 0⟩, args := #[] }]
def about1 : State := aboutOver below0
def p0 : Program := .bare "" "" ""
def e0 : Env := launch0.env 0 0 0
theorem w_frames : about1.frames = Frame.invoking theMethod args0 :: below0 := rfl
set_option maxRecDepth 65536 in
theorem w_args : argsFit about1.vm theMethod args0 = true := by decide +kernel
set_option maxRecDepth 65536 in
theorem w_heap : heapFits about1 = true := by decide +kernel
set_option maxRecDepth 65536 in
theorem w_runnable : about1.curStatus? = some .runnable := by decide +kernel
set_option maxRecDepth 65536 in
theorem w_alone : about1.alone = true := by decide +kernel
set_option maxRecDepth 65536 in
theorem w_named : about1.methodNamed? x = some theMethod := by decide +kernel
set_option maxRecDepth 65536 in
theorem w_hears : about1.hears theMethod below0 = true := by decide +kernel
set_option maxRecDepth 65536 in
theorem w_ripe : about1.ripe theMethod args0 below0 = true := by decide +kernel
theorem w_running : about1.status = .running := rfl
set_option maxRecDepth 65536 in
theorem w_room : about1.hasRoom e0.platform room_1 = true :=
  launch0.hasRoom_least _ room_1 (by decide +kernel) (by decide +kernel) (by decide +kernel) (by decide +kernel) (by decide +kernel) (by decide +kernel)
theorem allAtoms_all (ts : List Jvm.Cond) (a : Array Jvm.Value) (st : Jvm.State) : (allAtoms ts).before a st = ts.all (fun c => c.before a st) := by
  induction ts with
  | nil => rfl
  | cons c t ih =>
    show (Jvm.Cond.and c (allAtoms t)).before a st = _
    rw [Jvm.Cond.before_and, ih, List.all_cons]
def words1 : List Jvm.Cond := Jvm.Cond.code x code maxLocals ret :: tables_1
/-- a 'code' word, met by the world's own term for the bytes: nothing is compared byte by byte -/
theorem code_word {y : MethodName} {bytes : ByteArray} {mx : Nat} {rt : Option FieldType} {a : Array Value} {s : State} {m : MethodId} {meth : Method} {c : Code} (h1 : s.methodNamed? y = some m) (h2 : s.vm.method? m = some meth) (h3 : meth.code = some c) (h4 : c.code = bytes)
    (h5 : (c.maxLocals == mx && c.exceptionTable.isEmpty && decide (c.maxStack ≤ mostOperands) && decide (meth.sig.returnType = rt) && !meth.locks && decide (parseMethodDescriptor y.desc = some meth.sig)) = true) : (Jvm.Cond.code y bytes mx rt).before a s = true := by
  simp only [Bool.and_eq_true, beq_iff_eq, Bool.not_eq_true', decide_eq_true_eq] at h5
  obtain ⟨⟨⟨⟨⟨g1, g2⟩, g3⟩, g4⟩, g5⟩, g6⟩ := h5
  simp [Cond.before, Cond.holds, Cond.value, h1, h2, h3, h4, g1, g2, g3, g4, g5, g6]
def isCode : Jvm.Cond → Bool
  | .code _ _ _ _ => true
  | _ => false
theorem all_split {L : List Jvm.Cond} {P : Jvm.Cond → Bool} (h1 : L.all (fun c => isCode c || P c) = true) (h2 : ∀ c ∈ L.filter isCode, P c = true) : L.all P = true := by
  refine List.all_eq_true.mpr fun c hc => ?_
  have h := List.all_eq_true.mp h1 c hc
  rcases Bool.eq_false_or_eq_true (isCode c) with hi | hi
  · exact h2 c (List.mem_filter.mpr ⟨hc, hi⟩)
  · simpa [hi] using h
set_option maxRecDepth 65536 in
theorem w_c0 : (Jvm.Cond.code x code maxLocals ret).before args0 about1 = true := code_word (m := ⟨1, 1⟩) (meth := k1m1) (c := k1c1) (by decide +kernel) rfl rfl rfl (by decide +kernel)
set_option maxRecDepth 65536 in
theorem w_c1 : (Jvm.Cond.code ({ cls := "com/example/sekisho/sekisho/registration/FactorOfKeyPinLaw", name := "build", desc := "(ZIIC)Ljava/lang/String;" } : Jvm.MethodName) method_5_code (5 : Nat) (Option.some (Jvm.ClassFile.FieldType.object "java/lang/String"))).before args0 about1 = true := code_word (m := ⟨1, 4⟩) (meth := k1m4) (c := k1c4) (by decide +kernel) rfl rfl rfl (by decide +kernel)
set_option maxRecDepth 65536 in
theorem w_c2 : (Jvm.Cond.code ({ cls := "com/example/sekisho/sekisho/registration/FactorOfKeyPinLaw", name := "keyChars", desc := "(Z)[C" } : Jvm.MethodName) method_4_code (1 : Nat) (Option.some (Jvm.ClassFile.FieldType.array Jvm.ClassFile.FieldType.char))).before args0 about1 = true := code_word (m := ⟨1, 3⟩) (meth := k1m3) (c := k1c3) (by decide +kernel) rfl rfl rfl (by decide +kernel)
set_option maxRecDepth 65536 in
theorem w_c3 : (Jvm.Cond.code ({ cls := "java/lang/String", name := "<init>", desc := "([C)V" } : Jvm.MethodName) jdk_42_method_3_code (2 : Nat) (Option.none : Option Jvm.ClassFile.FieldType)).before args0 about1 = true := code_word (m := ⟨7, 1⟩) (meth := k7m1) (c := k7c1) (by decide +kernel) rfl rfl rfl (by decide +kernel)
set_option maxRecDepth 65536 in
theorem w_c4 : (Jvm.Cond.code ({ cls := "java/lang/String", name := "<init>", desc := "([CIILjava/lang/Void;)V" } : Jvm.MethodName) jdk_42_method_149_code (6 : Nat) (Option.none : Option Jvm.ClassFile.FieldType)).before args0 about1 = true := code_word (m := ⟨7, 3⟩) (meth := k7m3) (c := k7c3) (by decide +kernel) rfl rfl rfl (by decide +kernel)
set_option maxRecDepth 65536 in
theorem w_c5 : (Jvm.Cond.code ({ cls := "java/lang/Object", name := "<init>", desc := "()V" } : Jvm.MethodName) object_method_1_code (1 : Nat) (Option.none : Option Jvm.ClassFile.FieldType)).before args0 about1 = true := code_word (m := ⟨0, 0⟩) (meth := k0m0) (c := k0c0) (by decide +kernel) rfl rfl rfl (by decide +kernel)
set_option maxRecDepth 65536 in
theorem w_c6 : (Jvm.Cond.code ({ cls := "java/lang/StringUTF16", name := "compress", desc := "([CII)[B" } : Jvm.MethodName) jdk_52_method_16_code (6 : Nat) (Option.some (Jvm.ClassFile.FieldType.array Jvm.ClassFile.FieldType.byte))).before args0 about1 = true := code_word (m := ⟨8, 2⟩) (meth := k8m2) (c := k8c2) (by decide +kernel) rfl rfl rfl (by decide +kernel)
set_option maxRecDepth 65536 in
theorem w_c7 : (Jvm.Cond.code ({ cls := "java/lang/StringUTF16", name := "compress", desc := "([CI[BII)I" } : Jvm.MethodName) jdk_52_method_21_code (7 : Nat) (Option.some Jvm.ClassFile.FieldType.int)).before args0 about1 = true := code_word (m := ⟨8, 3⟩) (meth := k8m3) (c := k8c3) (by decide +kernel) rfl rfl rfl (by decide +kernel)
set_option maxRecDepth 65536 in
theorem w_c8 : (Jvm.Cond.code ({ cls := "java/lang/StringUTF16", name := "coderFromArrayLen", desc := "([BI)B" } : Jvm.MethodName) jdk_52_method_15_code (2 : Nat) (Option.some Jvm.ClassFile.FieldType.byte)).before args0 about1 = true := code_word (m := ⟨8, 1⟩) (meth := k8m1) (c := k8c1) (by decide +kernel) rfl rfl rfl (by decide +kernel)
set_option maxRecDepth 65536 in
theorem w_c9 : (Jvm.Cond.code ({ cls := "com/example/sekisho/sekisho/registration/Factor", name := "ofKey", desc := "(Ljava/lang/String;)Ljava/util/Optional;" } : Jvm.MethodName) prog_12_method_6_code (6 : Nat) (Option.some (Jvm.ClassFile.FieldType.object "java/util/Optional"))).before args0 about1 = true := code_word (m := ⟨10, 1⟩) (meth := k10m1) (c := k10c1) (by decide +kernel) rfl rfl rfl (by decide +kernel)
set_option maxRecDepth 65536 in
theorem w_c10 : (Jvm.Cond.code ({ cls := "com/example/sekisho/sekisho/registration/Factor", name := "values", desc := "()[Lcom/example/sekisho/sekisho/registration/Factor;" } : Jvm.MethodName) prog_12_method_1_code (0 : Nat) (Option.some (Jvm.ClassFile.FieldType.array (Jvm.ClassFile.FieldType.object "com/example/sekisho/sekisho/registration/Factor")))).before args0 about1 = true := code_word (m := ⟨10, 0⟩) (meth := k10m0) (c := k10c0) (by decide +kernel) rfl rfl rfl (by decide +kernel)
set_option maxRecDepth 65536 in
theorem w_c11 : (Jvm.Cond.code ({ cls := "java/lang/String", name := "equals", desc := "(Ljava/lang/Object;)Z" } : Jvm.MethodName) jdk_42_method_66_code (3 : Nat) (Option.some Jvm.ClassFile.FieldType.boolean)).before args0 about1 = true := code_word (m := ⟨7, 2⟩) (meth := k7m2) (c := k7c2) (by decide +kernel) rfl rfl rfl (by decide +kernel)
set_option maxRecDepth 65536 in
theorem w_c12 : (Jvm.Cond.code ({ cls := "java/lang/StringLatin1", name := "equals", desc := "([B[B)Z" } : Jvm.MethodName) jdk_43_method_13_code (3 : Nat) (Option.some Jvm.ClassFile.FieldType.boolean)).before args0 about1 = true := code_word (m := ⟨12, 1⟩) (meth := k12m1) (c := k12c1) (by decide +kernel) rfl rfl rfl (by decide +kernel)
set_option maxRecDepth 65536 in
theorem w_c13 : (Jvm.Cond.code ({ cls := "java/util/Optional", name := "ofNullable", desc := "(Ljava/lang/Object;)Ljava/util/Optional;" } : Jvm.MethodName) jdk_32_method_4_code (1 : Nat) (Option.some (Jvm.ClassFile.FieldType.object "java/util/Optional"))).before args0 about1 = true := code_word (m := ⟨13, 1⟩) (meth := k13m1) (c := k13c1) (by decide +kernel) rfl rfl rfl (by decide +kernel)
set_option maxRecDepth 65536 in
theorem w_c14 : (Jvm.Cond.code ({ cls := "java/util/Optional", name := "<init>", desc := "(Ljava/lang/Object;)V" } : Jvm.MethodName) jdk_32_method_2_code (2 : Nat) (Option.none : Option Jvm.ClassFile.FieldType)).before args0 about1 = true := code_word (m := ⟨13, 0⟩) (meth := k13m0) (c := k13c0) (by decide +kernel) rfl rfl rfl (by decide +kernel)
set_option maxRecDepth 65536 in
theorem w_c15 : (Jvm.Cond.code ({ cls := "java/util/Optional", name := "orElse", desc := "(Ljava/lang/Object;)Ljava/lang/Object;" } : Jvm.MethodName) jdk_32_method_15_code (2 : Nat) (Option.some (Jvm.ClassFile.FieldType.object "java/lang/Object"))).before args0 about1 = true := code_word (m := ⟨13, 2⟩) (meth := k13m2) (c := k13c2) (by decide +kernel) rfl rfl rfl (by decide +kernel)
set_option maxRecDepth 65536 in
theorem w_c16 : (Jvm.Cond.code ({ cls := "com/example/sekisho/sekisho/registration/FactorOfKeyPinLaw", name := "expected", desc := "(Ljava/lang/String;)Lcom/example/sekisho/sekisho/registration/Factor;" } : Jvm.MethodName) method_3_code (1 : Nat) (Option.some (Jvm.ClassFile.FieldType.object "com/example/sekisho/sekisho/registration/Factor"))).before args0 about1 = true := code_word (m := ⟨1, 2⟩) (meth := k1m2) (c := k1c2) (by decide +kernel) rfl rfl rfl (by decide +kernel)
def codes1 : List Jvm.Cond := [Jvm.Cond.code x code maxLocals ret, Jvm.Cond.code ({ cls := "com/example/sekisho/sekisho/registration/FactorOfKeyPinLaw", name := "build", desc := "(ZIIC)Ljava/lang/String;" } : Jvm.MethodName) method_5_code (5 : Nat) (Option.some (Jvm.ClassFile.FieldType.object "java/lang/String")), Jvm.Cond.code ({ cls := "com/example/sekisho/sekisho/registration/FactorOfKeyPinLaw", name := "keyChars", desc := "(Z)[C" } : Jvm.MethodName) method_4_code (1 : Nat) (Option.some (Jvm.ClassFile.FieldType.array Jvm.ClassFile.FieldType.char)), Jvm.Cond.code ({ cls := "java/lang/String", name := "<init>", desc := "([C)V" } : Jvm.MethodName) jdk_42_method_3_code (2 : Nat) (Option.none : Option Jvm.ClassFile.FieldType), Jvm.Cond.code ({ cls := "java/lang/String", name := "<init>", desc := "([CIILjava/lang/Void;)V" } : Jvm.MethodName) jdk_42_method_149_code (6 : Nat) (Option.none : Option Jvm.ClassFile.FieldType), Jvm.Cond.code ({ cls := "java/lang/Object", name := "<init>", desc := "()V" } : Jvm.MethodName) object_method_1_code (1 : Nat) (Option.none : Option Jvm.ClassFile.FieldType), Jvm.Cond.code ({ cls := "java/lang/StringUTF16", name := "compress", desc := "([CII)[B" } : Jvm.MethodName) jdk_52_method_16_code (6 : Nat) (Option.some (Jvm.ClassFile.FieldType.array Jvm.ClassFile.FieldType.byte)), Jvm.Cond.code ({ cls := "java/lang/StringUTF16", name := "compress", desc := "([CI[BII)I" } : Jvm.MethodName) jdk_52_method_21_code (7 : Nat) (Option.some Jvm.ClassFile.FieldType.int), Jvm.Cond.code ({ cls := "java/lang/StringUTF16", name := "coderFromArrayLen", desc := "([BI)B" } : Jvm.MethodName) jdk_52_method_15_code (2 : Nat) (Option.some Jvm.ClassFile.FieldType.byte), Jvm.Cond.code ({ cls := "com/example/sekisho/sekisho/registration/Factor", name := "ofKey", desc := "(Ljava/lang/String;)Ljava/util/Optional;" } : Jvm.MethodName) prog_12_method_6_code (6 : Nat) (Option.some (Jvm.ClassFile.FieldType.object "java/util/Optional")), Jvm.Cond.code ({ cls := "com/example/sekisho/sekisho/registration/Factor", name := "values", desc := "()[Lcom/example/sekisho/sekisho/registration/Factor;" } : Jvm.MethodName) prog_12_method_1_code (0 : Nat) (Option.some (Jvm.ClassFile.FieldType.array (Jvm.ClassFile.FieldType.object "com/example/sekisho/sekisho/registration/Factor"))), Jvm.Cond.code ({ cls := "java/lang/String", name := "equals", desc := "(Ljava/lang/Object;)Z" } : Jvm.MethodName) jdk_42_method_66_code (3 : Nat) (Option.some Jvm.ClassFile.FieldType.boolean), Jvm.Cond.code ({ cls := "java/lang/StringLatin1", name := "equals", desc := "([B[B)Z" } : Jvm.MethodName) jdk_43_method_13_code (3 : Nat) (Option.some Jvm.ClassFile.FieldType.boolean), Jvm.Cond.code ({ cls := "java/util/Optional", name := "ofNullable", desc := "(Ljava/lang/Object;)Ljava/util/Optional;" } : Jvm.MethodName) jdk_32_method_4_code (1 : Nat) (Option.some (Jvm.ClassFile.FieldType.object "java/util/Optional")), Jvm.Cond.code ({ cls := "java/util/Optional", name := "<init>", desc := "(Ljava/lang/Object;)V" } : Jvm.MethodName) jdk_32_method_2_code (2 : Nat) (Option.none : Option Jvm.ClassFile.FieldType), Jvm.Cond.code ({ cls := "java/util/Optional", name := "orElse", desc := "(Ljava/lang/Object;)Ljava/lang/Object;" } : Jvm.MethodName) jdk_32_method_15_code (2 : Nat) (Option.some (Jvm.ClassFile.FieldType.object "java/lang/Object")), Jvm.Cond.code ({ cls := "com/example/sekisho/sekisho/registration/FactorOfKeyPinLaw", name := "expected", desc := "(Ljava/lang/String;)Lcom/example/sekisho/sekisho/registration/Factor;" } : Jvm.MethodName) method_3_code (1 : Nat) (Option.some (Jvm.ClassFile.FieldType.object "com/example/sekisho/sekisho/registration/Factor"))]
set_option maxRecDepth 65536 in
theorem codes_eq : words1.filter isCode = codes1 := rfl
theorem w_codes : ∀ c ∈ words1.filter isCode, c.before args0 about1 = true := by
  rw [codes_eq]
  intro c hc
  simp only [codes1, List.mem_cons, List.not_mem_nil, or_false] at hc
  rcases hc with rfl | rfl | rfl | rfl | rfl | rfl | rfl | rfl | rfl | rfl | rfl | rfl | rfl | rfl | rfl | rfl | rfl
  · exact w_c0
  · exact w_c1
  · exact w_c2
  · exact w_c3
  · exact w_c4
  · exact w_c5
  · exact w_c6
  · exact w_c7
  · exact w_c8
  · exact w_c9
  · exact w_c10
  · exact w_c11
  · exact w_c12
  · exact w_c13
  · exact w_c14
  · exact w_c15
  · exact w_c16
set_option maxRecDepth 65536 in
theorem w_t1 : (words1.take 24).all (fun c => isCode c || c.before args0 about1) = true := by decide +kernel
set_option maxRecDepth 65536 in
theorem w_t2 : ((words1.drop 24).take 24).all (fun c => isCode c || c.before args0 about1) = true := by decide +kernel
set_option maxRecDepth 65536 in
theorem w_t3 : (((words1.drop 24).drop 24).take 24).all (fun c => isCode c || c.before args0 about1) = true := by decide +kernel
set_option maxRecDepth 65536 in
theorem w_t4 : ((((words1.drop 24).drop 24).drop 24).take 24).all (fun c => isCode c || c.before args0 about1) = true := by decide +kernel
set_option maxRecDepth 65536 in
theorem w_t5 : ((((words1.drop 24).drop 24).drop 24).drop 24).all (fun c => isCode c || c.before args0 about1) = true := by decide +kernel
theorem w_tables : (allAtoms (Jvm.Cond.code x code maxLocals ret :: tables_1)).before args0 about1 = true := by
  rw [allAtoms_all]
  show words1.all (fun c => c.before args0 about1) = true
  refine all_split ?_ w_codes
  rw [← List.take_append_drop 24 words1, List.all_append, w_t1, ← List.take_append_drop 24 (words1.drop 24), List.all_append, w_t2, ← List.take_append_drop 24 ((words1.drop 24).drop 24), List.all_append, w_t3, ← List.take_append_drop 24 (((words1.drop 24).drop 24).drop 24), List.all_append, w_t4, w_t5]
  rfl
set_option maxRecDepth 65536 in
theorem w_rest : rest_1_c.before args0 about1 = true := by decide +kernel
set_option maxRecDepth 65536 in
theorem w_case : (Jvm.Cond.and given_1 narrow_1).before args0 about1 = true := by decide +kernel
set_option maxRecDepth 65536 in
theorem w_consts : constsHeld consts_1 about1 := Jvm.Lit.constsHeldB_iff.mp (by decide +kernel)
theorem w_applies : (headSpec (Jvm.Cond.code x code maxLocals ret :: tables_1) room_1).applies x e0.platform about1 = true :=
  (Spec.applies_iff w_frames).mpr ⟨w_running, w_runnable, w_alone, w_named, w_hears, w_ripe, w_room, w_tables⟩
theorem atStart : AtStart classFile x code maxLocals ret World_1 tables_1 room_1 Calls_1 rest_1 Pre_1 launch0 p0 e0 about1 theMethod args0 below0 :=
  ⟨lists_1, trivial, launch0.admits_env _ _ _, launch0.least_env, fairChoices_fair.cas, fairChoices_fair.clock, w_frames, w_args, w_heap, w_applies, ⟨w_consts, trivial⟩, w_rest, w_case⟩
end start1
theorem witness_1 : WitnessClaimed_1 := ⟨start1.p0, start1.e0, start1.about1, start1.theMethod, start1.args0, start1.below0, start1.atStart⟩
end Jvm.Pilot.@@N@@
