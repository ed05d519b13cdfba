import JvmDerived
import JvmDerived.Pilot.@@N@@Statement
import JvmDerived.Pilot.@@N@@Code
set_option linter.unusedVariables false
set_option linter.unusedSimpArgs false
@@BLOCK:NumsL.lean.txt@@
namespace Jvm.RoadKit
open Sem ClassFile Op Lib Jvm.Stand Jvm.Free Jvm.LawKit
section New
variable {p : Program} {l : Launch} {e : Env} {R : Room} {s : State} {m : MethodId} {args : Array Value} {below : List Frame} {meth : Method} {c : Code} {T : State} {locs : List Loc} {cells slots : Nat}
theorem retI (X : Stand p l e R s m args below meth c T locs cells slots) (hx : p.tables.exec = Jvm.exec) {pc : Nat} {Ls : Array Slot} {z : Int32} {rest : List Value} (hret : meth.sig.returnType = some .int) (hd : decode c.code pc = .ok (.ireturn, 1)) {fs : List Frame}
    (hl : ∀ (f : JFrame) (acts : List Action), f.method = m → f.locked = none → f.entered = [] → (doReturn e (T.setTop f) acts (some (.int z))).1 = T.setFrames fs) : Steps p.tables e below (T.setTop (mkF m pc Ls (.int z :: rest))) (T.setFrames fs) :=
  retOut X hx hret rfl (Or.inl ⟨rfl, Or.inl rfl, z, rfl⟩) hd hl
end New
end Jvm.RoadKit
/- laws to paste: Road.backV (cut by pick.py; bodies as the Statement names them) -/
namespace Jvm.Pilot.@@N@@
namespace StrChars
open Jvm Sem ClassFile Op Lib Jvm.Stand Jvm.Free.XT Jvm.Free.ALB Jvm.Free.JM Jvm.Free
open Jvm.Lib.Cold (StaticIs)
/-- a char array whose places are chars -/
def Ch (a : Addr) (A : Cell) (U : State) : Prop := Arr .char a A U ∧ Typed .char A
theorem Ch.mv {a : Addr} {A : Cell} {U U' : State} (h : Ch a A U) (hal : U.vm.Alike U'.vm) (hh : U'.heap = U.heap) : Ch a A U' := ⟨h.1.mv hal hh, h.2⟩
theorem Ch.keep {a : Addr} {A : Cell} {U U' : State} (h : Ch a A U) (hal : U.vm.Alike U'.vm) (hk : U'.heap[a]? = some A) : Ch a A U' := ⟨h.1.keep hal hk, h.2⟩
/-- what place i of a char[]'s cell holds -/
def cv (A : Cell) (i : Nat) : Int32 := match A.slots[i]? with | some (.int x) => x | _ => 0
theorem Ch.get {a : Addr} {A : Cell} {U : State} (h : Ch a A U) {i : Nat} (hi : i < A.slots.size) : A.slots[i]? = some (.int (cv A i)) := by
  have e := Array.getElem?_eq_getElem hi
  have f := h.2 i _ e
  unfold cv; rw [e]
  generalize A.slots[i] = v at f
  cases v <;> simp [fits] at f ⊢
/-- the byte that i2b leaves of a char -/
def lo8 (x : Int32) : Int32 := x.toInt8.toInt32
theorem fits_lo8 (y : Int32) : fits .byte (.int (lo8 y)) = true := by
  have h1 := y.toInt8.le_toInt
  have h2 := y.toInt8.toInt_lt
  simp only [lo8, fits, Bool.and_eq_true, decide_eq_true_eq, Int32.le_iff_toInt_le, Int8.toInt_toInt32, show (-128 : Int32).toInt = -128 from by decide, show (127 : Int32).toInt = 127 from by decide]
  omega
/-- A' is A but that each place j of lo .. hi - 1 holds f j -/
def Laid (A A' : Cell) (lo hi : Nat) (f : Nat → Value) : Prop := A'.cls = A.cls ∧ A'.vm = A.vm ∧ A'.slots.size = A.slots.size ∧ ∀ i, A'.slots[i]? = if lo ≤ i ∧ i < hi then some (f i) else A.slots[i]?
theorem Laid.zero (A : Cell) (lo : Nat) (f : Nat → Value) : Laid A A lo (lo + 0) f := ⟨rfl, rfl, rfl, fun i => by rw [if_neg (by omega)]⟩
theorem Laid.step {A Ak : Cell} {lo k : Nat} {f : Nat → Value} {v : Value} (h : Laid A Ak lo k f) (hlo : lo ≤ k) (hk : k < Ak.slots.size) (hv : v = f k) : Laid A (Ak.setSlot k v) lo (k + 1) f := by
  refine ⟨h.1, h.2.1, by simpa [Cell.setSlot] using h.2.2.1, fun i => ?_⟩
  by_cases e : k = i
  · subst e; rw [Cell.slots_setSlot_self v hk, if_pos (by omega), hv]
  · rw [Cell.slots_setSlot_ne v e, h.2.2.2 i]
    by_cases q : lo ≤ i ∧ i < k
    · rw [if_pos q, if_pos (by omega)]
    · rw [if_neg q, if_neg (by omega)]
def U16 : String := "java/lang/StringUTF16"
namespace Cmp5
def yN : MethodName := ⟨"java/lang/StringUTF16", "compress", "([CI[BII)I"⟩
abbrev yB : ByteArray := jdk_52_method_21_code
theorem d0 : decode yB 0 = .ok (.iconst 0, 1) := by decide +kernel
theorem d1 : decode yB 1 = .ok (.istore 5, 2) := by decide +kernel
theorem d3 : decode yB 3 = .ok (.iload 5, 2) := by decide +kernel
theorem d5 : decode yB 5 = .ok (.iload 4, 2) := by decide +kernel
theorem d7 : decode yB 7 = .ok (.if_icmp (.ge) 37, 3) := by decide +kernel
theorem d10 : decode yB 10 = .ok (.aload_n 0, 1) := by decide +kernel
theorem d11 : decode yB 11 = .ok (.iload_n 1, 1) := by decide +kernel
theorem d12 : decode yB 12 = .ok (.caload, 1) := by decide +kernel
theorem d13 : decode yB 13 = .ok (.istore 6, 2) := by decide +kernel
theorem d15 : decode yB 15 = .ok (.iload 6, 2) := by decide +kernel
theorem d17 : decode yB 17 = .ok (.sipush 255, 3) := by decide +kernel
theorem d20 : decode yB 20 = .ok (.if_icmp (.le) 6, 3) := by decide +kernel
theorem d26 : decode yB 26 = .ok (.aload_n 2, 1) := by decide +kernel
theorem d27 : decode yB 27 = .ok (.iload_n 3, 1) := by decide +kernel
theorem d28 : decode yB 28 = .ok (.iload 6, 2) := by decide +kernel
theorem d30 : decode yB 30 = .ok (.i2b, 1) := by decide +kernel
theorem d31 : decode yB 31 = .ok (.bastore, 1) := by decide +kernel
theorem d32 : decode yB 32 = .ok (.iinc 1 1, 3) := by decide +kernel
theorem d35 : decode yB 35 = .ok (.iinc 3 1, 3) := by decide +kernel
theorem d38 : decode yB 38 = .ok (.iinc 5 1, 3) := by decide +kernel
theorem d41 : decode yB 41 = .ok (.goto (-38), 3) := by decide +kernel
theorem d44 : decode yB 44 = .ok (.iload 4, 2) := by decide +kernel
theorem d46 : decode yB 46 = .ok (.ireturn, 1) := by decide +kernel
def site : List Cond := []
def tab : Cond := tabOf yN yB 7 (some .int) site
def P (b : Addr) (A : Cell) (d : Addr) (B : Cell) (o q len : Nat) (args : Array Value) (s : State) : Prop := args = #[.ref b, .int (Int32.ofNat o), .ref d, .int (Int32.ofNat q), .int (Int32.ofNat len)] ∧ Ch b A s ∧ Arr .byte d B s ∧ b ≠ d ∧ o + len ≤ A.slots.size ∧ q + len ≤ B.slots.size ∧ ∀ i, i < len → ¬ 255 < cv A (o + i)
def E (b : Addr) (A : Cell) (d : Addr) (B : Cell) (o q len : Nat) (r : Option Value) (s u : State) : Prop := r = some (.int (Int32.ofNat len)) ∧ ∃ B', Put d B' s u ∧ Laid B B' q (q + len) (fun j => Value.int (lo8 (cv A (o + (j - q)))))
/-- no char of the range above 255: len; the places written hold each char's low byte -/
theorem law (l : Launch) (b : Addr) (A : Cell) (d : Addr) (B : Cell) (o q len : Nat) : Law l yN 5 5 0 0 yB 7 (some .int) site (P b A d B o q len) (E b A d B o q len) (copyLocs d q len) 0 0 := by
  refine Law.of_walk (plainFor_of_name (by decide +kernel)) (by decide +kernel) (by decide +kernel) (by decide) (fun _ _ h => by rw [h.1]; rfl) (fun _ U U' hal hh h => ⟨h.1, h.2.1.mv hal hh, h.2.2.1.mv hal hh, h.2.2.2⟩) (fun r U U' V V' h1 hal h2 h => ⟨h.1, h.2.elim fun B' q => ⟨B', q.1.mv h1 h2, q.2⟩⟩) ?_
  intro p e s m args below meth c s₁ X0 hexec hbytes hml hret hlk hnm hown hh0 W hP
  obtain ⟨rfl, hA, hB, hne, l1, l2, hp⟩ := hP
  have c1 : Steps p.tables e below (s₁.setTop (entryFrame m #[.ref b, .int (Int32.ofNat o), .ref d, .int (Int32.ofNat q), .int (Int32.ofNat len)] 7)) (s₁.setTop (mkF m 0 #[.val (.ref b), .val (.int (Int32.ofNat o)), .val (.ref d), .val (.int (Int32.ofNat q)), .val (.int (Int32.ofNat len)), .unset, .unset] [])) := entry rfl
  have hA0 := hA.1.mv X0.warmed.alike hh0
  have hB0 := hB.mv X0.warmed.alike hh0
  have a31 := hA.1.2.2.2
  have c2 : Steps p.tables e below (s₁.setTop (entryFrame m #[.ref b, .int (Int32.ofNat o), .ref d, .int (Int32.ofNat q), .int (Int32.ofNat len)] 7)) (s₁.setTop (mkF m 3 #[.val (.ref b), .val (.int (Int32.ofNat o)), .val (.ref d), .val (.int (Int32.ofNat q)), .val (.int (Int32.ofNat len)), .val (.int 0), .unset] [])) := c1.trans (by
    refine iconstV X0.here hexec rfl 0 (hb hbytes d0) (by decide) ?_
    refine XS.istore X0.here hexec rfl (hb hbytes d1) rfl rfl ?_
    exact Steps.refl _)
  have loop : ∀ (r i : Nat), i + r = len → ∀ (z : Slot), (z = .unset ∨ ∃ w, z = .val w ∧ w.category = 1) → ∀ (Tl : State) (Bk : Cell), Stand p l e { frames := 0, locals := 0, cells := 0, slots := 0 } s m #[.ref b, .int (Int32.ofNat o), .ref d, .int (Int32.ofNat q), .int (Int32.ofNat len)] below meth c Tl ([] ++ copyLocs d q i) 0 0 → Put d Bk s₁ Tl → Laid B Bk q (q + i) (fun j => Value.int (lo8 (cv A (o + (j - q))))) →
      Steps p.tables e below (s₁.setTop (entryFrame m #[.ref b, .int (Int32.ofNat o), .ref d, .int (Int32.ofNat q), .int (Int32.ofNat len)] 7)) (Tl.setTop (mkF m 3 #[.val (.ref b), .val (.int (Int32.ofNat (o + i))), .val (.ref d), .val (.int (Int32.ofNat (q + i))), .val (.int (Int32.ofNat len)), .val (.int (Int32.ofNat i)), z] [])) → ∃ (T' : State) (B' : Cell) (z' : Slot), Stand p l e { frames := 0, locals := 0, cells := 0, slots := 0 } s m #[.ref b, .int (Int32.ofNat o), .ref d, .int (Int32.ofNat q), .int (Int32.ofNat len)] below meth c T' ([] ++ copyLocs d q len) 0 0 ∧ Put d B' s₁ T' ∧ Laid B B' q (q + len) (fun j => Value.int (lo8 (cv A (o + (j - q))))) ∧
      Steps p.tables e below (s₁.setTop (entryFrame m #[.ref b, .int (Int32.ofNat o), .ref d, .int (Int32.ofNat q), .int (Int32.ofNat len)] 7)) (T'.setTop (mkF m 3 #[.val (.ref b), .val (.int (Int32.ofNat (o + len))), .val (.ref d), .val (.int (Int32.ofNat (q + len))), .val (.int (Int32.ofNat len)), .val (.int (Int32.ofNat len)), z'] [])) := by
    intro r
    induction r with
    | zero =>
      intro i hi z hz Tl Bk Xl pl fl cl
      have hil : i = len := by omega
      rw [hil] at Xl fl cl
      exact ⟨Tl, Bk, z, Xl, pl, fl, cl⟩
    | succ r ih =>
      intro i hi z hz Tl Bk Xl pl fl cl
      have all := X0.warmed.alike.symm.trans Xl.warmed.alike
      have hAl := hA0.keep all (pl.other hne hA0.1)
      have hBk := hB0.like all pl.1 fl.1 fl.2.1 fl.2.2.1
      have hlt : q + i < Bk.slots.size := by rw [fl.2.2.1]; omega
      have c3 : Steps p.tables e below (s₁.setTop (entryFrame m #[.ref b, .int (Int32.ofNat o), .ref d, .int (Int32.ofNat q), .int (Int32.ofNat len)] 7)) (Tl.setTop (mkF m 12 #[.val (.ref b), .val (.int (Int32.ofNat (o + i))), .val (.ref d), .val (.int (Int32.ofNat (q + i))), .val (.int (Int32.ofNat len)), .val (.int (Int32.ofNat i)), z] [.int (Int32.ofNat (o + i)), .ref b])) := cl.trans (by
        refine XS.iload Xl.here hexec rfl (hb hbytes d3) rfl ?_
        refine XS.iload Xl.here hexec rfl (hb hbytes d5) rfl ?_
        refine XS.icmpNo Xl.here hexec rfl (hb hbytes d7) rfl (ii_ge_f (lt32 (by omega) (by omega))) ?_
        refine XS.aloadN Xl.here hexec rfl (hb hbytes d10) rfl rfl ?_
        refine XS.iloadN Xl.here hexec rfl (hb hbytes d11) rfl ?_
        exact Steps.refl _)
      have c4 : Steps p.tables e below (s₁.setTop (entryFrame m #[.ref b, .int (Int32.ofNat o), .ref d, .int (Int32.ofNat q), .int (Int32.ofNat len)] 7)) (Tl.setTop (mkF m 13 #[.val (.ref b), .val (.int (Int32.ofNat (o + i))), .val (.ref d), .val (.int (Int32.ofNat (q + i))), .val (.int (Int32.ofNat len)), .val (.int (Int32.ofNat i)), z] [.int (cv A (o + i))])) := c3.trans (by
        refine Xl.aget hexec hAl rfl (hA.get (i := o + i) (by omega)) rfl rfl (hb hbytes d12) ?_
        exact Steps.refl _)
      have c5 : Steps p.tables e below (s₁.setTop (entryFrame m #[.ref b, .int (Int32.ofNat o), .ref d, .int (Int32.ofNat q), .int (Int32.ofNat len)] 7)) (Tl.setTop (mkF m 15 #[.val (.ref b), .val (.int (Int32.ofNat (o + i))), .val (.ref d), .val (.int (Int32.ofNat (q + i))), .val (.int (Int32.ofNat len)), .val (.int (Int32.ofNat i)), .val (.int (cv A (o + i)))] [])) := c4.trans (by
        refine XS.istoreS Xl.here hexec rfl (hb hbytes d13) rfl rfl hz ?_
        exact Steps.refl _)
      have c6 : Steps p.tables e below (s₁.setTop (entryFrame m #[.ref b, .int (Int32.ofNat o), .ref d, .int (Int32.ofNat q), .int (Int32.ofNat len)] 7)) (Tl.setTop (mkF m 31 #[.val (.ref b), .val (.int (Int32.ofNat (o + i))), .val (.ref d), .val (.int (Int32.ofNat (q + i))), .val (.int (Int32.ofNat len)), .val (.int (Int32.ofNat i)), .val (.int (cv A (o + i)))] [.int (lo8 (cv A (o + i))), .int (Int32.ofNat (q + i)), .ref d])) := c5.trans (by
        refine XS.iload Xl.here hexec rfl (hb hbytes d15) rfl ?_
        refine sipushV Xl.here hexec rfl 255 (hb hbytes d17) (by decide) ?_
        refine XS.icmpYes Xl.here hexec rfl (pc0 := 20) rfl (hb hbytes d20) rfl (ii_le_t (hp i (by omega))) (by decide) rfl ?_
        refine XS.aloadN Xl.here hexec rfl (hb hbytes d26) rfl rfl ?_
        refine XS.iloadN Xl.here hexec rfl (hb hbytes d27) rfl ?_
        refine XS.iload Xl.here hexec rfl (hb hbytes d28) rfl ?_
        refine i2b Xl.here hexec rfl (hb hbytes d30) rfl ?_
        exact Steps.refl _)
      obtain ⟨T7, X7, p7, st7⟩ := Xl.aput hexec hBk rfl hlt rfl (fits_lo8 (cv A (o + i))) (g := (mkF m 31 #[.val (.ref b), .val (.int (Int32.ofNat (o + i))), .val (.ref d), .val (.int (Int32.ofNat (q + i))), .val (.int (Int32.ofNat len)), .val (.int (Int32.ofNat i)), .val (.int (cv A (o + i)))] [.int (lo8 (cv A (o + i))), .int (Int32.ofNat (q + i)), .ref d])) rfl (rest := []) rfl (hb hbytes d31)
      have c8 : Steps p.tables e below (s₁.setTop (entryFrame m #[.ref b, .int (Int32.ofNat o), .ref d, .int (Int32.ofNat q), .int (Int32.ofNat len)] 7)) (T7.setTop (mkF m 32 #[.val (.ref b), .val (.int (Int32.ofNat (o + i))), .val (.ref d), .val (.int (Int32.ofNat (q + i))), .val (.int (Int32.ofNat len)), .val (.int (Int32.ofNat i)), .val (.int (cv A (o + i)))] [])) := c6.trans (st7 _ (Steps.refl _))
      have c9 : Steps p.tables e below (s₁.setTop (entryFrame m #[.ref b, .int (Int32.ofNat o), .ref d, .int (Int32.ofNat q), .int (Int32.ofNat len)] 7)) (T7.setTop (mkF m 3 #[.val (.ref b), .val (.int (Int32.ofNat (o + i) + 1)), .val (.ref d), .val (.int (Int32.ofNat (q + i) + 1)), .val (.int (Int32.ofNat len)), .val (.int (Int32.ofNat i + 1)), .val (.int (cv A (o + i)))] [])) := c8.trans (by
        refine iincV X7.here hexec rfl 1 (hb hbytes d32) (by decide) rfl rfl ?_
        refine iincV X7.here hexec rfl 1 (hb hbytes d35) (by decide) rfl rfl ?_
        refine iincV X7.here hexec rfl 1 (hb hbytes d38) (by decide) rfl rfl ?_
        refine XS.goto X7.here hexec rfl (pc0 := 41) rfl (hb hbytes d41) (by decide) rfl ?_
        exact Steps.refl _)
      have c10 : Steps p.tables e below (s₁.setTop (entryFrame m #[.ref b, .int (Int32.ofNat o), .ref d, .int (Int32.ofNat q), .int (Int32.ofNat len)] 7)) (T7.setTop (mkF m 3 #[.val (.ref b), .val (.int (Int32.ofNat (o + (i + 1)))), .val (.ref d), .val (.int (Int32.ofNat (q + (i + 1)))), .val (.int (Int32.ofNat len)), .val (.int (Int32.ofNat (i + 1))), .val (.int (cv A (o + i)))] [])) := by
        have := c9
        rw [succ32, succ32, succ32] at this
        exact this
      exact ih (i + 1) (by omega) _ (Or.inr ⟨_, rfl, rfl⟩) T7 _ (by rw [copyLocs_step, ← List.append_assoc]; exact X7) (pl.trans p7) (fl.step (by omega) hlt (by simp)) c10
  obtain ⟨T9, B9, z9, X9, p9, f9, g9⟩ := loop len 0 (by omega) .unset (Or.inl rfl) s₁ B (by simpa [copyLocs] using X0) ⟨hB0.1, fun _ _ => rfl, rfl⟩ (Laid.zero _ _ _) c2
  have c11 : Steps p.tables e below (s₁.setTop (entryFrame m #[.ref b, .int (Int32.ofNat o), .ref d, .int (Int32.ofNat q), .int (Int32.ofNat len)] 7)) (T9.setTop (mkF m 46 #[.val (.ref b), .val (.int (Int32.ofNat (o + len))), .val (.ref d), .val (.int (Int32.ofNat (q + len))), .val (.int (Int32.ofNat len)), .val (.int (Int32.ofNat len)), z9] [.int (Int32.ofNat len)])) := g9.trans (by
    refine XS.iload X9.here hexec rfl (hb hbytes d3) rfl ?_
    refine XS.iload X9.here hexec rfl (hb hbytes d5) rfl ?_
    refine XS.icmpYes X9.here hexec rfl (pc0 := 7) rfl (hb hbytes d7) rfl (ii_ge_t (nlt32 (by omega) (Nat.le_refl _))) (by decide) rfl ?_
    refine XS.iload X9.here hexec rfl (hb hbytes d44) rfl ?_
    exact Steps.refl _)
  exact ⟨T9, some (.int (Int32.ofNat len)), _, _, _, X9, by simp, rfl, rfl, (fun h => by cases h), ⟨rfl, B9, p9.from hh0, f9⟩, fun fs hl => c11.trans (X9.ireturnOut hexec hret rfl (Or.inl rfl) (hb hbytes d46) hl)⟩
end Cmp5
namespace Cmp3
def yN : MethodName := ⟨"java/lang/StringUTF16", "compress", "([CII)[B"⟩
abbrev yB : ByteArray := jdk_52_method_16_code
theorem d0 : decode yB 0 = .ok (.iload_n 2, 1) := by decide +kernel
theorem d1 : decode yB 1 = .ok (.newarray .byte, 2) := by decide +kernel
theorem d3 : decode yB 3 = .ok (.astore_n 3, 1) := by decide +kernel
theorem d4 : decode yB 4 = .ok (.aload_n 0, 1) := by decide +kernel
theorem d5 : decode yB 5 = .ok (.iload_n 1, 1) := by decide +kernel
theorem d6 : decode yB 6 = .ok (.aload_n 3, 1) := by decide +kernel
theorem d7 : decode yB 7 = .ok (.iconst 0, 1) := by decide +kernel
theorem d8 : decode yB 8 = .ok (.iload_n 2, 1) := by decide +kernel
theorem d9 : decode yB 9 = .ok (.invokestatic 115, 3) := by decide +kernel
theorem d12 : decode yB 12 = .ok (.istore 4, 2) := by decide +kernel
theorem d14 : decode yB 14 = .ok (.iload 4, 2) := by decide +kernel
theorem d16 : decode yB 16 = .ok (.iload_n 2, 1) := by decide +kernel
theorem d17 : decode yB 17 = .ok (.if_icmp (.eq) 40, 3) := by decide +kernel
theorem d57 : decode yB 57 = .ok (.aload_n 3, 1) := by decide +kernel
theorem d58 : decode yB 58 = .ok (.areturn, 1) := by decide +kernel
def site : List Cond := [.arrayClass .byte, Cmp5.tab] ++ staticW U16 115 Cmp5.yN
def tab : Cond := tabOf yN yB 6 (some (.array .byte)) site
def P (b : Addr) (A : Cell) (o len : Nat) (args : Array Value) (s : State) : Prop := args = #[.ref b, .int (Int32.ofNat o), .int (Int32.ofNat len)] ∧ Ch b A s ∧ o + len ≤ A.slots.size ∧ len ≤ 536870912 ∧ ∀ i, i < len → ¬ 255 < cv A (o + i)
def E (b : Addr) (A : Cell) (o len : Nat) (r : Option Value) (s u : State) : Prop := NewArr .byte "[B" len (fun j => .int (lo8 (cv A (o + j)))) r s u ∧ u.heap.size = s.heap.size + 1
/-- no char of the range above 255: a new byte[] of their low bytes -/
theorem law (l : Launch) (b : Addr) (A : Cell) (o len : Nat) : Law l yN 3 3 1 18 yB 6 (some (.array .byte)) site (P b A o len) (E b A o len) [] 1 len := by
  refine Law.of_walk (plainFor_of_name (by decide +kernel)) (by decide +kernel) (by decide +kernel) (by decide) (fun _ _ h => by rw [h.1]; rfl) (fun _ U U' hal hh h => ⟨h.1, h.2.1.mv hal hh, h.2.2⟩) (fun r U U' V V' h1 hal h2 h => ⟨NewArr.mv r U U' V V' h1 hal h2 h.1, by rw [h1, h2]; exact h.2⟩) ?_
  intro p e s m args below meth c s₁ X0 hexec hbytes hml hret hlk hnm hown hh0 W hP
  obtain ⟨rfl, hA, l1, l2, hp⟩ := hP
  have a31 := hA.1.2.2.2
  have c1 : Steps p.tables e below (s₁.setTop (entryFrame m #[.ref b, .int (Int32.ofNat o), .int (Int32.ofNat len)] 6)) (s₁.setTop (mkF m 0 #[.val (.ref b), .val (.int (Int32.ofNat o)), .val (.int (Int32.ofNat len)), .unset, .unset, .unset] [])) := entry rfl
  have c2 : Steps p.tables e below (s₁.setTop (entryFrame m #[.ref b, .int (Int32.ofNat o), .int (Int32.ofNat len)] 6)) (s₁.setTop (mkF m 1 #[.val (.ref b), .val (.int (Int32.ofNat o)), .val (.int (Int32.ofNat len)), .unset, .unset, .unset] [.int (Int32.ofNat len)])) := c1.trans (by
    refine XS.iloadN X0.here hexec rfl (hb hbytes d0) rfl ?_
    exact Steps.refl _)
  obtain ⟨T3, B3, X3, ba3, bs3, bv3, bh3, bf3, st3⟩ := X0.anew hexec (atype := .byte) (wk W (.arrayClass .byte)) rfl (by show len * 1 ≤ _; omega) (by omega) (g := (mkF m 1 #[.val (.ref b), .val (.int (Int32.ofNat o)), .val (.int (Int32.ofNat len)), .unset, .unset, .unset] [.int (Int32.ofNat len)])) rfl (hb hbytes d1) (rest := []) rfl (Nat.le_refl _) (by show 0 + len ≤ len; omega)
  rw [hh0] at ba3 st3
  have kp3 : XT.Kept s T3 := (XT.Kept.of_eq hh0).push bh3
  have hA3 := hA.keep X3.warmed.alike (kp3 _ _ hA.1.1)
  have hne : b ≠ s.heap.size := hA.1.ne
  have c4 : Steps p.tables e below (s₁.setTop (entryFrame m #[.ref b, .int (Int32.ofNat o), .int (Int32.ofNat len)] 6)) (T3.setTop (mkF m 3 #[.val (.ref b), .val (.int (Int32.ofNat o)), .val (.int (Int32.ofNat len)), .unset, .unset, .unset] [.ref s.heap.size])) := c2.trans (st3 _ (Steps.refl _))
  have c5 : Steps p.tables e below (s₁.setTop (entryFrame m #[.ref b, .int (Int32.ofNat o), .int (Int32.ofNat len)] 6)) (T3.setTop (mkF m 9 #[.val (.ref b), .val (.int (Int32.ofNat o)), .val (.int (Int32.ofNat len)), .val (.ref s.heap.size), .unset, .unset] [.int (Int32.ofNat len), .int 0, .ref s.heap.size, .int (Int32.ofNat o), .ref b])) := c4.trans (by
    refine XS.astoreN X3.here hexec rfl (hb hbytes d3) rfl rfl rfl ?_
    refine XS.aloadN X3.here hexec rfl (hb hbytes d4) rfl rfl ?_
    refine XS.iloadN X3.here hexec rfl (hb hbytes d5) rfl ?_
    refine XS.aloadN X3.here hexec rfl (hb hbytes d6) rfl rfl ?_
    refine iconstV X3.here hexec rfl 0 (hb hbytes d7) (by decide) ?_
    refine XS.iloadN X3.here hexec rfl (hb hbytes d8) rfl ?_
    exact Steps.refl _)
  obtain ⟨v6, T6, X6, E6, g6⟩ := X3.callS hexec (Cmp5.law l b A s.heap.size B3 o 0 len) hown (wks W (staticW U16 115 Cmp5.yN)) (wk W Cmp5.tab) (W := 0) (Nat.le_of_ble_eq_true rfl) (Nat.le_of_ble_eq_true rfl) (Nat.le_refl _) (by show 0 + len + 0 ≤ len; omega) (g := (mkF m 9 #[.val (.ref b), .val (.int (Int32.ofNat o)), .val (.int (Int32.ofNat len)), .val (.ref s.heap.size), .unset, .unset] [.int (Int32.ofNat len), .int (Int32.ofNat 0), .ref s.heap.size, .int (Int32.ofNat o), .ref b])) rfl (by rw [hml]; rfl) c5 (argsL := [.ref b, .int (Int32.ofNat o), .ref s.heap.size, .int (Int32.ofNat 0), .int (Int32.ofNat len)]) (rest := []) rfl rfl (by show 2 * 0 + 0 ≤ _; decide) (hb hbytes d9) (⟨rfl, hA3, ba3, hne, l1, by rw [bs3]; simp, hp⟩)
  obtain ⟨rfl, B6, p6, f6⟩ := E6
  have c7 : Steps p.tables e below (s₁.setTop (entryFrame m #[.ref b, .int (Int32.ofNat o), .int (Int32.ofNat len)] 6)) (T6.setTop (mkF m 12 #[.val (.ref b), .val (.int (Int32.ofNat o)), .val (.int (Int32.ofNat len)), .val (.ref s.heap.size), .unset, .unset] [.int (Int32.ofNat len)])) := g6
  have c8 : Steps p.tables e below (s₁.setTop (entryFrame m #[.ref b, .int (Int32.ofNat o), .int (Int32.ofNat len)] 6)) (T6.setTop (mkF m 58 #[.val (.ref b), .val (.int (Int32.ofNat o)), .val (.int (Int32.ofNat len)), .val (.ref s.heap.size), .val (.int (Int32.ofNat len)), .unset] [.ref s.heap.size])) := c7.trans (by
    refine XS.istore X6.here hexec rfl (hb hbytes d12) rfl rfl ?_
    refine XS.iload X6.here hexec rfl (hb hbytes d14) rfl ?_
    refine XS.iloadN X6.here hexec rfl (hb hbytes d16) rfl ?_
    refine XS.icmpYes X6.here hexec rfl (pc0 := 17) rfl (hb hbytes d17) rfl (ii_eq_t rfl) (by decide) rfl ?_
    refine XS.aloadN X6.here hexec rfl (hb hbytes d57) rfl rfl ?_
    exact Steps.refl _)
  have X8 := X6.wide (L' := []) (cells' := 1) (slots' := len) (fun x hx hlt => by
    simp only [List.nil_append, copyLocs, List.mem_map, List.mem_range] at hx
    obtain ⟨i, -, rfl⟩ := hx
    exact absurd hlt (Nat.lt_irrefl _)) (Nat.le_refl _) (by omega)
  exact ⟨T6, some (.ref s.heap.size), _, _, _, X8, rfl, rfl, rfl, (fun h => by cases h), ⟨⟨rfl, B6, ba3.like (X3.warmed.alike.symm.trans X6.warmed.alike) p6.1 f6.1 f6.2.1 f6.2.2.1, f6.2.1.trans bv3, by rw [X6.warmed.alike.findClass, f6.1]; exact bf3, by rw [f6.2.2.1, bs3]; simp, fun j hj => by rw [f6.2.2.2 j, if_pos (by omega)]; rfl, kp3.put p6 (Nat.le_refl _)⟩, by rw [p6.2.2, bh3, hh0]; simp⟩, fun fs hl => c8.trans (X8.areturnOut hexec rfl hret rfl (hb hbytes d58) hl)⟩
end Cmp3
namespace CodL
def yN : MethodName := ⟨"java/lang/StringUTF16", "coderFromArrayLen", "([BI)B"⟩
abbrev yB : ByteArray := jdk_52_method_15_code
theorem d0 : decode yB 0 = .ok (.iload_n 1, 1) := by decide +kernel
theorem d1 : decode yB 1 = .ok (.aload_n 0, 1) := by decide +kernel
theorem d2 : decode yB 2 = .ok (.arraylength, 1) := by decide +kernel
theorem d3 : decode yB 3 = .ok (.isub, 1) := by decide +kernel
theorem d4 : decode yB 4 = .ok (.bipush 31, 2) := by decide +kernel
theorem d6 : decode yB 6 = .ok (.iushr, 1) := by decide +kernel
theorem d7 : decode yB 7 = .ok (.i2b, 1) := by decide +kernel
theorem d8 : decode yB 8 = .ok (.ireturn, 1) := by decide +kernel
def site : List Cond := []
def tab : Cond := tabOf yN yB 2 (some .byte) site
def P (d : Addr) (B : Cell) (args : Array Value) (s : State) : Prop := args = #[.ref d, .int (Int32.ofNat B.slots.size)] ∧ Arr .byte d B s
def E (r : Option Value) (s u : State) : Prop := XT.PureE (some (.int 0)) r s u
/-- an array as long as the number of chars: LATIN1 -/
theorem law (l : Launch) (d : Addr) (B : Cell) : Law l yN 2 2 0 0 yB 2 (some .byte) site (P d B) E [] 0 0 := by
  refine Law.of_walk (plainFor_of_name (by decide +kernel)) (by decide +kernel) (by decide +kernel) (by decide) (fun _ _ h => by rw [h.1]; rfl) (fun _ U U' hal hh h => ⟨h.1, h.2.mv hal hh⟩) (fun r U U' V V' h1 hal h2 h => XT.PureE.mv r U U' V V' h1 hal h2 h) ?_
  intro p e s m args below meth c s₁ X0 hexec hbytes hml hret hlk hnm hown hh0 W hP
  obtain ⟨rfl, hB⟩ := hP
  have hB0 := hB.mv X0.warmed.alike hh0
  have c1 : Steps p.tables e below (s₁.setTop (entryFrame m #[.ref d, .int (Int32.ofNat B.slots.size)] 2)) (s₁.setTop (mkF m 0 #[.val (.ref d), .val (.int (Int32.ofNat B.slots.size))] [])) := entry rfl
  have c2 : Steps p.tables e below (s₁.setTop (entryFrame m #[.ref d, .int (Int32.ofNat B.slots.size)] 2)) (s₁.setTop (mkF m 2 #[.val (.ref d), .val (.int (Int32.ofNat B.slots.size))] [.ref d, .int (Int32.ofNat B.slots.size)])) := c1.trans (by
    refine XS.iloadN X0.here hexec rfl (hb hbytes d0) rfl ?_
    refine XS.aloadN X0.here hexec rfl (hb hbytes d1) rfl rfl ?_
    exact Steps.refl _)
  have c3 : Steps p.tables e below (s₁.setTop (entryFrame m #[.ref d, .int (Int32.ofNat B.slots.size)] 2)) (s₁.setTop (mkF m 8 #[.val (.ref d), .val (.int (Int32.ofNat B.slots.size))] [.int (lo8 (ushr (Int32.ofNat B.slots.size - Int32.ofNat B.slots.size) 31))])) := c2.trans (by
    refine X0.alen hexec hB0 rfl rfl (hb hbytes d2) ?_
    refine XS.isub X0.here hexec rfl (hb hbytes d3) rfl ?_
    refine bipushV X0.here hexec rfl 31 (hb hbytes d4) (by decide) ?_
    refine iushr X0.here hexec rfl (hb hbytes d6) rfl ?_
    refine i2b X0.here hexec rfl (hb hbytes d7) rfl ?_
    exact Steps.refl _)
  have e0 : lo8 (ushr (Int32.ofNat B.slots.size - Int32.ofNat B.slots.size) 31) = 0 := by rw [Int32.sub_self]; decide
  rw [e0] at c3
  exact ⟨s₁, some (.int 0), _, _, _, X0, rfl, rfl, rfl, (fun h => by cases h), ⟨rfl, hh0⟩, fun fs hl => c3.trans (X0.ireturnOut hexec hret rfl (Or.inr (Or.inr (Or.inl rfl))) (hb hbytes d8) hl)⟩
end CodL
/-- the String at a is Latin-1 over a new byte[] (the heap's one new cell): the low bytes of the len chars of A from o on; every cell but a is kept -/
def Got (a : Addr) (D : Cell) (fV fC : Field) (A : Cell) (o len : Nat) (r : Option Value) (s u : State) : Prop := r = none ∧ ∃ D' V : Cell, Blank "java/lang/String" a D' u ∧ Same D D' [fV.slot, fC.slot] ∧ D'.slots[fV.slot]? = some (.ref s.heap.size) ∧ D'.slots[fC.slot]? = some (.int 0) ∧ Arr .byte s.heap.size V u ∧ V.vm = .none ∧ u.vm.findClass "[B" = some V.cls ∧ V.slots.size = len ∧ (∀ j, j < len → V.slots[j]? = some (.int (lo8 (cv A (o + j))))) ∧ (∀ (y : Addr) (c : Cell), y ≠ a → s.heap[y]? = some c → u.heap[y]? = some c) ∧ u.heap.size = s.heap.size + 1
theorem Got.mv {a : Addr} {D A : Cell} {fV fC : Field} {o len : Nat} : ∀ r (U U' V V' : State), U'.heap = U.heap → V.vm.Alike V'.vm → V'.heap = V.heap → Got a D fV fC A o len r U V → Got a D fV fC A o len r U' V' :=
  fun r U U' V V' h1 hal h2 ⟨e0, D', X, a1, a2, a3, a4, a5, a6, a7, a8, a9, a10, a11⟩ => ⟨e0, D', X, a1.mv hal h2, a2, by rw [h1]; exact a3, a4, by rw [h1]; exact a5.mv hal h2, a6, by rw [hal.findClass]; exact a7, a8, a9, by rw [h1, h2]; exact a10, by rw [h1, h2]; exact a11⟩
namespace New4
def yN : MethodName := ⟨"java/lang/String", "<init>", "([CIILjava/lang/Void;)V"⟩
abbrev yB : ByteArray := jdk_42_method_149_code
theorem d0 : decode yB 0 = .ok (.aload_n 0, 1) := by decide +kernel
theorem d1 : decode yB 1 = .ok (.invokespecial 1, 3) := by decide +kernel
theorem d4 : decode yB 4 = .ok (.iload_n 3, 1) := by decide +kernel
theorem d5 : decode yB 5 = .ok (.ifCond (.ne) 22, 3) := by decide +kernel
theorem d27 : decode yB 27 = .ok (.getstatic 38, 3) := by decide +kernel
theorem d30 : decode yB 30 = .ok (.ifCond (.eq) 28, 3) := by decide +kernel
theorem d33 : decode yB 33 = .ok (.aload_n 1, 1) := by decide +kernel
theorem d34 : decode yB 34 = .ok (.iload_n 2, 1) := by decide +kernel
theorem d35 : decode yB 35 = .ok (.iload_n 3, 1) := by decide +kernel
theorem d36 : decode yB 36 = .ok (.invokestatic 177, 3) := by decide +kernel
theorem d39 : decode yB 39 = .ok (.astore 5, 2) := by decide +kernel
theorem d41 : decode yB 41 = .ok (.aload_n 0, 1) := by decide +kernel
theorem d42 : decode yB 42 = .ok (.aload 5, 2) := by decide +kernel
theorem d44 : decode yB 44 = .ok (.iload_n 3, 1) := by decide +kernel
theorem d45 : decode yB 45 = .ok (.invokestatic 47, 3) := by decide +kernel
theorem d48 : decode yB 48 = .ok (.putfield 15, 3) := by decide +kernel
theorem d51 : decode yB 51 = .ok (.aload_n 0, 1) := by decide +kernel
theorem d52 : decode yB 52 = .ok (.aload 5, 2) := by decide +kernel
theorem d54 : decode yB 54 = .ok (.putfield 9, 3) := by decide +kernel
theorem d57 : decode yB 57 = .ok (.return_, 1) := by decide +kernel
def site : List Cond := [.fieldLink "java/lang/String" 38 "java/lang/String" "COMPACT_STRINGS" "Z", Cmp3.tab, CodL.tab, .laysFinal "java/lang/String" "java/lang/String" "value" "[B", .fieldLink "java/lang/String" 9 "java/lang/String" "value" "[B", .laysFinal "java/lang/String" "java/lang/String" "coder" "B", .fieldLink "java/lang/String" 15 "java/lang/String" "coder" "B"] ++ objW "java/lang/String" 1 ++ staticW "java/lang/String" 177 Cmp3.yN ++ staticW "java/lang/String" 47 CodL.yN
def tab : Cond := tabOf yN yB 6 none site
def P (a : Addr) (D : Cell) (fV fC : Field) (b : Addr) (A : Cell) (z : Int32) (o len : Nat) (args : Array Value) (s : State) : Prop := args = #[.ref a, .ref b, .int (Int32.ofNat o), .int (Int32.ofNat len), .null] ∧ Blank "java/lang/String" a D s ∧ Found "java/lang/String" "value" "[B" fV s ∧ Found "java/lang/String" "coder" "B" fC s ∧ Ch b A s ∧ StaticIs s "java/lang/String" "COMPACT_STRINGS" "Z" (.int z) ∧ ¬ z = 0 ∧ 0 < len ∧ o + len ≤ A.slots.size ∧ len ≤ 536870912 ∧ ∀ i, i < len → ¬ 255 < cv A (o + i)
def E (a : Addr) (D : Cell) (fV fC : Field) (A : Cell) (o len : Nat) (r : Option Value) (s u : State) : Prop := Got a D fV fC A o len r s u
/-- len > 0, no char of the range above 255: a Latin-1 String of their low bytes -/
theorem law (l : Launch) (a : Addr) (D : Cell) (fV fC : Field) (b : Addr) (A : Cell) (z : Int32) (o len : Nat) : Law l yN 5 4 2 35 yB 6 none site (P a D fV fC b A z o len) (E a D fV fC A o len) [⟨a, fC.slot⟩, ⟨a, fV.slot⟩] 1 len := by
  refine Law.of_walk (plainFor_of_name (by decide +kernel)) (by decide +kernel) (by decide +kernel) (by decide) (fun _ _ h => by rw [h.1]; rfl) (fun _ U U' hal hh h => ⟨h.1, h.2.1.mv hal hh, h.2.2.1.al hal, h.2.2.2.1.al hal, h.2.2.2.2.1.mv hal hh, h.2.2.2.2.2.1.there hal hh, h.2.2.2.2.2.2⟩) (fun r U U' V V' h1 hal h2 h => Got.mv r U U' V V' h1 hal h2 h) ?_
  intro p e s m args below meth c s₁ X0 hexec hbytes hml hret hlk hnm hown hh0 W hP
  obtain ⟨rfl, hB, f1, f2, hA, s1, hz, l0, l1, l2, hp⟩ := hP
  have a31 := hA.1.2.2.2
  have c1 : Steps p.tables e below (s₁.setTop (entryFrame m #[.ref a, .ref b, .int (Int32.ofNat o), .int (Int32.ofNat len), .null] 6)) (s₁.setTop (mkF m 0 #[.val (.ref a), .val (.ref b), .val (.int (Int32.ofNat o)), .val (.int (Int32.ofNat len)), .val .null, .unset] [])) := entry rfl
  have c2 : Steps p.tables e below (s₁.setTop (entryFrame m #[.ref a, .ref b, .int (Int32.ofNat o), .int (Int32.ofNat len), .null] 6)) (s₁.setTop (mkF m 1 #[.val (.ref a), .val (.ref b), .val (.int (Int32.ofNat o)), .val (.int (Int32.ofNat len)), .val .null, .unset] [.ref a])) := c1.trans (by
    refine XS.aloadN X0.here hexec rfl (hb hbytes d0) rfl rfl ?_
    exact Steps.refl _)
  obtain ⟨T3, X3, q3, st3⟩ := X0.oinit hexec hown (wks W (objW "java/lang/String" 1)) (g := (mkF m 1 #[.val (.ref a), .val (.ref b), .val (.int (Int32.ofNat o)), .val (.int (Int32.ofNat len)), .val .null, .unset] [.ref a])) rfl (by rw [hml]; rfl) (rest := []) rfl (hb hbytes d1) (W := 0) (by show 2 * 0 + 0 ≤ _; decide) (Nat.le_of_ble_eq_true rfl) (Nat.le_of_ble_eq_true rfl)
  have hh3 := q3.trans hh0
  have c4 : Steps p.tables e below (s₁.setTop (entryFrame m #[.ref a, .ref b, .int (Int32.ofNat o), .int (Int32.ofNat len), .null] 6)) (T3.setTop (mkF m 27 #[.val (.ref a), .val (.ref b), .val (.int (Int32.ofNat o)), .val (.int (Int32.ofNat len)), .val .null, .unset] [])) := (c2.trans (st3 _ (Steps.refl _))).trans (by
    refine XS.iloadN X3.here hexec rfl (hb hbytes d4) rfl ?_
    refine XS.ifYes X3.here hexec rfl (pc0 := 5) rfl (hb hbytes d5) rfl (i0_ne_t (nz32 (by omega) l0)) (by decide) rfl ?_
    exact Steps.refl _)
  obtain ⟨T5, X5, q5, st5⟩ := X3.sget hexec hown (wk W (.fieldLink "java/lang/String" 38 "java/lang/String" "COMPACT_STRINGS" "Z")) s1 (fun _ _ h => by rw [hh3]; exact h) (g := (mkF m 27 #[.val (.ref a), .val (.ref b), .val (.int (Int32.ofNat o)), .val (.int (Int32.ofNat len)), .val .null, .unset] [])) rfl (hb hbytes d27)
  have hh5 := q5.trans hh3
  have c6 : Steps p.tables e below (s₁.setTop (entryFrame m #[.ref a, .ref b, .int (Int32.ofNat o), .int (Int32.ofNat len), .null] 6)) (T5.setTop (mkF m 30 #[.val (.ref a), .val (.ref b), .val (.int (Int32.ofNat o)), .val (.int (Int32.ofNat len)), .val .null, .unset] [.int z])) := c4.trans (st5 _ (Steps.refl _))
  have c7 : Steps p.tables e below (s₁.setTop (entryFrame m #[.ref a, .ref b, .int (Int32.ofNat o), .int (Int32.ofNat len), .null] 6)) (T5.setTop (mkF m 36 #[.val (.ref a), .val (.ref b), .val (.int (Int32.ofNat o)), .val (.int (Int32.ofNat len)), .val .null, .unset] [.int (Int32.ofNat len), .int (Int32.ofNat o), .ref b])) := c6.trans (by
    refine XS.ifNo X5.here hexec rfl (hb hbytes d30) rfl (i0_eq_f hz) ?_
    refine XS.aloadN X5.here hexec rfl (hb hbytes d33) rfl rfl ?_
    refine XS.iloadN X5.here hexec rfl (hb hbytes d34) rfl ?_
    refine XS.iloadN X5.here hexec rfl (hb hbytes d35) rfl ?_
    exact Steps.refl _)
  obtain ⟨v8, T8, X8, E8, g8⟩ := X5.callS hexec (Cmp3.law l b A o len) hown (wks W (staticW "java/lang/String" 177 Cmp3.yN)) (wk W Cmp3.tab) (W := 0) (Nat.le_of_ble_eq_true rfl) (Nat.le_of_ble_eq_true rfl) (Nat.le_refl _) (by show 0 + len ≤ len; omega) (g := (mkF m 36 #[.val (.ref a), .val (.ref b), .val (.int (Int32.ofNat o)), .val (.int (Int32.ofNat len)), .val .null, .unset] [.int (Int32.ofNat len), .int (Int32.ofNat o), .ref b])) rfl (by rw [hml]; rfl) c7 (argsL := [.ref b, .int (Int32.ofNat o), .int (Int32.ofNat len)]) (rest := []) rfl rfl (by show 2 * 0 + 0 ≤ _; decide) (hb hbytes d36) (⟨rfl, hA.mv X5.warmed.alike hh5, l1, l2, hp⟩)
  obtain ⟨e8, z8⟩ := E8
  obtain ⟨rfl, N, n1, n2, n3, n4, n5, n6⟩ := NewArr.mv _ T5 s _ _ hh5.symm (Vm.Alike.refl _) rfl e8
  rw [hh5] at z8
  have hB1 := hB.keep X8.warmed.alike (n6 _ _ hB.1)
  have hne : s.heap.size ≠ a := (Nat.ne_of_lt (Array.getElem?_eq_some_iff.mp hB.1).1).symm
  have c9 : Steps p.tables e below (s₁.setTop (entryFrame m #[.ref a, .ref b, .int (Int32.ofNat o), .int (Int32.ofNat len), .null] 6)) (T8.setTop (mkF m 39 #[.val (.ref a), .val (.ref b), .val (.int (Int32.ofNat o)), .val (.int (Int32.ofNat len)), .val .null, .unset] [.ref s.heap.size])) := g8
  have c10 : Steps p.tables e below (s₁.setTop (entryFrame m #[.ref a, .ref b, .int (Int32.ofNat o), .int (Int32.ofNat len), .null] 6)) (T8.setTop (mkF m 45 #[.val (.ref a), .val (.ref b), .val (.int (Int32.ofNat o)), .val (.int (Int32.ofNat len)), .val .null, .val (.ref s.heap.size)] [.int (Int32.ofNat N.slots.size), .ref s.heap.size, .ref a])) := by
    have hc : Steps p.tables e below (s₁.setTop (entryFrame m #[.ref a, .ref b, .int (Int32.ofNat o), .int (Int32.ofNat len), .null] 6)) (T8.setTop (mkF m 45 #[.val (.ref a), .val (.ref b), .val (.int (Int32.ofNat o)), .val (.int (Int32.ofNat len)), .val .null, .val (.ref s.heap.size)] [.int (Int32.ofNat len), .ref s.heap.size, .ref a])) := c9.trans (by
      refine XS.astore X8.here hexec rfl (hb hbytes d39) rfl rfl rfl ?_
      refine XS.aloadN X8.here hexec rfl (hb hbytes d41) rfl rfl ?_
      refine XS.aload X8.here hexec rfl (hb hbytes d42) rfl rfl ?_
      refine XS.iloadN X8.here hexec rfl (hb hbytes d44) rfl ?_
      exact Steps.refl _)
    rw [n4]; exact hc
  obtain ⟨v11, T11, X11, E11, g11⟩ := X8.callS hexec (CodL.law l s.heap.size N) hown (wks W (staticW "java/lang/String" 47 CodL.yN)) (wk W CodL.tab) (W := 1) (Nat.le_of_ble_eq_true rfl) (Nat.le_of_ble_eq_true rfl) (Nat.le_refl _) (by show 0 + len + 0 ≤ len; omega) (g := (mkF m 45 #[.val (.ref a), .val (.ref b), .val (.int (Int32.ofNat o)), .val (.int (Int32.ofNat len)), .val .null, .val (.ref s.heap.size)] [.int (Int32.ofNat N.slots.size), .ref s.heap.size, .ref a])) rfl (by rw [hml]; rfl) c10 (argsL := [.ref s.heap.size, .int (Int32.ofNat N.slots.size)]) (rest := [.ref a]) rfl rfl (by show 2 * 0 + (1 + 0) ≤ _; decide) (hb hbytes d45) (⟨rfl, n1⟩)
  obtain ⟨rfl, q11⟩ := E11
  have hB11 := hB1.mv (X8.warmed.alike.symm.trans X11.warmed.alike) q11
  have c12 : Steps p.tables e below (s₁.setTop (entryFrame m #[.ref a, .ref b, .int (Int32.ofNat o), .int (Int32.ofNat len), .null] 6)) (T11.setTop (mkF m 48 #[.val (.ref a), .val (.ref b), .val (.int (Int32.ofNat o)), .val (.int (Int32.ofNat len)), .val .null, .val (.ref s.heap.size)] [.int 0, .ref a])) := g11
  obtain ⟨T13, X13, p13, bl13, sl13, st13⟩ := X11.finit hexec hown (wk W (.fieldLink "java/lang/String" 15 "java/lang/String" "coder" "B")) (Or.inr ⟨_, (wk W (.laysFinal "java/lang/String" "java/lang/String" "coder" "B"))⟩) (Or.inl ⟨rfl, hnm⟩) f2 (Or.inl rfl) hB11 (t := .byte) (by decide +kernel) rfl (g := (mkF m 48 #[.val (.ref a), .val (.ref b), .val (.int (Int32.ofNat o)), .val (.int (Int32.ofNat len)), .val .null, .val (.ref s.heap.size)] [.int 0, .ref a])) rfl (rest := []) rfl (hb hbytes d48)
  have c14 : Steps p.tables e below (s₁.setTop (entryFrame m #[.ref a, .ref b, .int (Int32.ofNat o), .int (Int32.ofNat len), .null] 6)) (T13.setTop (mkF m 54 #[.val (.ref a), .val (.ref b), .val (.int (Int32.ofNat o)), .val (.int (Int32.ofNat len)), .val .null, .val (.ref s.heap.size)] [.ref s.heap.size, .ref a])) := (c12.trans (st13 _ (Steps.refl _))).trans (by
    refine XS.aloadN X13.here hexec rfl (hb hbytes d51) rfl rfl ?_
    refine XS.aload X13.here hexec rfl (hb hbytes d52) rfl rfl ?_
    exact Steps.refl _)
  obtain ⟨T15, X15, p15, bl15, sl15, st15⟩ := X13.finit hexec hown (wk W (.fieldLink "java/lang/String" 9 "java/lang/String" "value" "[B")) (Or.inr ⟨_, (wk W (.laysFinal "java/lang/String" "java/lang/String" "value" "[B"))⟩) (Or.inl ⟨rfl, hnm⟩) f1 (Or.inl rfl) bl13 (t := (.array .byte)) (by decide +kernel) rfl (g := (mkF m 54 #[.val (.ref a), .val (.ref b), .val (.int (Int32.ofNat o)), .val (.int (Int32.ofNat len)), .val .null, .val (.ref s.heap.size)] [.ref s.heap.size, .ref a])) rfl (rest := []) rfl (hb hbytes d54)
  have c16 : Steps p.tables e below (s₁.setTop (entryFrame m #[.ref a, .ref b, .int (Int32.ofNat o), .int (Int32.ofNat len), .null] 6)) (T15.setTop (mkF m 57 #[.val (.ref a), .val (.ref b), .val (.int (Int32.ofNat o)), .val (.int (Int32.ofNat len)), .val .null, .val (.ref s.heap.size)] [])) := c14.trans (st15 _ (Steps.refl _))
  have ap := apart (Or.inr ⟨_, (wk W (.laysFinal "java/lang/String" "java/lang/String" "value" "[B"))⟩) (Or.inr ⟨_, (wk W (.laysFinal "java/lang/String" "java/lang/String" "coder" "B"))⟩) f1 f2 (t₁ := .array .byte) (t₂ := .byte) (by decide +kernel) (by decide +kernel) (by decide)
  have al := X8.warmed.alike.symm.trans X15.warmed.alike
  have n7 : T11.heap[s.heap.size]? = some N := by rw [q11]; exact n1.1
  exact ⟨T15, none, _, _, _, X15, by simp, rfl, by omega, (fun _ => rfl), ⟨rfl, _, N, bl15, ((Same.refl D _).set _ (by simp)).set _ (by simp), sl15, (Cell.slots_setSlot_ne _ ap).trans sl13, n1.keep al (p15.other hne (p13.other hne n7)), n2, by rw [al.findClass]; exact n3, n4, n5, fun y c h1 h2 => p15.other h1 (p13.other h1 (by rw [q11]; exact n6 y c h2)), by rw [p15.2.2, p13.2.2, q11]; exact z8⟩, fun fs hl => c16.trans (X15.returnOut hexec hret (hb hbytes d57) hl)⟩
end New4
namespace New1
def yN : MethodName := ⟨"java/lang/String", "<init>", "([C)V"⟩
abbrev yB : ByteArray := jdk_42_method_3_code
theorem d0 : decode yB 0 = .ok (.aload_n 0, 1) := by decide +kernel
theorem d1 : decode yB 1 = .ok (.aload_n 1, 1) := by decide +kernel
theorem d2 : decode yB 2 = .ok (.iconst 0, 1) := by decide +kernel
theorem d3 : decode yB 3 = .ok (.aload_n 1, 1) := by decide +kernel
theorem d4 : decode yB 4 = .ok (.arraylength, 1) := by decide +kernel
theorem d5 : decode yB 5 = .ok (.aconst_null, 1) := by decide +kernel
theorem d6 : decode yB 6 = .ok (.invokespecial 27, 3) := by decide +kernel
theorem d9 : decode yB 9 = .ok (.return_, 1) := by decide +kernel
def site : List Cond := [New4.tab] ++ initW "java/lang/String" 27 New4.yN
def tab : Cond := tabOf yN yB 2 none site
def P (a : Addr) (D : Cell) (fV fC : Field) (b : Addr) (A : Cell) (z : Int32) (args : Array Value) (s : State) : Prop := args = #[.ref a, .ref b] ∧ Blank "java/lang/String" a D s ∧ Found "java/lang/String" "value" "[B" fV s ∧ Found "java/lang/String" "coder" "B" fC s ∧ Ch b A s ∧ StaticIs s "java/lang/String" "COMPACT_STRINGS" "Z" (.int z) ∧ ¬ z = 0 ∧ 0 < A.slots.size ∧ A.slots.size ≤ 536870912 ∧ ∀ i, i < A.slots.size → ¬ 255 < cv A i
def E (a : Addr) (D : Cell) (fV fC : Field) (A : Cell) (r : Option Value) (s u : State) : Prop := Got a D fV fC A 0 A.slots.size r s u
/-- new String(chars), not empty, no char above 255: a Latin-1 String of their low bytes -/
theorem law (l : Launch) (a : Addr) (D : Cell) (fV fC : Field) (b : Addr) (A : Cell) (z : Int32) : Law l yN 2 1 3 52 yB 2 none site (P a D fV fC b A z) (E a D fV fC A) [⟨a, fC.slot⟩, ⟨a, fV.slot⟩] 1 A.slots.size := by
  refine Law.of_walk (plainFor_of_name (by decide +kernel)) (by decide +kernel) (by decide +kernel) (by decide) (fun _ _ h => by rw [h.1]; rfl) (fun _ U U' hal hh h => ⟨h.1, h.2.1.mv hal hh, h.2.2.1.al hal, h.2.2.2.1.al hal, h.2.2.2.2.1.mv hal hh, h.2.2.2.2.2.1.there hal hh, h.2.2.2.2.2.2⟩) (fun r U U' V V' h1 hal h2 h => Got.mv r U U' V V' h1 hal h2 h) ?_
  intro p e s m args below meth c s₁ X0 hexec hbytes hml hret hlk hnm hown hh0 W hP
  obtain ⟨rfl, hB, f1, f2, hA, s1, hz, l0, l2, hp⟩ := hP
  have c1 : Steps p.tables e below (s₁.setTop (entryFrame m #[.ref a, .ref b] 2)) (s₁.setTop (mkF m 0 #[.val (.ref a), .val (.ref b)] [])) := entry rfl
  have c2 : Steps p.tables e below (s₁.setTop (entryFrame m #[.ref a, .ref b] 2)) (s₁.setTop (mkF m 6 #[.val (.ref a), .val (.ref b)] [.null, .int (Int32.ofNat A.slots.size), .int 0, .ref b, .ref a])) := c1.trans (by
    refine XS.aloadN X0.here hexec rfl (hb hbytes d0) rfl rfl ?_
    refine XS.aloadN X0.here hexec rfl (hb hbytes d1) rfl rfl ?_
    refine iconstV X0.here hexec rfl 0 (hb hbytes d2) (by decide) ?_
    refine XS.aloadN X0.here hexec rfl (hb hbytes d3) rfl rfl ?_
    refine X0.alen hexec (hA.1.mv X0.warmed.alike hh0) rfl rfl (hb hbytes d4) ?_
    refine XS.aconstNull X0.here hexec rfl (hb hbytes d5) ?_
    exact Steps.refl _)
  obtain ⟨v3, T3, X3, E3, g3⟩ := X0.callN hexec (New4.law l a D fV fC b A z 0 A.slots.size) rfl hown (wks W (initW "java/lang/String" 27 New4.yN)) (W New4.tab (by simp only [site, List.mem_cons, List.mem_append, true_or, or_true])) (W := 0) (Nat.le_of_ble_eq_true rfl) (Nat.le_of_ble_eq_true rfl) (Nat.le_refl _) (by show 0 + A.slots.size ≤ A.slots.size; omega) (g := (mkF m 6 #[.val (.ref a), .val (.ref b)] [.null, .int (Int32.ofNat A.slots.size), .int (Int32.ofNat 0), .ref b, .ref a])) rfl (by rw [hml]; rfl) c2 (argsL := [.ref b, .int (Int32.ofNat 0), .int (Int32.ofNat A.slots.size), .null]) (rest := []) rfl rfl (by show 2 * 0 + 0 ≤ _; decide) (hb hbytes d6) (⟨rfl, hB.mv X0.warmed.alike hh0, f1.al X0.warmed.alike, f2.al X0.warmed.alike, hA.mv X0.warmed.alike hh0, s1.there X0.warmed.alike hh0, hz, l0, by omega, l2, fun i hi => by rw [Nat.zero_add]; exact hp i hi⟩)
  have e0 := Got.mv _ s₁ s _ _ hh0.symm (Vm.Alike.refl _) rfl E3
  obtain rfl := e0.1
  have c4 : Steps p.tables e below (s₁.setTop (entryFrame m #[.ref a, .ref b] 2)) (T3.setTop (mkF m 9 #[.val (.ref a), .val (.ref b)] [])) := g3
  exact ⟨T3, none, _, _, _, X3, by simp, rfl, by omega, (fun _ => rfl), e0, fun fs hl => c4.trans (X3.returnOut hexec hret (hb hbytes d9) hl)⟩
theorem pays {l : Launch} {R : Room} {p : Program} {e : Env} {below : List Frame} {s : State} {sargs : Array Value} {len W : Nat} (a : Addr) (D : Cell) (fV fC : Field) (b : Addr) (A : Cell) (z : Int32) (htab : tab.before sargs s = true) (hfr : 4 ≤ R.frames) (hlo : W + 65 ≤ R.locals) :
    Back l R p e below s sargs yN len W (fun A₁ a₁ => A₁.cells + 1 ≤ R.cells ∧ A₁.slots + A.slots.size ≤ R.slots ∧ P a D fV fC b A z a₁ A₁.U) (fun A₁ _ v₁ B₁ => E a D fV fC A v₁ A₁.U B₁.U ∧ B₁.locs = A₁.locs ++ [⟨a, fC.slot⟩, ⟨a, fV.slot⟩] ∧ B₁.cells = A₁.cells + 1 ∧ B₁.slots = A₁.slots + A.slots.size) :=
  (law l a D fV fC b A z).pays htab hfr (by omega)
end New1
end StrChars
namespace StrChars.Road
open Jvm Sem ClassFile Op Lib Jvm.Stand Jvm.Free Jvm.Free.XT
open Jvm.Lib.Cold (StaticIs)
abbrev ST : String := "java/lang/String"
/-- every table word that New1's law asks, flat -/
abbrev words : List Jvm.Cond := [.code New1.yN New1.yB 2 none, .initialized ST, .methodLink ST 27 New4.yN, .instanceMethod New4.yN,
  .code New4.yN New4.yB 6 none, .fieldLink ST 38 ST "COMPACT_STRINGS" "Z", .laysFinal ST ST "value" "[B", .fieldLink ST 9 ST "value" "[B", .laysFinal ST ST "coder" "B", .fieldLink ST 15 ST "coder" "B",
  .methodLink ST 1 Lib.objectInit, .instanceMethod Lib.objectInit, .code Lib.objectInit ⟨#[0xb1]⟩ 1 none, .methodLink ST 177 Cmp3.yN, .static Cmp3.yN, .methodLink ST 47 CodL.yN, .static CodL.yN,
  .code Cmp3.yN Cmp3.yB 6 (some (.array .byte)), .initialized U16, .arrayClass .byte, .methodLink U16 115 Cmp5.yN, .static Cmp5.yN, .code Cmp5.yN Cmp5.yB 7 (some .int), .code CodL.yN CodL.yB 2 (some .byte)]
theorem tab_of {a : Array Value} {s : State} (h : ∀ w ∈ words, w.before a s = true) : New1.tab.before a s = true := by
  have h5 : Cmp5.tab.before a s = true := unparts (wk h (.code Cmp5.yN Cmp5.yB 7 (some .int))) (wks h (.initialized Cmp5.yN.cls :: Cmp5.site))
  have hc : CodL.tab.before a s = true := unparts (wk h (.code CodL.yN CodL.yB 2 (some .byte))) (wks h (.initialized CodL.yN.cls :: CodL.site))
  have q5 : ∀ w ∈ Cmp5.tab :: words, w.before a s = true := fun w hw => (List.mem_cons.mp hw).elim (fun e => e ▸ h5) (h w)
  have h3 : Cmp3.tab.before a s = true := unparts (wk q5 (.code Cmp3.yN Cmp3.yB 6 (some (.array .byte)))) (wks q5 (.initialized Cmp3.yN.cls :: Cmp3.site))
  have q3 : ∀ w ∈ Cmp3.tab :: CodL.tab :: words, w.before a s = true := fun w hw => (List.mem_cons.mp hw).elim (fun e => e ▸ h3) fun hw => (List.mem_cons.mp hw).elim (fun e => e ▸ hc) (h w)
  have h4 : New4.tab.before a s = true := unparts (wk q3 (.code New4.yN New4.yB 6 none)) (wks q3 (.initialized New4.yN.cls :: New4.site))
  have q4 : ∀ w ∈ New4.tab :: words, w.before a s = true := fun w hw => (List.mem_cons.mp hw).elim (fun e => e ▸ h4) (h w)
  exact unparts (wk q4 (.code New1.yN New1.yB 2 none)) (wks q4 (.initialized New1.yN.cls :: New1.site))
/-- the words ride from the start Z to the walk's own state -/
theorem moved {Z s : State} {a0 args : Array Value} (hZ : Z.Warmed39 s.vm) (hw : ∀ d ∈ words, d.before a0 Z = true) : ∀ d ∈ words, d.before args s = true := fun d hd => by
  have q := hw d hd
  have t : ∀ d ∈ words, d = .arrayClass .byte ∨ (d.onTables && d.keepsFace) = true := by decide +kernel
  rcases t d hd with rfl | t
  · exact RoadKit.mvA hZ q
  · exact RoadKit.mv hZ q t
/-- WHAT COMES BACK, over the tables of the start Z: h the heap at the call, h' behind it -/
def Q (Z : State) (x : Addr) (A : Cell) (h : Heap) (v : Option Value) (h' : Heap) (L : List Loc) : Prop := v = none ∧ (∀ y ∈ L, y.base = x) ∧ RoadKit.Keep h h' [x] ∧ h'.size = h.size + 1 ∧ RoadKit.Exa Z h' x ST ∧ RoadKit.Fld Z h' x ST "value" "[B" (.ref h.size) ∧ RoadKit.Fld Z h' x ST "coder" "B" (.int 0) ∧
  (∃ V : Cell, RoadKit.Arr Z h' h.size V .byte ∧ V.vm = .none ∧ Z.vm.findClass "[B" = some V.cls ∧ V.slots.size = A.slots.size ∧ ∀ j, j < A.slots.size → V.slots[j]? = some (.int (lo8 (cv A j)))) ∧
  ∀ (O n d : String) (w : Value), RoadKit.Fld Z h x O n d w → RoadKit.slotOf Z O n d ≠ RoadKit.slotOf Z ST "value" "[B" → RoadKit.slotOf Z O n d ≠ RoadKit.slotOf Z ST "coder" "B" → RoadKit.Fld Z h' x O n d w
/-- **new String(chars) AT A CALL, IN THE ROAD'S FORM**: for specialBack behind newO: x the fresh String, b the char[] with the cell A -/
theorem back {p : Program} {l : Launch} {e : Env} {R : Room} {s : State} {args : Array Value} {below : List Frame} {len W : Nat} {Z : State} {a0 : Array Value} {h : Heap} (hZ : Z.Warmed39 s.vm) (hw : ∀ d ∈ words, d.before a0 Z = true) {kI : Nat} (wi : (Jvm.Cond.instantiable ST kI).before a0 Z = true)
    {x b : Addr} {A : Cell} {z : Int32} {v0 c0 : Value} (E : RoadKit.Exa Z h x ST) (V : RoadKit.Fld Z h x ST "value" "[B" v0) (C : RoadKit.Fld Z h x ST "coder" "B" c0) (K : RoadKit.Arr Z h b A .char) (hty : Typed .char A) (S : RoadKit.Sta Z h ST "COMPACT_STRINGS" "Z" (.int z)) (hz : ¬ z = 0)
    (l0 : 0 < A.slots.size) (l2 : A.slots.size ≤ 536870912) (hp : ∀ i, i < A.slots.size → ¬ 255 < cv A i) (hfr : 4 ≤ R.frames) (hlo : W + 65 ≤ R.locals) :
    Back l R p e below s args New1.yN len W (fun P a => a = #[.ref x, .ref b] ∧ P.U.heap = h ∧ P.cells + 1 ≤ R.cells ∧ P.slots + A.slots.size ≤ R.slots)
      (fun P _ v B => ∃ L, Q Z x A h v B.U.heap L ∧ B.locs = P.locs ++ L ∧ B.cells = P.cells + 1 ∧ B.slots = P.slots + A.slots.size) := by
  intro m meth c P g ig mk a X hg hsize hdg hW hn hp'
  obtain ⟨rfl, rfl, r1, r2⟩ := hp'
  have al : Z.vm.Alike P.U.vm := hZ.alike.trans X.warmed.alike
  obtain ⟨D, cfV, kV, iV, fV, hD, gV, stV, knV, obV, asV, slV⟩ := id V
  obtain ⟨D', cfC, kC, iC, fC, hD', gC, stC, -, -, asC, slC⟩ := id C
  cases hD.symm.trans hD'
  obtain ⟨D2, kD, e1, e2, e3, e4, e5⟩ := id E
  cases hD.symm.trans e1
  obtain ⟨c2, k2, i1, i2, i3, -⟩ := Cond.instantiable_spec wi
  cases e2.symm.trans i1
  cases e3.symm.trans i2
  obtain ⟨kU, u1, u2⟩ := al.2.2 _ _ e3
  have hB : Blank ST x D P.U := ⟨hD, ⟨knV, fun q hq => by rw [hq] at obV; cases obV⟩, by rw [al.findClass]; exact e2, kU, u1, by rw [u2]; exact i3, by rw [u2]; exact e5 i3⟩
  have F1 : Found ST "value" "[B" fV P.U := ⟨SBG.found_only al ⟨cfV, kV, iV, gV⟩, stV⟩
  have F2 : Found ST "coder" "B" fC P.U := ⟨SBG.found_only al ⟨cfC, kC, iC, gC⟩, stC⟩
  have hA : Ch b A P.U := ⟨⟨K.1, State.isArrayOf_alike al K.2.1, K.2.2, by omega⟩, hty⟩
  have hS : StaticIs P.U ST "COMPACT_STRINGS" "Z" (.int z) := by
    obtain ⟨cfS, iS, kS, fS, st, cS, t1, t2, t3, t4, t5, t6, t7⟩ := S
    exact StaticIs.there (s := { Z with heap := P.U.heap }) ⟨cfS, iS, kS, fS, st, cS, t1, t2, t3, t4, t5, (fun q => by rw [q] at t6; cases t6), t7⟩ al rfl
  obtain ⟨v, B, X', ⟨⟨hv, E', V', q1, q2, q3, q4, q5, q6, q7, q8, q9, q10, q11⟩, hl, hc, hs⟩, st⟩ := New1.pays x D fV fC b A z (tab_of (moved hZ hw)) hfr hlo m meth c P g ig mk _ X hg hsize hdg hW hn ⟨r1, r2, rfl, hB, F1, F2, hA, hS, hz, l0, l2, hp⟩
  have al' : Z.vm.Alike B.U.vm := hZ.alike.trans X'.warmed.alike
  have hsz : E'.slots.size = D.slots.size := by
    obtain ⟨-, -, -, kB, w1, w2, w3⟩ := q1
    obtain ⟨kB', y1, y2⟩ := al'.2.2 _ _ e3
    rw [q2.2.1] at w1
    cases w1.symm.trans y1
    rw [w3, e5 i3, y2]
  refine ⟨v, B, X', ⟨_, ⟨hv, ?_, ⟨by omega, fun y cy hy hn' => q10 y cy (by simpa using hn') hy, fun y cy hy => ?_⟩, q11, ⟨E', _, q1.1, by rw [q2.2.1]; exact e2, by rw [q2.2.1]; exact e3, by rw [q2.1]; exact obV, fun _ => by rw [hsz]; exact e5 i3⟩,
    ⟨E', cfV, kV, iV, fV, q1.1, gV, stV, by rw [q2.1]; exact knV, by rw [q2.1]; exact obV, by rw [q2.2.1]; exact asV, q3⟩, ⟨E', cfC, kC, iC, fC, q1.1, gC, stC, by rw [q2.1]; exact knV, by rw [q2.1]; exact obV, by rw [q2.2.1]; exact asC, q4⟩,
    ⟨V', ⟨q5.1, State.isArrayOf_alike al'.symm q5.2.1, q5.2.2.1⟩, q6, by rw [← al'.findClass]; exact q7, q8, fun j hj => by have := q9 j hj; rwa [Nat.zero_add] at this⟩, fun O n d w F n1 n2 => ?_⟩, hl, hc, hs⟩, st⟩
  · intro y hy
    simp only [List.mem_cons, List.not_mem_nil, or_false] at hy
    rcases hy with rfl | rfl <;> rfl
  · by_cases q : y = x
    · subst q
      cases hD.symm.trans hy
      exact ⟨E', q1.1, q2.2.1, q2.1, hsz⟩
    · exact ⟨cy, q10 y cy q hy, rfl, rfl, rfl⟩
  · obtain ⟨D3, cf, k, i, f, g1, g2, g3, g4, g5, g6, g7⟩ := F
    cases hD.symm.trans g1
    simp only [RoadKit.slotOf, g2, gV, gC, Option.map_some, Option.getD_some] at n1 n2
    exact ⟨E', cf, k, i, f, q1.1, g2, g3, by rw [q2.1]; exact g4, by rw [q2.1]; exact g5, by rw [q2.2.1]; exact g6, by rw [q2.2.2 f.slot (by simp [n1, n2])]; exact g7⟩
end StrChars.Road
namespace StrChars.Road
open Jvm Sem ClassFile Op Lib Jvm.Stand Jvm.Free Jvm.Free.XT
/-- WHAT COMES BACK, the byte[] as a list of values -/
def QA (Z : State) (x : Addr) (zn : Int32) (cs : List Int32) (h : Heap) (v : Option Value) (h' : Heap) (L : List Loc) : Prop := v = none ∧ (∀ y ∈ L, y.base = x) ∧ RoadKit.Keep h h' [x] ∧ h'.size = h.size + 1 ∧ RoadKit.Exa Z h' x ST ∧ RoadKit.Fld Z h' x ST "value" "[B" (.ref h.size) ∧ RoadKit.Fld Z h' x ST "coder" "B" (.int 0) ∧
  (∃ kb, Z.vm.findClass "[B" = some kb ∧ RoadKit.Arv Z h' h.size kb .byte zn (cs.map fun c => .int (lo8 c)) (.int 0)) ∧
  ∀ (O n d : String) (w : Value), RoadKit.Fld Z h x O n d w → RoadKit.slotOf Z O n d ≠ RoadKit.slotOf Z ST "value" "[B" → RoadKit.slotOf Z O n d ≠ RoadKit.slotOf Z ST "coder" "B" → RoadKit.Fld Z h' x O n d w
/-- **new String(chars) AT A CALL, THE ARRAYS AS LISTS**: the char[] at b holds cs, not empty, no char above 255 -/
theorem backArv {p : Program} {l : Launch} {e : Env} {R : Room} {s : State} {args : Array Value} {below : List Frame} {len W : Nat} {Z : State} {a0 : Array Value} {h : Heap} (hZ : Z.Warmed39 s.vm) (hw : ∀ d ∈ words, d.before a0 Z = true) {kI : Nat} (wi : (Jvm.Cond.instantiable ST kI).before a0 Z = true)
    {x b : Addr} {k : ClassId} {zn z : Int32} {cs : List Int32} {dv v0 c0 : Value} (E : RoadKit.Exa Z h x ST) (V : RoadKit.Fld Z h x ST "value" "[B" v0) (C : RoadKit.Fld Z h x ST "coder" "B" c0) (K : RoadKit.Arv Z h b k .char zn (cs.map Value.int) dv) (S : RoadKit.Sta Z h ST "COMPACT_STRINGS" "Z" (.int z)) (hz : ¬ z = 0)
    (hlen : zn.toNatClampNeg = cs.length) (h0 : 0 < cs.length) (hbig : cs.length ≤ 536870912) (hall : ∀ c ∈ cs, ¬ 255 < c) (hfr : 4 ≤ R.frames) (hlo : W + 65 ≤ R.locals) :
    Back l R p e below s args New1.yN len W (fun P a => a = #[.ref x, .ref b] ∧ P.U.heap = h ∧ P.cells + 1 ≤ R.cells ∧ P.slots + cs.length ≤ R.slots)
      (fun P _ v B => ∃ L, QA Z x zn cs h v B.U.heap L ∧ B.locs = P.locs ++ L ∧ B.cells = P.cells + 1 ∧ B.slots = P.slots + cs.length) := by
  obtain ⟨A, K1, K2, K3, K4, K5, K6⟩ := K
  have e : A.slots.size = cs.length := K3.trans hlen
  have hat : ∀ (i : Nat) (hi : i < cs.length), A.slots[i]? = some (.int cs[i]) := fun i hi => by rw [K5 i (by omega)]; simp [List.getD_eq_getElem?_getD, hi]
  have hcv : ∀ (i : Nat) (hi : i < cs.length), cv A i = cs[i] := fun i hi => by unfold cv; rw [hat i hi]
  have hty : Typed .char A := fun i v hv => by
    have hi : i < A.slots.size := (Array.getElem?_eq_some_iff.mp hv).1
    have q := K5 i hi
    rw [hv] at q
    rw [Option.some.inj q]
    exact K6 i hi
  refine Back.mono (back hZ hw wi E V C K1 hty S hz (by omega) (by omega) (fun i hi => by rw [hcv i (by omega)]; exact hall _ (List.getElem_mem _)) hfr hlo) (fun P a hp => ⟨hp.1, hp.2.1, hp.2.2.1, by rw [e]; exact hp.2.2.2⟩) (fun P a v B hp hq => ?_)
  obtain ⟨L, ⟨q1, q2, q3, q4, q5, q6, q7, ⟨V', v1, v2, v3, v4, v5⟩, q9⟩, hl, hc, hs⟩ := hq
  refine ⟨L, ⟨q1, q2, q3, q4, q5, q6, q7, ⟨V'.cls, v3, V', v1, rfl, by rw [v4, e, hlen], K4, fun i hi => ?_, fun i hi => ?_⟩, q9⟩, hl, hc, by rw [hs, e]⟩
  · have hi' : i < cs.length := by omega
    rw [v5 i (by omega), hcv i hi']; simp [List.getD_eq_getElem?_getD, hi']
  · have hi' : i < cs.length := by omega
    simp only [List.getD_eq_getElem?_getD, List.getElem?_map, List.getElem?_eq_getElem hi', Option.map_some, Option.getD_some]
    exact fits_lo8 _
end StrChars.Road
namespace StrChars.Road
open Jvm Sem ClassFile Op Lib Jvm.Stand Jvm.Free Jvm.Free.XT
/-- WHAT COMES BACK, in the writer's own shape -/
def QV (Z : State) (x : Addr) (N : Int32) (bs : List Int32) (h : Heap) (n0 : Nat) (v : Option Value) (h' : Heap) (L : List Loc) : Prop := v = none ∧ RoadKit.Fr n0 L ∧ RoadKit.Keep h h' [x] ∧ RoadKit.Exa Z h' x ST ∧ RoadKit.Fld Z h' x ST "coder" "B" (.int 0) ∧
  ∃ (t : Addr) (kb : ClassId), n0 ≤ t ∧ h.size ≤ t ∧ ¬ t = x ∧ RoadKit.Fld Z h' x ST "value" "[B" (.ref t) ∧ RoadKit.Arv Z h' t kb .byte N (bs.map Value.int) (.int 0)
/-- **new String(chars) AT A CALL, FOR THE WRITER**: a char[] of n known ints, each 0 to 255 -/
theorem backV {p : Program} {l : Launch} {e : Env} {R : Room} {s : State} {args : Array Value} {below : List Frame} {len W : Nat} {Z : State} {a0 : Array Value} {h : Heap} (hZ : Z.Warmed39 s.vm) (hw : ∀ d ∈ words, d.before a0 Z = true) {kI : Nat} (wi : (Jvm.Cond.instantiable ST kI).before a0 Z = true)
    {x b : Addr} {kC : ClassId} {cs bs : List Int32} {d v0 c0 : Value} {z N : Int32} {n n0 : Nat} (hx0 : n0 ≤ x) (hh0 : n0 ≤ h.size) (E : RoadKit.Exa Z h x ST) (V : RoadKit.Fld Z h x ST "value" "[B" v0) (C : RoadKit.Fld Z h x ST "coder" "B" c0) (K : RoadKit.Arv Z h b kC .char N (cs.map Value.int) d) (S : RoadKit.Sta Z h ST "COMPACT_STRINGS" "Z" (.int z)) (hz : ¬ z = 0)
    (hn : cs.length = n) (hN : N = Int32.ofNat n) (l0 : 0 < n) (l2 : n ≤ 4000) (hp : ∀ c ∈ cs, ¬ c < 0 ∧ ¬ (255 : Int32) < c) (hb : bs = cs.map (fun c => c.toInt8.toInt32)) (hfr : 4 ≤ R.frames) (hlo : W + 65 ≤ R.locals) :
    Back l R p e below s args (⟨"java/lang/String", "<init>", "([C)V"⟩ : MethodName) len W (fun P a => a = #[.ref x, .ref b] ∧ P.U.heap = h ∧ P.cells + 1 ≤ R.cells ∧ P.slots + n ≤ R.slots)
      (fun P _ v B => ∃ L, QV Z x N bs h n0 v B.U.heap L ∧ B.locs = P.locs ++ L ∧ B.cells = P.cells + 1 ∧ B.slots = P.slots + n) := by
  subst hn hN hb
  refine Back.mono (backArv hZ hw wi E V C K S hz (n32 (by omega)) l0 (by omega) (fun c hc => (hp c hc).2) hfr hlo) (fun P a hp => hp) (fun P a v B hp hq => ?_)
  obtain ⟨L, ⟨q1, q2, q3, q4, q5, q6, q7, ⟨kb, v1, v2⟩, q9⟩, hl, hc, hs⟩ := hq
  exact ⟨L, ⟨q1, fun y hy => by rw [q2 y hy]; exact hx0, q3, q5, q7, h.size, kb, hh0, Nat.le_refl _, Nat.ne_of_gt E.lt, q6, by rw [List.map_map]; exact v2⟩, hl, hc, hs⟩
end StrChars.Road
end Jvm.Pilot.@@N@@

namespace Jvm.Pilot.@@N@@
open Jvm Jvm.ClassFile Sem Op Lib Jvm.Free Jvm.Stand Jvm.LawKit Jvm.RoadKit Bundle Jvm.Pilot.@@N@@.Jvm.D
theorem d1_0 : decode prog_22_method_1_code 0 = .ok (.aload_n 0, 1) := by decide +kernel
theorem d1_1 : decode prog_22_method_1_code 1 = .ok (.invokespecial 1, 3) := by decide +kernel
theorem d1_4 : decode prog_22_method_1_code 4 = .ok (.aload_n 0, 1) := by decide +kernel
theorem d1_5 : decode prog_22_method_1_code 5 = .ok (.lload_n 1, 1) := by decide +kernel
theorem d1_6 : decode prog_22_method_1_code 6 = .ok (.putfield 7, 3) := by decide +kernel
theorem d1_9 : decode prog_22_method_1_code 9 = .ok (.aload_n 0, 1) := by decide +kernel
theorem d1_10 : decode prog_22_method_1_code 10 = .ok (.lload_n 3, 1) := by decide +kernel
theorem d1_11 : decode prog_22_method_1_code 11 = .ok (.putfield 13, 3) := by decide +kernel
theorem d1_14 : decode prog_22_method_1_code 14 = .ok (.aload_n 0, 1) := by decide +kernel
theorem d1_15 : decode prog_22_method_1_code 15 = .ok (.lload 5, 2) := by decide +kernel
theorem d1_17 : decode prog_22_method_1_code 17 = .ok (.putfield 16, 3) := by decide +kernel
theorem d1_20 : decode prog_22_method_1_code 20 = .ok (.aload_n 0, 1) := by decide +kernel
theorem d1_21 : decode prog_22_method_1_code 21 = .ok (.aload 7, 2) := by decide +kernel
theorem d1_23 : decode prog_22_method_1_code 23 = .ok (.putfield 19, 3) := by decide +kernel
theorem d1_26 : decode prog_22_method_1_code 26 = .ok (.aload_n 0, 1) := by decide +kernel
theorem d1_27 : decode prog_22_method_1_code 27 = .ok (.aload 8, 2) := by decide +kernel
theorem d1_29 : decode prog_22_method_1_code 29 = .ok (.putfield 23, 3) := by decide +kernel
theorem d1_32 : decode prog_22_method_1_code 32 = .ok (.aload_n 0, 1) := by decide +kernel
theorem d1_33 : decode prog_22_method_1_code 33 = .ok (.aconst_null, 1) := by decide +kernel
theorem d1_34 : decode prog_22_method_1_code 34 = .ok (.putfield 26, 3) := by decide +kernel
theorem d1_37 : decode prog_22_method_1_code 37 = .ok (.return_, 1) := by decide +kernel
theorem d3_0 : decode jdk_42_method_139_code 0 = .ok (.getstatic 38, 3) := by decide +kernel
theorem d3_3 : decode jdk_42_method_139_code 3 = .ok (.ifCond .eq 23, 3) := by decide +kernel
theorem d3_6 : decode jdk_42_method_139_code 6 = .ok (.iload_n 0, 1) := by decide +kernel
theorem d3_7 : decode jdk_42_method_139_code 7 = .ok (.invokestatic 1015, 3) := by decide +kernel
theorem d3_10 : decode jdk_42_method_139_code 10 = .ok (.ifCond .eq 16, 3) := by decide +kernel
theorem d3_13 : decode jdk_42_method_139_code 13 = .ok (.new 10, 3) := by decide +kernel
theorem d3_16 : decode jdk_42_method_139_code 16 = .ok (.dup, 1) := by decide +kernel
theorem d3_17 : decode jdk_42_method_139_code 17 = .ok (.iload_n 0, 1) := by decide +kernel
theorem d3_18 : decode jdk_42_method_139_code 18 = .ok (.invokestatic 1018, 3) := by decide +kernel
theorem d3_21 : decode jdk_42_method_139_code 21 = .ok (.iconst 0, 1) := by decide +kernel
theorem d3_22 : decode jdk_42_method_139_code 22 = .ok (.invokespecial 209, 3) := by decide +kernel
theorem d3_25 : decode jdk_42_method_139_code 25 = .ok (.areturn, 1) := by decide +kernel
theorem d4_0 : decode jdk_43_method_3_code 0 = .ok (.iload_n 0, 1) := by decide +kernel
theorem d4_1 : decode jdk_43_method_3_code 1 = .ok (.sipush 255, 3) := by decide +kernel
theorem d4_4 : decode jdk_43_method_3_code 4 = .ok (.if_icmp .gt 7, 3) := by decide +kernel
theorem d4_7 : decode jdk_43_method_3_code 7 = .ok (.iconst 1, 1) := by decide +kernel
theorem d4_8 : decode jdk_43_method_3_code 8 = .ok (.goto 4, 3) := by decide +kernel
theorem d4_12 : decode jdk_43_method_3_code 12 = .ok (.ireturn, 1) := by decide +kernel
theorem d5_0 : decode jdk_43_method_46_code 0 = .ok (.iconst 1, 1) := by decide +kernel
theorem d5_1 : decode jdk_43_method_46_code 1 = .ok (.newarray .byte, 2) := by decide +kernel
theorem d5_3 : decode jdk_43_method_46_code 3 = .ok (.dup, 1) := by decide +kernel
theorem d5_4 : decode jdk_43_method_46_code 4 = .ok (.iconst 0, 1) := by decide +kernel
theorem d5_5 : decode jdk_43_method_46_code 5 = .ok (.iload_n 0, 1) := by decide +kernel
theorem d5_6 : decode jdk_43_method_46_code 6 = .ok (.i2b, 1) := by decide +kernel
theorem d5_7 : decode jdk_43_method_46_code 7 = .ok (.bastore, 1) := by decide +kernel
theorem d5_8 : decode jdk_43_method_46_code 8 = .ok (.areturn, 1) := by decide +kernel
theorem d6_0 : decode jdk_42_method_151_code 0 = .ok (.aload_n 0, 1) := by decide +kernel
theorem d6_1 : decode jdk_42_method_151_code 1 = .ok (.invokespecial 1, 3) := by decide +kernel
theorem d6_4 : decode jdk_42_method_151_code 4 = .ok (.aload_n 0, 1) := by decide +kernel
theorem d6_5 : decode jdk_42_method_151_code 5 = .ok (.aload_n 1, 1) := by decide +kernel
theorem d6_6 : decode jdk_42_method_151_code 6 = .ok (.putfield 9, 3) := by decide +kernel
theorem d6_9 : decode jdk_42_method_151_code 9 = .ok (.aload_n 0, 1) := by decide +kernel
theorem d6_10 : decode jdk_42_method_151_code 10 = .ok (.iload_n 2, 1) := by decide +kernel
theorem d6_11 : decode jdk_42_method_151_code 11 = .ok (.putfield 15, 3) := by decide +kernel
theorem d6_14 : decode jdk_42_method_151_code 14 = .ok (.return_, 1) := by decide +kernel
theorem d12_0 : decode prog_12_method_1_code 0 = .ok (.aload_n 0, 1) := by decide +kernel
theorem d12_1 : decode prog_12_method_1_code 1 = .ok (.invokespecial 1, 3) := by decide +kernel
theorem d12_4 : decode prog_12_method_1_code 4 = .ok (.aload_n 0, 1) := by decide +kernel
theorem d12_5 : decode prog_12_method_1_code 5 = .ok (.aload_n 1, 1) := by decide +kernel
theorem d12_6 : decode prog_12_method_1_code 6 = .ok (.putfield 7, 3) := by decide +kernel
theorem d12_9 : decode prog_12_method_1_code 9 = .ok (.aload_n 0, 1) := by decide +kernel
theorem d12_10 : decode prog_12_method_1_code 10 = .ok (.aload_n 2, 1) := by decide +kernel
theorem d12_11 : decode prog_12_method_1_code 11 = .ok (.putfield 13, 3) := by decide +kernel
theorem d12_14 : decode prog_12_method_1_code 14 = .ok (.aload_n 0, 1) := by decide +kernel
theorem d12_15 : decode prog_12_method_1_code 15 = .ok (.aload_n 3, 1) := by decide +kernel
theorem d12_16 : decode prog_12_method_1_code 16 = .ok (.putfield 16, 3) := by decide +kernel
theorem d12_19 : decode prog_12_method_1_code 19 = .ok (.return_, 1) := by decide +kernel
theorem d13_0 : decode prog_22_method_2_code 0 = .ok (.aload_n 0, 1) := by decide +kernel
theorem d13_1 : decode prog_22_method_2_code 1 = .ok (.invokespecial 1, 3) := by decide +kernel
theorem d13_4 : decode prog_22_method_2_code 4 = .ok (.aload_n 0, 1) := by decide +kernel
theorem d13_5 : decode prog_22_method_2_code 5 = .ok (.lload_n 1, 1) := by decide +kernel
theorem d13_6 : decode prog_22_method_2_code 6 = .ok (.putfield 7, 3) := by decide +kernel
theorem d13_9 : decode prog_22_method_2_code 9 = .ok (.aload_n 0, 1) := by decide +kernel
theorem d13_10 : decode prog_22_method_2_code 10 = .ok (.lconst 0, 1) := by decide +kernel
theorem d13_11 : decode prog_22_method_2_code 11 = .ok (.putfield 13, 3) := by decide +kernel
theorem d13_14 : decode prog_22_method_2_code 14 = .ok (.aload_n 0, 1) := by decide +kernel
theorem d13_15 : decode prog_22_method_2_code 15 = .ok (.lconst 0, 1) := by decide +kernel
theorem d13_16 : decode prog_22_method_2_code 16 = .ok (.putfield 16, 3) := by decide +kernel
theorem d13_19 : decode prog_22_method_2_code 19 = .ok (.aload_n 0, 1) := by decide +kernel
theorem d13_20 : decode prog_22_method_2_code 20 = .ok (.getstatic 30, 3) := by decide +kernel
theorem d13_23 : decode prog_22_method_2_code 23 = .ok (.putfield 19, 3) := by decide +kernel
theorem d13_26 : decode prog_22_method_2_code 26 = .ok (.aload_n 0, 1) := by decide +kernel
theorem d13_27 : decode prog_22_method_2_code 27 = .ok (.getstatic 30, 3) := by decide +kernel
theorem d13_30 : decode prog_22_method_2_code 30 = .ok (.putfield 23, 3) := by decide +kernel
theorem d13_33 : decode prog_22_method_2_code 33 = .ok (.aload_n 0, 1) := by decide +kernel
theorem d13_34 : decode prog_22_method_2_code 34 = .ok (.aload_n 3, 1) := by decide +kernel
theorem d13_35 : decode prog_22_method_2_code 35 = .ok (.putfield 26, 3) := by decide +kernel
theorem d13_38 : decode prog_22_method_2_code 38 = .ok (.return_, 1) := by decide +kernel
theorem d14_0 : decode prog_22_method_5_code 0 = .ok (.aload_n 0, 1) := by decide +kernel
theorem d14_1 : decode prog_22_method_5_code 1 = .ok (.getfield 13, 3) := by decide +kernel
theorem d14_4 : decode prog_22_method_5_code 4 = .ok (.lconst 0, 1) := by decide +kernel
theorem d14_5 : decode prog_22_method_5_code 5 = .ok (.lcmp, 1) := by decide +kernel
theorem d14_6 : decode prog_22_method_5_code 6 = .ok (.ifCond .ne 14, 3) := by decide +kernel
theorem d14_9 : decode prog_22_method_5_code 9 = .ok (.aload_n 0, 1) := by decide +kernel
theorem d14_10 : decode prog_22_method_5_code 10 = .ok (.getfield 26, 3) := by decide +kernel
theorem d14_13 : decode prog_22_method_5_code 13 = .ok (.ifnonnull 7, 3) := by decide +kernel
theorem d14_16 : decode prog_22_method_5_code 16 = .ok (.iconst 1, 1) := by decide +kernel
theorem d14_17 : decode prog_22_method_5_code 17 = .ok (.goto 4, 3) := by decide +kernel
theorem d14_20 : decode prog_22_method_5_code 20 = .ok (.iconst 0, 1) := by decide +kernel
theorem d14_21 : decode prog_22_method_5_code 21 = .ok (.ireturn, 1) := by decide +kernel
theorem pd_0 : parseMethodDescriptor "(C)Z" = some ⟨[.char], some .boolean⟩ := by decide +kernel
theorem pd_1 : parseMethodDescriptor "(C)[B" = some ⟨[.char], some (.array .byte)⟩ := by decide +kernel
theorem pd_2 : parseMethodDescriptor "([BB)V" = some ⟨[(.array .byte), .byte], none⟩ := by decide +kernel
theorem pd_3 : parseMethodDescriptor "(JJJLjava/math/BigDecimal;Ljava/math/BigDecimal;)V" = some ⟨[.long, .long, .long, (.object "java/math/BigDecimal"), (.object "java/math/BigDecimal")], none⟩ := by decide +kernel
theorem pd_4 : parseMethodDescriptor "(C)Ljava/lang/String;" = some ⟨[.char], some (.object "java/lang/String")⟩ := by decide +kernel
theorem pd_5 : parseMethodDescriptor "([C)V" = some ⟨[(.array .char)], none⟩ := by decide +kernel
theorem pd_6 : parseMethodDescriptor "(Ljava/lang/String;Ljava/lang/String;Ljava/lang/String;)V" = some ⟨[(.object "java/lang/String"), (.object "java/lang/String"), (.object "java/lang/String")], none⟩ := by decide +kernel
theorem pd_7 : parseMethodDescriptor "(JLcom/example/governor/governor/core/FieldChange;)V" = some ⟨[.long, (.object "com/example/governor/governor/core/FieldChange")], none⟩ := by decide +kernel
theorem pd_8 : parseMethodDescriptor "()Z" = some ⟨[], some .boolean⟩ := by decide +kernel
def own_zl (q : Int64) : Int32 := if lcmpW q 0 = 0 then 1 else 0
theorem own_zlb (q : Int64) : nar .boolean (own_zl q) = own_zl q := by unfold own_zl; split <;> rfl
theorem own_chars (x : Int32) : ¬ nar .char ((x &&& (255 : Int32)).toUInt32.toUInt16.toUInt32.toInt32) < 0 ∧ ¬ (255 : Int32) < nar .char ((x &&& (255 : Int32)).toUInt32.toUInt16.toUInt32.toInt32) := by
  show ¬ ((x &&& (255 : Int32)).toUInt32.toUInt16.toUInt32.toInt32).toUInt32.toUInt16.toUInt32.toInt32 < 0 ∧ ¬ (255 : Int32) < ((x &&& (255 : Int32)).toUInt32.toUInt16.toUInt32.toInt32).toUInt32.toUInt16.toUInt32.toInt32
  rw [i2c_mask, i2c_mask]
  have hm : (x &&& 255).toInt = x.toInt % 2 ^ 8 := Jvm.Kit.i32_mask x 255 (k := 8) (by decide) (by decide)
  have c255 : (255 : Int32).toInt = 255 := by decide
  have c0 : (0 : Int32).toInt = 0 := by decide
  rw [Int32.lt_iff_toInt_lt, Int32.lt_iff_toInt_lt]
  omega
theorem own_chars2 (y : Int32) : ¬ (255 : Int32) < (y &&& (255 : Int32)).toUInt32.toUInt16.toUInt32.toInt32 := by
  rw [i2c_mask]
  have hm : (y &&& 255).toInt = y.toInt % 2 ^ 8 := Jvm.Kit.i32_mask y 255 (k := 8) (by decide) (by decide)
  have c255 : (255 : Int32).toInt = 255 := by decide
  rw [Int32.lt_iff_toInt_lt]
  omega
theorem ef_4 (m : MethodId) (p1 : Int32) : entryFrame m #[(.int p1)] 1 = (mkF m 0 #[.val (.int p1)] []) := by first | (simp [entryFrame, mkF, argsToLocals, Value.category]; done) | rfl
theorem pn_4 : plainName "java/lang/StringLatin1" = true := by first | (simp [plainName, overriddenIn]; done) | decide +kernel
theorem ef_5 (m : MethodId) (p1 : Int32) : entryFrame m #[(.int p1)] 1 = (mkF m 0 #[.val (.int p1)] []) := by first | (simp [entryFrame, mkF, argsToLocals, Value.category]; done) | rfl
theorem pn_5 : plainName "java/lang/StringLatin1" = true := by first | (simp [plainName, overriddenIn]; done) | decide +kernel
theorem ef_6 (m : MethodId) (a1 : Addr) (a2 : Addr) (p1 : Int32) : entryFrame m #[(.ref a1), (.ref a2), (.int p1)] 3 = (mkF m 0 #[.val (.ref a1), .val (.ref a2), .val (.int p1)] []) := by first | (simp [entryFrame, mkF, argsToLocals, Value.category]; done) | rfl
theorem pn_6 : plainName "java/lang/String" = true := by first | (simp [plainName, overriddenIn]; done) | decide +kernel
theorem ef_3 (m : MethodId) (p1 : Int32) : entryFrame m #[(.int p1)] 1 = (mkF m 0 #[.val (.int p1)] []) := by first | (simp [entryFrame, mkF, argsToLocals, Value.category]; done) | rfl
theorem pn_3 : plainName "java/lang/String" = true := by first | (simp [plainName, overriddenIn]; done) | decide +kernel
theorem ef_12rr (m : MethodId) (a1 : Addr) (a2 : Addr) (a3 : Addr) (a4 : Addr) : entryFrame m #[(.ref a1), (.ref a2), (.ref a3), (.ref a4)] 4 = (mkF m 0 #[.val (.ref a1), .val (.ref a2), .val (.ref a3), .val (.ref a4)] []) := by first | (simp [entryFrame, mkF, argsToLocals, Value.category]; done) | rfl
theorem pn_12 : plainName "com/example/governor/governor/core/FieldChange" = true := by first | (simp [plainName, overriddenIn]; done) | decide +kernel
theorem ef_12rn (m : MethodId) (a1 : Addr) (a2 : Addr) (a3 : Addr) : entryFrame m #[(.ref a1), (.ref a2), (.ref a3), .null] 4 = (mkF m 0 #[.val (.ref a1), .val (.ref a2), .val (.ref a3), .val .null] []) := by first | (simp [entryFrame, mkF, argsToLocals, Value.category]; done) | rfl
theorem ef_12nr (m : MethodId) (a1 : Addr) (a2 : Addr) (a4 : Addr) : entryFrame m #[(.ref a1), (.ref a2), .null, (.ref a4)] 4 = (mkF m 0 #[.val (.ref a1), .val (.ref a2), .val .null, .val (.ref a4)] []) := by first | (simp [entryFrame, mkF, argsToLocals, Value.category]; done) | rfl
theorem ef_12nn (m : MethodId) (a1 : Addr) (a2 : Addr) : entryFrame m #[(.ref a1), (.ref a2), .null, .null] 4 = (mkF m 0 #[.val (.ref a1), .val (.ref a2), .val .null, .val .null] []) := by first | (simp [entryFrame, mkF, argsToLocals, Value.category]; done) | rfl
theorem ef_1 (m : MethodId) (a1 : Addr) (q1 : Int64) (q2 : Int64) (q3 : Int64) : entryFrame m #[(.ref a1), (.long q1), (.long q2), (.long q3), .null, .null] 9 = (mkF m 0 #[.val (.ref a1), .val (.long q1), .second, .val (.long q2), .second, .val (.long q3), .second, .val .null, .val .null] []) := by first | (simp [entryFrame, mkF, argsToLocals, Value.category]; done) | rfl
theorem pn_1 : plainName "com/example/governor/governor/core/UsageLine" = true := by first | (simp [plainName, overriddenIn]; done) | decide +kernel
theorem ef_13r (m : MethodId) (a1 : Addr) (q1 : Int64) (a2 : Addr) : entryFrame m #[(.ref a1), (.long q1), (.ref a2)] 4 = (mkF m 0 #[.val (.ref a1), .val (.long q1), .second, .val (.ref a2)] []) := by first | (simp [entryFrame, mkF, argsToLocals, Value.category]; done) | rfl
theorem pn_13 : plainName "com/example/governor/governor/core/UsageLine" = true := by first | (simp [plainName, overriddenIn]; done) | decide +kernel
theorem ef_13n (m : MethodId) (a1 : Addr) (q1 : Int64) : entryFrame m #[(.ref a1), (.long q1), .null] 4 = (mkF m 0 #[.val (.ref a1), .val (.long q1), .second, .val .null] []) := by first | (simp [entryFrame, mkF, argsToLocals, Value.category]; done) | rfl
theorem ef_14 (m : MethodId) (a1 : Addr) : entryFrame m #[(.ref a1)] 1 = (mkF m 0 #[.val (.ref a1)] []) := by first | (simp [entryFrame, mkF, argsToLocals, Value.category]; done) | rfl
theorem pn_14 : plainName "com/example/governor/governor/core/UsageLine" = true := by first | (simp [plainName, overriddenIn]; done) | decide +kernel
theorem ef_0 (m : MethodId) (q0 : Int64) (q2 : Int64) (q4 : Int64) (p6 : Int32) (p7 : Int32) : entryFrame m #[(.long q0), (.long q2), (.long q4), (.int p6), (.int p7)] maxLocals = (mkF m 0 #[.val (.long q0), .second, .val (.long q2), .second, .val (.long q4), .second, .val (.int p6), .val (.int p7), .unset, .unset, .unset, .unset, .unset, .unset, .unset, .unset, .unset, .unset, .unset, .unset] []) := by first | (simp [entryFrame, mkF, argsToLocals, Value.category, maxLocals]; done) | rfl
theorem pn_0 : plainName "com/example/governor/governor/core/UsageLineMarksPausedPinLaw" = true := by first | (simp [plainName, overriddenIn]; done) | decide +kernel
def Q4 (Z : State) (p1 : Int32) (h0 : Heap) (n0 : Nat) (v : Option Value) (h : Heap) (L : List Loc) : Prop := v = some (.int 1) ∧ Fr n0 L ∧ h = h0
set_option maxRecDepth 65536 in
set_option maxHeartbeats 40000000 in
theorem rm4 (l : Launch) (Z : State) (a0 : Array Value) (hw : ∀ d ∈ tables_1, d.before a0 Z = true) (ws : List Jvm.Cond) (p1 : Int32) (h0 : Heap) (n0 : Nat) (Z0 : n0 ≤ h0.size) (h1 : ¬ (255 : Int32) < p1) :
    MetFree l (⟨"java/lang/StringLatin1", "canEncode", "(C)Z"⟩ : MethodName) (head1 (Jvm.Cond.code (⟨"java/lang/StringLatin1", "canEncode", "(C)Z"⟩ : MethodName) jdk_43_method_3_code 1 (some .boolean) :: ws) ({ frames := 0, cells := 0, slots := 0, locals := 0 } : Room)) (fun a U => a = #[(.int p1)] ∧ Z.Warmed39 U.vm ∧ U.heap = h0) (fun _ _ _ _ _ => True) (fun _ U o U' => ∃ v L, o = .returned v ∧ Q4 Z p1 h0 n0 v U'.heap L ∧ FrameEnd U o U' L ({ frames := 0, cells := 0, slots := 0, locals := 0 } : Room).cells ({ frames := 0, cells := 0, slots := 0, locals := 0 } : Room).slots) := by
  refine MetFree.of_bodySF (plainFor_of_name pn_4) hisR ?_
  intro p e s m args below meth c s₁ Bd hml0 hP hK
  obtain ⟨rfl, hZ, hh⟩ := hP
  have hx := Bd.exec
  have hby := Bd.bytes
  have hml : c.maxLocals = 1 := hml0
  have hown : s.vm.findClass "java/lang/StringLatin1" = some m.cls := findClass_of_methodNamed Bd.named
  have hnm := (name_of_methodNamed Bd.named Bd.method).1
  have X0 : Stand p l e ({ frames := 0, cells := 0, slots := 0, locals := 0 } : Room) s m #[(.int p1)] below meth c s₁ [] 0 0 := Stand.of_body Bd
  have e0 : s₁.heap = h0 := by rw [← hh, Bd.state]; rfl
  have N0 := Fr.nil n0
  have pre0 : ∀ t, Steps p.tables e below (s₁.setTop (mkF m 0 #[.val (.int p1)] [])) t → Steps p.tables e below (s₁.setTop (entryFrame m #[(.int p1)] 1)) t := fun t k => castTop (ef_4 m p1) k
  obtain ⟨fs, hr, hrun, hended, hW, hsame⟩ := X0.leave (v := some (.int (1 : Int32))) (fun h => by rw [Bd.returns] at h; cases h)
  refine ⟨_, _, pre0 _ ?_, hrun, hended, _, _, rfl, ?_, ⟨_, rfl⟩, hW, hsame.mono (by decide) (by decide)⟩
  · show Steps p.tables e below (s₁.setTop (mkF m 0 #[.val (.int p1)] [])) _
    refine XS.iloadN X0.here hx rfl (hb hby d4_0) rfl ?_
    show Steps p.tables e below (s₁.setTop (mkF m 1 #[.val (.int p1)] [(.int p1)])) _
    refine XS.sipush X0.here hx rfl (hb hby d4_1) ?_
    show Steps p.tables e below (s₁.setTop (mkF m 4 #[.val (.int p1)] [(.int (255 : Int32)), (.int p1)])) _
    refine XS.icmpNo X0.here hx rfl (hb hby d4_4) rfl (flt h1).2.2.1 ?_
    show Steps p.tables e below (s₁.setTop (mkF m 7 #[.val (.int p1)] [])) _
    refine XS.iconst X0.here hx rfl (hb hby d4_7) ?_
    show Steps p.tables e below (s₁.setTop (mkF m 8 #[.val (.int p1)] [(.int (1 : Int32))])) _
    refine XS.goto X0.here hx rfl (pc0 := 8) (pc' := 12) rfl (hb hby d4_8) (by decide) (by decide) ?_
    show Steps p.tables e below (s₁.setTop (mkF m 12 #[.val (.int p1)] [(.int (1 : Int32))])) _
    exact retN X0 hx (t := .boolean) Bd.returns (by simp) (hb hby d4_12) hr
  · show Q4 Z p1 h0 n0 _ s₁.heap _
    rw [e0]
    exact ⟨rfl, N0, rfl⟩
def Q5 (Z : State) (p1 : Int32) (h0 : Heap) (n0 : Nat) (v : Option Value) (h : Heap) (L : List Loc) : Prop := ∃ bi : Addr, v = some (.ref bi) ∧ Fr n0 L ∧ Keep h0 h [] ∧ n0 ≤ bi
set_option maxRecDepth 65536 in
set_option maxHeartbeats 40000000 in
theorem rm5 (l : Launch) (Z : State) (a0 : Array Value) (hw : ∀ d ∈ tables_1, d.before a0 Z = true) (ws : List Jvm.Cond) (p1 : Int32) (h0 : Heap) (n0 : Nat) (Z0 : n0 ≤ h0.size) :
    MetFree l (⟨"java/lang/StringLatin1", "toBytes", "(C)[B"⟩ : MethodName) (head1 (Jvm.Cond.code (⟨"java/lang/StringLatin1", "toBytes", "(C)[B"⟩ : MethodName) jdk_43_method_46_code 1 (some (.array .byte)) :: ws) ({ frames := 0, cells := 1, slots := 1, locals := 0 } : Room)) (fun a U => a = #[(.int p1)] ∧ Z.Warmed39 U.vm ∧ U.heap = h0) (fun _ _ _ _ _ => True) (fun _ U o U' => ∃ v L, o = .returned v ∧ Q5 Z p1 h0 n0 v U'.heap L ∧ FrameEnd U o U' L ({ frames := 0, cells := 1, slots := 1, locals := 0 } : Room).cells ({ frames := 0, cells := 1, slots := 1, locals := 0 } : Room).slots) := by
  refine MetFree.of_bodySF (plainFor_of_name pn_5) hisR ?_
  intro p e s m args below meth c s₁ Bd hml0 hP hK
  obtain ⟨rfl, hZ, hh⟩ := hP
  have hx := Bd.exec
  have hby := Bd.bytes
  have hml : c.maxLocals = 1 := hml0
  have hown : s.vm.findClass "java/lang/StringLatin1" = some m.cls := findClass_of_methodNamed Bd.named
  have hnm := (name_of_methodNamed Bd.named Bd.method).1
  have X0 : Stand p l e ({ frames := 0, cells := 1, slots := 1, locals := 0 } : Room) s m #[(.int p1)] below meth c s₁ [] 0 0 := Stand.of_body Bd
  have e0 : s₁.heap = h0 := by rw [← hh, Bd.state]; rfl
  have N0 := Fr.nil n0
  have pre0 : ∀ t, Steps p.tables e below (s₁.setTop (mkF m 0 #[.val (.int p1)] [])) t → Steps p.tables e below (s₁.setTop (entryFrame m #[(.int p1)] 1)) t := fun t k => castTop (ef_5 m p1) k
  have KK0 := Keep.refl h0 []
  obtain ⟨T1, h1, k1, X1, e1, E1, A1, st1⟩ := newP X0 hx hZ (hw _ (List.mem_of_getElem? (i := 36) rfl)) e0 (g := (mkF m 1 #[.val (.int p1)] [(.int (1 : Int32))])) rfl (hb hby d5_1) rfl (by decide) (cap := 1) (by decide) (by decide) (by decide) (by decide)
  obtain ⟨b1, g1⟩ : ∃ z, z = h0.size := ⟨_, rfl⟩
  rw [← g1] at A1 st1
  have g_b1 : n0 ≤ b1 := Nat.le_trans Z0 (Nat.le_of_eq g1.symm)
  have sz_b1 : h0.size ≤ b1 := Nat.le_trans KK0.1 (Nat.le_of_eq g1.symm)
  have Zs2 := Nat.le_trans Z0 E1.1
  have Kk1 := KK0.ext E1
  have V_b1 : Arv Z h1 b1 k1 .byte (1 : Int32) [(.int (0 : Int32))] (.int (0 : Int32)) := (Arv.new A1 (by decide)).pad (pad_rep [] (.int (0 : Int32)) 1)
  obtain ⟨cl3, Ar3, q3, S3, N3m, H3, G3⟩ := id V_b1
  have hin3 : ¬ ((0 : Int32) < 0 ∨ cl3.slots.size ≤ ((0 : Int32)).toNatClampNeg) := inb_of S3 ⟨by decide, by decide⟩
  obtain ⟨T3, h3, X3, e3, W3, st3⟩ := stB X1 hx hZ e1 Ar3 (j := (0 : Int32)) hin3 (g := (mkF m 7 #[.val (.int p1)] [(.int (p1.toInt8.toInt32)), (.int (0 : Int32)), (.ref b1), (.ref b1)])) rfl rfl (hb hby d5_7)
  have V3_b1 : Arv Z h3 b1 k1 .byte (1 : Int32) [(.int (nar .byte (p1.toInt8.toInt32)))] (.int (0 : Int32)) := Arv.set Ar3 q3 S3 N3m H3 G3 (fits_nar_byte _) W3 0 rfl (Nat.le_of_ble_eq_true rfl)
  have Zs4 := Nat.le_trans Zs2 (Keep.of_wr W3).1
  have Kk3 := Kk1.wr W3 (Or.inr sz_b1)
  have N3 := Fr.snoc X3 N0 g_b1
  obtain ⟨fs, hr, hrun, hended, hW, hsame⟩ := X3.leave (v := some (.ref b1)) (fun h => by rw [Bd.returns] at h; cases h)
  refine ⟨_, _, pre0 _ ?_, hrun, hended, _, _, rfl, ?_, ⟨_, rfl⟩, hW, hsame.mono (by decide) (by decide)⟩
  · show Steps p.tables e below (s₁.setTop (mkF m 0 #[.val (.int p1)] [])) _
    refine XS.iconst X0.here hx rfl (hb hby d5_0) ?_
    show Steps p.tables e below (s₁.setTop (mkF m 1 #[.val (.int p1)] [(.int (1 : Int32))])) _
    refine st1 _ ?_
    show Steps p.tables e below (T1.setTop (mkF m 3 #[.val (.int p1)] [(.ref b1)])) _
    refine XS.dup X1.here hx rfl (hb hby d5_3) rfl rfl ?_
    show Steps p.tables e below (T1.setTop (mkF m 4 #[.val (.int p1)] [(.ref b1), (.ref b1)])) _
    refine XS.iconst X1.here hx rfl (hb hby d5_4) ?_
    show Steps p.tables e below (T1.setTop (mkF m 5 #[.val (.int p1)] [(.int (0 : Int32)), (.ref b1), (.ref b1)])) _
    refine XS.iloadN X1.here hx rfl (hb hby d5_5) rfl ?_
    show Steps p.tables e below (T1.setTop (mkF m 6 #[.val (.int p1)] [(.int p1), (.int (0 : Int32)), (.ref b1), (.ref b1)])) _
    refine XS.i2b X1.here hx rfl (hb hby d5_6) rfl ?_
    show Steps p.tables e below (T1.setTop (mkF m 7 #[.val (.int p1)] [(.int (p1.toInt8.toInt32)), (.int (0 : Int32)), (.ref b1), (.ref b1)])) _
    refine st3 _ ?_
    show Steps p.tables e below (T3.setTop (mkF m 8 #[.val (.int p1)] [(.ref b1)])) _
    exact retOut X3 hx Bd.returns rfl (Or.inr (Or.inr (Or.inr (Or.inr ⟨rfl, rfl, rfl⟩)))) (hb hby d5_8) hr
  · show Q5 Z p1 h0 n0 _ T3.heap _
    rw [e3]
    exact ⟨_, rfl, N3, Kk3, g_b1⟩
def Q6 (Z : State) (a1 a2 : Addr) (p1 : Int32) (h0 : Heap) (n0 : Nat) (v : Option Value) (h : Heap) (L : List Loc) : Prop := v = none ∧ Fr n0 L ∧ Keep h0 h [a1]
set_option maxRecDepth 65536 in
set_option maxHeartbeats 40000000 in
theorem rm6 (l : Launch) (Z : State) (a0 : Array Value) (hw : ∀ d ∈ tables_1, d.before a0 Z = true) (ws : List Jvm.Cond) (a1 a2 : Addr) (p1 : Int32) (h0 : Heap) (n0 : Nat) (Z0 : n0 ≤ h0.size) (F1 : Fld Z h0 a1 "java/lang/String" "value" "[B" .null) (F2 : Fld Z h0 a1 "java/lang/String" "coder" "B" (.int (0 : Int32))) (E1 : Exa Z h0 a1 "java/lang/String") (g1 : n0 ≤ a1) :
    MetFree l (⟨"java/lang/String", "<init>", "([BB)V"⟩ : MethodName) (head1 (Jvm.Cond.code (⟨"java/lang/String", "<init>", "([BB)V"⟩ : MethodName) jdk_42_method_151_code 3 none :: ws) ({ frames := 1, cells := 0, slots := 0, locals := 12 } : Room)) (fun a U => a = #[(.ref a1), (.ref a2), (.int p1)] ∧ Z.Warmed39 U.vm ∧ U.heap = h0) (fun _ _ _ _ _ => True) (fun _ U o U' => ∃ v L, o = .returned v ∧ Q6 Z a1 a2 p1 h0 n0 v U'.heap L ∧ FrameEnd U o U' L ({ frames := 1, cells := 0, slots := 0, locals := 12 } : Room).cells ({ frames := 1, cells := 0, slots := 0, locals := 12 } : Room).slots) := by
  refine MetFree.of_bodySF (plainFor_of_name pn_6) hisR ?_
  intro p e s m args below meth c s₁ Bd hml0 hP hK
  obtain ⟨rfl, hZ, hh⟩ := hP
  have hx := Bd.exec
  have hby := Bd.bytes
  have hml : c.maxLocals = 3 := hml0
  have hown : s.vm.findClass "java/lang/String" = some m.cls := findClass_of_methodNamed Bd.named
  have hnm := (name_of_methodNamed Bd.named Bd.method).1
  have X0 : Stand p l e ({ frames := 1, cells := 0, slots := 0, locals := 12 } : Room) s m #[(.ref a1), (.ref a2), (.int p1)] below meth c s₁ [] 0 0 := Stand.of_body Bd
  have e0 : s₁.heap = h0 := by rw [← hh, Bd.state]; rfl
  have N0 := Fr.nil n0
  have pre0 : ∀ t, Steps p.tables e below (s₁.setTop (mkF m 0 #[.val (.ref a1), .val (.ref a2), .val (.int p1)] [])) t → Steps p.tables e below (s₁.setTop (entryFrame m #[(.ref a1), (.ref a2), (.int p1)] 3)) t := fun t k => castTop (ef_6 m a1 a2 p1) k
  have KK0 := Keep.refl h0 [a1]
  obtain ⟨T1, X1, e1, st1⟩ := initO X0 hx hZ hown (hw _ (List.mem_of_getElem? (i := 41) rfl)) (hw _ (List.mem_of_getElem? (i := 7) rfl)) (hw _ (List.mem_of_getElem? (i := 8) rfl)) e0 (g := (mkF m 1 #[.val (.ref a1), .val (.ref a2), .val (.int p1)] [(.ref a1)])) rfl (by rw [hml]; rfl) rfl (hb hby d6_1) (by decide) (W := 0) (by show 2 * 0 + _ ≤ _; exact Nat.le_of_eq rfl) (by decide)
  obtain ⟨T2, h2, X2, e2, W2, st2⟩ := putF X1 hx hZ hown (host := "") (Or.inl (hw _ (List.mem_of_getElem? (i := 42) rfl))) Via.refl e1 F1 E1 (Or.inr ⟨(hw _ (List.mem_of_getElem? (i := 43) rfl)), rfl, hnm⟩) (hw _ (List.mem_of_getElem? (i := 32) rfl)) (ty := (.array .byte)) (by decide) rfl rfl (g := (mkF m 6 #[.val (.ref a1), .val (.ref a2), .val (.int p1)] [(.ref a2), (.ref a1)])) rfl rfl (hb hby d6_6)
  have N2 := Fr.snoc X2 N0 g1
  have Fw2 := Fld.same W2 F1
  have F_a1_coder_2 := F2.other W2 (Or.inr (slot_ne (Or.inr (hw _ (List.mem_of_getElem? (i := 45) rfl))) (Or.inr (hw _ (List.mem_of_getElem? (i := 43) rfl))) (by decide) (t := .byte) (t' := (.array .byte)) (by decide) (by decide)))
  have E_a1_2 := E1.wr W2
  have Zs3 := Nat.le_trans Z0 (Keep.of_wr W2).1
  have Kk2 := KK0.wr W2 (Or.inl (List.mem_of_getElem? (i := 0) rfl))
  obtain ⟨T4, h4, X4, e4, W4, st4⟩ := putFN X2 hx hZ hown (hw _ (List.mem_of_getElem? (i := 44) rfl)) Via.refl e2 F_a1_coder_2 E_a1_2 (Or.inr ⟨(hw _ (List.mem_of_getElem? (i := 45) rfl)), rfl, hnm⟩) (hw _ (List.mem_of_getElem? (i := 32) rfl)) (ty := .byte) (v' := (.int (nar .byte p1))) (by decide) rfl (fits_nar_byte _) (g := (mkF m 11 #[.val (.ref a1), .val (.ref a2), .val (.int p1)] [(.int p1), (.ref a1)])) rfl rfl (hb hby d6_11)
  have N4 := Fr.snoc X4 N2 g1
  have Fw4 := Fld.same W4 F_a1_coder_2
  have F_a1_value_4 := Fw2.other W4 (Or.inr (slot_ne (Or.inr (hw _ (List.mem_of_getElem? (i := 43) rfl))) (Or.inr (hw _ (List.mem_of_getElem? (i := 45) rfl))) (by decide) (t := (.array .byte)) (t' := .byte) (by decide) (by decide)))
  have E_a1_4 := E_a1_2.wr W4
  have Zs5 := Nat.le_trans Zs3 (Keep.of_wr W4).1
  have Kk4 := Kk2.wr W4 (Or.inl (List.mem_of_getElem? (i := 0) rfl))
  obtain ⟨fs, hr, hrun, hended, hW, hsame⟩ := X4.leave (v := none) (fun _ => rfl)
  refine ⟨_, _, pre0 _ ?_, hrun, hended, _, _, rfl, ?_, ⟨_, rfl⟩, hW, hsame.mono (by decide) (by decide)⟩
  · show Steps p.tables e below (s₁.setTop (mkF m 0 #[.val (.ref a1), .val (.ref a2), .val (.int p1)] [])) _
    refine XS.aloadN X0.here hx rfl (hb hby d6_0) rfl rfl ?_
    show Steps p.tables e below (s₁.setTop (mkF m 1 #[.val (.ref a1), .val (.ref a2), .val (.int p1)] [(.ref a1)])) _
    refine st1 _ ?_
    show Steps p.tables e below (T1.setTop (mkF m 4 #[.val (.ref a1), .val (.ref a2), .val (.int p1)] [])) _
    refine XS.aloadN X1.here hx rfl (hb hby d6_4) rfl rfl ?_
    show Steps p.tables e below (T1.setTop (mkF m 5 #[.val (.ref a1), .val (.ref a2), .val (.int p1)] [(.ref a1)])) _
    refine XS.aloadN X1.here hx rfl (hb hby d6_5) rfl rfl ?_
    show Steps p.tables e below (T1.setTop (mkF m 6 #[.val (.ref a1), .val (.ref a2), .val (.int p1)] [(.ref a2), (.ref a1)])) _
    refine st2 _ ?_
    show Steps p.tables e below (T2.setTop (mkF m 9 #[.val (.ref a1), .val (.ref a2), .val (.int p1)] [])) _
    refine XS.aloadN X2.here hx rfl (hb hby d6_9) rfl rfl ?_
    show Steps p.tables e below (T2.setTop (mkF m 10 #[.val (.ref a1), .val (.ref a2), .val (.int p1)] [(.ref a1)])) _
    refine XS.iloadN X2.here hx rfl (hb hby d6_10) rfl ?_
    show Steps p.tables e below (T2.setTop (mkF m 11 #[.val (.ref a1), .val (.ref a2), .val (.int p1)] [(.int p1), (.ref a1)])) _
    refine st4 _ ?_
    show Steps p.tables e below (T4.setTop (mkF m 14 #[.val (.ref a1), .val (.ref a2), .val (.int p1)] [])) _
    exact X4.returnOut hx Bd.returns (hb hby d6_14) hr
  · show Q6 Z a1 a2 p1 h0 n0 _ T4.heap _
    rw [e4]
    exact ⟨rfl, N4, Kk4⟩
def Q3 (Z : State) (p1 : Int32) (G1 : Int32) (h0 : Heap) (n0 : Nat) (v : Option Value) (h : Heap) (L : List Loc) : Prop := ∃ ai : Addr, v = some (.ref ai) ∧ Fr n0 L ∧ Keep h0 h []
set_option maxRecDepth 65536 in
set_option maxHeartbeats 40000000 in
theorem rm3 (l : Launch) (Z : State) (a0 : Array Value) (hw : ∀ d ∈ tables_1, d.before a0 Z = true) (ws : List Jvm.Cond) (p1 : Int32) (G1 : Int32) (h0 : Heap) (n0 : Nat) (Z0 : n0 ≤ h0.size) (S1 : Sta Z h0 "java/lang/String" "COMPACT_STRINGS" "Z" (.int G1)) (P5 : ¬ (G1 = (0 : Int32))) (h1 : ¬ (255 : Int32) < p1) :
    MetFree l (⟨"java/lang/String", "valueOf", "(C)Ljava/lang/String;"⟩ : MethodName) (head1 (Jvm.Cond.code (⟨"java/lang/String", "valueOf", "(C)Ljava/lang/String;"⟩ : MethodName) jdk_42_method_139_code 1 (some (.object "java/lang/String")) :: ws) ({ frames := 2, cells := 2, slots := 5, locals := 27 } : Room)) (fun a U => a = #[(.int p1)] ∧ Z.Warmed39 U.vm ∧ U.heap = h0) (fun _ _ _ _ _ => True) (fun _ U o U' => ∃ v L, o = .returned v ∧ Q3 Z p1 G1 h0 n0 v U'.heap L ∧ FrameEnd U o U' L ({ frames := 2, cells := 2, slots := 5, locals := 27 } : Room).cells ({ frames := 2, cells := 2, slots := 5, locals := 27 } : Room).slots) := by
  refine MetFree.of_bodySF (plainFor_of_name pn_3) hisR ?_
  intro p e s m args below meth c s₁ Bd hml0 hP hK
  obtain ⟨rfl, hZ, hh⟩ := hP
  have hx := Bd.exec
  have hby := Bd.bytes
  have hml : c.maxLocals = 1 := hml0
  have hown : s.vm.findClass "java/lang/String" = some m.cls := findClass_of_methodNamed Bd.named
  have hnm := (name_of_methodNamed Bd.named Bd.method).1
  have X0 : Stand p l e ({ frames := 2, cells := 2, slots := 5, locals := 27 } : Room) s m #[(.int p1)] below meth c s₁ [] 0 0 := Stand.of_body Bd
  have e0 : s₁.heap = h0 := by rw [← hh, Bd.state]; rfl
  have N0 := Fr.nil n0
  have pre0 : ∀ t, Steps p.tables e below (s₁.setTop (mkF m 0 #[.val (.int p1)] [])) t → Steps p.tables e below (s₁.setTop (entryFrame m #[(.int p1)] 1)) t := fun t k => castTop (ef_3 m p1) k
  have KK0 := Keep.refl h0 []
  obtain ⟨T1, X1, e1, st1⟩ := getS2 X0 hx hZ hown (host := "") (Or.inl (hw _ (List.mem_of_getElem? (i := 26) rfl))) Via.refl e0 S1 (g := (mkF m 0 #[.val (.int p1)] [])) rfl (hb hby d3_0)
  obtain ⟨_, _, ⟨T2, L2, k2, n2⟩, -, X2, ⟨Lc2, hQ2, l2, y2, z2⟩, st2⟩ := Jvm.LawKit.callS X1 hx (y := (⟨"java/lang/StringLatin1", "canEncode", "(C)Z"⟩ : MethodName)) hown (mvT hZ (hw _ (List.mem_of_getElem? (i := 27) rfl))) (mvT hZ (hw _ (List.mem_of_getElem? (i := 28) rfl))) (mvT hZ (hw _ (List.mem_of_getElem? (i := 29) rfl))) (mvT hZ (hw _ (List.mem_of_getElem? (i := 30) rfl))) (by decide) (backOf (W := 0) (rm4 l Z a0 hw [] p1 h0 n0 Z0 h1) hZ (hw _ (List.mem_of_getElem? (i := 30) rfl)) (hw _ (List.mem_of_getElem? (i := 29) rfl)) (by decide) (by decide)) (g := (mkF m 7 #[.val (.int p1)] [(.int p1)])) rfl (by rw [hml]; rfl) (argsL := [(.int p1)]) (rest := []) (lenOf pd_0 rfl) rfl (by show 2 * 0 + _ ≤ _; exact Nat.le_of_eq rfl) (hb hby d3_7) (fun _ _ => ⟨rfl, e1, (by decide : 0 + 0 ≤ _), (by decide : 0 + 0 ≤ _)⟩)
  dsimp only [Pt.U, Pt.locs, Pt.cells, Pt.slots] at X2 l2 y2 z2 st2 hQ2
  subst l2 y2 z2
  obtain ⟨rfl, N2q, e2q⟩ := hQ2
  have N2 := Fr.app N0 N2q
  obtain ⟨T3, h3, X3, e3, E3, A3, D3, -, st3⟩ := newO X2 hx hZ hown (hw _ (List.mem_of_getElem? (i := 31) rfl)) (hw _ (List.mem_of_getElem? (i := 32) rfl)) (hw _ (List.mem_of_getElem? (i := 24) rfl)) e2q (g := (mkF m 13 #[.val (.int p1)] [])) rfl (hb hby d3_13) (by decide) (by decide)
  obtain ⟨b3, g3⟩ : ∃ z, z = h0.size := ⟨_, rfl⟩
  rw [← g3] at A3 D3 st3
  have g_b3 : n0 ≤ b3 := Nat.le_trans Z0 (Nat.le_of_eq g3.symm)
  have sz_b3 : h0.size ≤ b3 := Nat.le_trans KK0.1 (Nat.le_of_eq g3.symm)
  have Zs4 := Nat.le_trans Z0 E3.1
  have Kk3 := KK0.ext E3
  have F_value_b3 : Fld Z h3 b3 "java/lang/String" "value" "[B" .null := D3 (Or.inr (hw _ (List.mem_of_getElem? (i := 43) rfl))) (ty := (.array .byte)) (by decide)
  have F_coder_b3 : Fld Z h3 b3 "java/lang/String" "coder" "B" (.int (0 : Int32)) := D3 (Or.inr (hw _ (List.mem_of_getElem? (i := 45) rfl))) (ty := .byte) (by decide)
  obtain ⟨_, _, ⟨T5, L5, k5, n5⟩, -, X5, ⟨Lc5, hQ5, l5, y5, z5⟩, st5⟩ := Jvm.LawKit.callS X3 hx (y := (⟨"java/lang/StringLatin1", "toBytes", "(C)[B"⟩ : MethodName)) hown (mvT hZ (hw _ (List.mem_of_getElem? (i := 33) rfl))) (mvT hZ (hw _ (List.mem_of_getElem? (i := 34) rfl))) (mvT hZ (hw _ (List.mem_of_getElem? (i := 29) rfl))) (mvT hZ (hw _ (List.mem_of_getElem? (i := 35) rfl))) (by decide) (backOf (W := 2) (rm5 l Z a0 hw [] p1 h3 n0 Zs4) hZ (hw _ (List.mem_of_getElem? (i := 35) rfl)) (hw _ (List.mem_of_getElem? (i := 29) rfl)) (by decide) (by decide)) (g := (mkF m 18 #[.val (.int p1)] [(.int p1), (.ref b3), (.ref b3)])) rfl (by rw [hml]; rfl) (argsL := [(.int p1)]) (rest := [(.ref b3), (.ref b3)]) (lenOf pd_1 rfl) rfl (by show 2 * 0 + _ ≤ _; exact Nat.le_of_eq rfl) (hb hby d3_18) (fun _ _ => ⟨rfl, e3, (by decide : 1 + 1 ≤ _), (by decide : 4 + 1 ≤ _)⟩)
  dsimp only [Pt.U, Pt.locs, Pt.cells, Pt.slots] at X5 l5 y5 z5 st5 hQ5
  subst l5 y5 z5
  obtain ⟨bi, rfl, N5q, K5q, gbi⟩ := hQ5
  have N5 := Fr.app N2 N5q
  have F_b3_value_5 := F_value_b3.keep K5q nin0
  have F_b3_coder_5 := F_coder_b3.keep K5q nin0
  have E_b3_5 := A3.keep K5q
  have Zs6 := Nat.le_trans Zs4 K5q.1
  have Kk5 := Kk3.trans K5q all0
  obtain ⟨_, _, ⟨T7, L7, k7, n7⟩, -, X7, ⟨Lc7, hQ7, l7, y7, z7⟩, st7⟩ := X5.specialBack hx (y := (⟨"java/lang/String", "<init>", "([BB)V"⟩ : MethodName)) rfl hown (mvT hZ (hw _ (List.mem_of_getElem? (i := 37) rfl))) (mvT hZ (hw _ (List.mem_of_getElem? (i := 38) rfl))) (mvT hZ (hw _ (List.mem_of_getElem? (i := 40) rfl))) (by decide) (backOf (W := 1) (rm6 l Z a0 hw [] b3 bi (0 : Int32) T5.heap n0 Zs6 F_b3_value_5 F_b3_coder_5 E_b3_5 g_b3) hZ (hw _ (List.mem_of_getElem? (i := 40) rfl)) (hw _ (List.mem_of_getElem? (i := 24) rfl)) (by decide) (by decide)) (g := (mkF m 22 #[.val (.int p1)] [(.int (0 : Int32)), (.ref bi), (.ref b3), (.ref b3)])) rfl (by rw [hml]; rfl) (Steps.refl _) (a := b3) (argsL := [(.ref bi), (.int (0 : Int32))]) (rest := [(.ref b3)]) (lenOf pd_2 rfl) rfl (by show 2 * 0 + _ ≤ _; exact Nat.le_of_eq rfl) (hb hby d3_22) (fun _ _ => ⟨rfl, rfl, (by decide : 2 + 0 ≤ _), (by decide : 5 + 0 ≤ _)⟩)
  dsimp only [Pt.U, Pt.locs, Pt.cells, Pt.slots] at X7 l7 y7 z7 st7 hQ7
  subst l7 y7 z7
  obtain ⟨rfl, N7q, K7q⟩ := hQ7
  have N7 := Fr.app N5 N7q
  have E_b3_7 := E_b3_5.keep K7q
  have Zs8 := Nat.le_trans Zs6 K7q.1
  have Kk7 := Kk5.trans K7q (allS (Or.inr sz_b3) all0)
  obtain ⟨fs, hr, hrun, hended, hW, hsame⟩ := X7.leave (v := some (.ref b3)) (fun h => by rw [Bd.returns] at h; cases h)
  refine ⟨_, _, pre0 _ ?_, hrun, hended, _, _, rfl, ?_, ⟨_, rfl⟩, hW, hsame.mono (by decide) (by decide)⟩
  · show Steps p.tables e below (s₁.setTop (mkF m 0 #[.val (.int p1)] [])) _
    refine st1 _ ?_
    show Steps p.tables e below (T1.setTop (mkF m 3 #[.val (.int p1)] [(.int G1)])) _
    refine XS.ifNo X1.here hx rfl (hb hby d3_3) rfl ((if0 _ _).trans (feq P5).1) ?_
    show Steps p.tables e below (T1.setTop (mkF m 6 #[.val (.int p1)] [])) _
    refine XS.iloadN X1.here hx rfl (hb hby d3_6) rfl ?_
    show Steps p.tables e below (T1.setTop (mkF m 7 #[.val (.int p1)] [(.int p1)])) _
    refine st2 _ ?_
    show Steps p.tables e below (T2.setTop (mkF m 10 #[.val (.int p1)] [(.int (1 : Int32))])) _
    refine XS.ifNo X2.here hx rfl (hb hby d3_10) rfl ((if0 _ _).trans (feq (by decide : ¬ ((1 : Int32) = (0 : Int32)))).1) ?_
    show Steps p.tables e below (T2.setTop (mkF m 13 #[.val (.int p1)] [])) _
    refine st3 _ ?_
    show Steps p.tables e below (T3.setTop (mkF m 16 #[.val (.int p1)] [(.ref b3)])) _
    refine XS.dup X3.here hx rfl (hb hby d3_16) rfl rfl ?_
    show Steps p.tables e below (T3.setTop (mkF m 17 #[.val (.int p1)] [(.ref b3), (.ref b3)])) _
    refine XS.iloadN X3.here hx rfl (hb hby d3_17) rfl ?_
    show Steps p.tables e below (T3.setTop (mkF m 18 #[.val (.int p1)] [(.int p1), (.ref b3), (.ref b3)])) _
    refine st5 _ ?_
    show Steps p.tables e below (T5.setTop (mkF m 21 #[.val (.int p1)] [(.ref bi), (.ref b3), (.ref b3)])) _
    refine XS.iconst X5.here hx rfl (hb hby d3_21) ?_
    show Steps p.tables e below (T5.setTop (mkF m 22 #[.val (.int p1)] [(.int (0 : Int32)), (.ref bi), (.ref b3), (.ref b3)])) _
    refine st7.trans ?_
    show Steps p.tables e below (T7.setTop (mkF m 25 #[.val (.int p1)] [(.ref b3)])) _
    exact retOut X7 hx Bd.returns rfl (Or.inr (Or.inr (Or.inr (Or.inr ⟨rfl, rfl, rfl⟩)))) (hb hby d3_25) hr
  · show Q3 Z p1 G1 h0 n0 _ T7.heap _
    exact ⟨_, rfl, N7, Kk7⟩
def Q12rr (Z : State) (a1 a2 a3 a4 : Addr) (h0 : Heap) (n0 : Nat) (v : Option Value) (h : Heap) (L : List Loc) : Prop := v = none ∧ Fr n0 L ∧ Keep h0 h [a1]
set_option maxRecDepth 65536 in
set_option maxHeartbeats 40000000 in
theorem rm12rr (l : Launch) (Z : State) (a0 : Array Value) (hw : ∀ d ∈ tables_1, d.before a0 Z = true) (ws : List Jvm.Cond) (a1 a2 a3 a4 : Addr) (h0 : Heap) (n0 : Nat) (Z0 : n0 ≤ h0.size) (F0 : Fld Z h0 a1 "com/example/governor/governor/core/FieldChange" "field" "Ljava/lang/String;" .null) (F1 : Fld Z h0 a1 "com/example/governor/governor/core/FieldChange" "before" "Ljava/lang/String;" .null) (F2 : Fld Z h0 a1 "com/example/governor/governor/core/FieldChange" "after" "Ljava/lang/String;" .null) (E1 : Exa Z h0 a1 "com/example/governor/governor/core/FieldChange") (g1 : n0 ≤ a1) :
    MetFree l (⟨"com/example/governor/governor/core/FieldChange", "<init>", "(Ljava/lang/String;Ljava/lang/String;Ljava/lang/String;)V"⟩ : MethodName) (head1 (Jvm.Cond.code (⟨"com/example/governor/governor/core/FieldChange", "<init>", "(Ljava/lang/String;Ljava/lang/String;Ljava/lang/String;)V"⟩ : MethodName) prog_12_method_1_code 4 none :: ws) ({ frames := 1, cells := 0, slots := 0, locals := 12 } : Room)) (fun a U => a = #[(.ref a1), (.ref a2), (.ref a3), (.ref a4)] ∧ Z.Warmed39 U.vm ∧ U.heap = h0) (fun _ _ _ _ _ => True) (fun _ U o U' => ∃ v L, o = .returned v ∧ Q12rr Z a1 a2 a3 a4 h0 n0 v U'.heap L ∧ FrameEnd U o U' L ({ frames := 1, cells := 0, slots := 0, locals := 12 } : Room).cells ({ frames := 1, cells := 0, slots := 0, locals := 12 } : Room).slots) := by
  refine MetFree.of_bodySF (plainFor_of_name pn_12) hisR ?_
  intro p e s m args below meth c s₁ Bd hml0 hP hK
  obtain ⟨rfl, hZ, hh⟩ := hP
  have hx := Bd.exec
  have hby := Bd.bytes
  have hml : c.maxLocals = 4 := hml0
  have hown : s.vm.findClass "com/example/governor/governor/core/FieldChange" = some m.cls := findClass_of_methodNamed Bd.named
  have hnm := (name_of_methodNamed Bd.named Bd.method).1
  have X0 : Stand p l e ({ frames := 1, cells := 0, slots := 0, locals := 12 } : Room) s m #[(.ref a1), (.ref a2), (.ref a3), (.ref a4)] below meth c s₁ [] 0 0 := Stand.of_body Bd
  have e0 : s₁.heap = h0 := by rw [← hh, Bd.state]; rfl
  have N0 := Fr.nil n0
  have pre0 : ∀ t, Steps p.tables e below (s₁.setTop (mkF m 0 #[.val (.ref a1), .val (.ref a2), .val (.ref a3), .val (.ref a4)] [])) t → Steps p.tables e below (s₁.setTop (entryFrame m #[(.ref a1), (.ref a2), (.ref a3), (.ref a4)] 4)) t := fun t k => castTop (ef_12rr m a1 a2 a3 a4) k
  have KK0 := Keep.refl h0 [a1]
  obtain ⟨T1, X1, e1, st1⟩ := initO X0 hx hZ hown (hw _ (List.mem_of_getElem? (i := 69) rfl)) (hw _ (List.mem_of_getElem? (i := 7) rfl)) (hw _ (List.mem_of_getElem? (i := 8) rfl)) e0 (g := (mkF m 1 #[.val (.ref a1), .val (.ref a2), .val (.ref a3), .val (.ref a4)] [(.ref a1)])) rfl (by rw [hml]; rfl) rfl (hb hby d12_1) (by decide) (W := 0) (by show 2 * 0 + _ ≤ _; exact Nat.le_of_eq rfl) (by decide)
  obtain ⟨T2, h2, X2, e2, W2, st2⟩ := putF X1 hx hZ hown (host := "") (Or.inl (hw _ (List.mem_of_getElem? (i := 70) rfl))) Via.refl e1 F0 E1 (Or.inr ⟨(hw _ (List.mem_of_getElem? (i := 71) rfl)), rfl, hnm⟩) (hw _ (List.mem_of_getElem? (i := 47) rfl)) (ty := (.object "java/lang/String")) (by decide) rfl rfl (g := (mkF m 6 #[.val (.ref a1), .val (.ref a2), .val (.ref a3), .val (.ref a4)] [(.ref a2), (.ref a1)])) rfl rfl (hb hby d12_6)
  have N2 := Fr.snoc X2 N0 g1
  have Fw2 := Fld.same W2 F0
  have F_a1_before_2 := F1.other W2 (Or.inr (slot_ne (Or.inr (hw _ (List.mem_of_getElem? (i := 73) rfl))) (Or.inr (hw _ (List.mem_of_getElem? (i := 71) rfl))) (by decide) (t := (.object "java/lang/String")) (t' := (.object "java/lang/String")) (by decide) (by decide)))
  have F_a1_after_2 := F2.other W2 (Or.inr (slot_ne (Or.inr (hw _ (List.mem_of_getElem? (i := 75) rfl))) (Or.inr (hw _ (List.mem_of_getElem? (i := 71) rfl))) (by decide) (t := (.object "java/lang/String")) (t' := (.object "java/lang/String")) (by decide) (by decide)))
  have E_a1_2 := E1.wr W2
  have Zs3 := Nat.le_trans Z0 (Keep.of_wr W2).1
  have Kk2 := KK0.wr W2 (Or.inl (List.mem_of_getElem? (i := 0) rfl))
  obtain ⟨T4, h4, X4, e4, W4, st4⟩ := putF X2 hx hZ hown (host := "") (Or.inl (hw _ (List.mem_of_getElem? (i := 72) rfl))) Via.refl e2 F_a1_before_2 E_a1_2 (Or.inr ⟨(hw _ (List.mem_of_getElem? (i := 73) rfl)), rfl, hnm⟩) (hw _ (List.mem_of_getElem? (i := 47) rfl)) (ty := (.object "java/lang/String")) (by decide) rfl rfl (g := (mkF m 11 #[.val (.ref a1), .val (.ref a2), .val (.ref a3), .val (.ref a4)] [(.ref a3), (.ref a1)])) rfl rfl (hb hby d12_11)
  have N4 := Fr.snoc X4 N2 g1
  have Fw4 := Fld.same W4 F_a1_before_2
  have F_a1_field_4 := Fw2.other W4 (Or.inr (slot_ne (Or.inr (hw _ (List.mem_of_getElem? (i := 71) rfl))) (Or.inr (hw _ (List.mem_of_getElem? (i := 73) rfl))) (by decide) (t := (.object "java/lang/String")) (t' := (.object "java/lang/String")) (by decide) (by decide)))
  have F_a1_after_4 := F_a1_after_2.other W4 (Or.inr (slot_ne (Or.inr (hw _ (List.mem_of_getElem? (i := 75) rfl))) (Or.inr (hw _ (List.mem_of_getElem? (i := 73) rfl))) (by decide) (t := (.object "java/lang/String")) (t' := (.object "java/lang/String")) (by decide) (by decide)))
  have E_a1_4 := E_a1_2.wr W4
  have Zs5 := Nat.le_trans Zs3 (Keep.of_wr W4).1
  have Kk4 := Kk2.wr W4 (Or.inl (List.mem_of_getElem? (i := 0) rfl))
  obtain ⟨T6, h6, X6, e6, W6, st6⟩ := putF X4 hx hZ hown (host := "") (Or.inl (hw _ (List.mem_of_getElem? (i := 74) rfl))) Via.refl e4 F_a1_after_4 E_a1_4 (Or.inr ⟨(hw _ (List.mem_of_getElem? (i := 75) rfl)), rfl, hnm⟩) (hw _ (List.mem_of_getElem? (i := 47) rfl)) (ty := (.object "java/lang/String")) (by decide) rfl rfl (g := (mkF m 16 #[.val (.ref a1), .val (.ref a2), .val (.ref a3), .val (.ref a4)] [(.ref a4), (.ref a1)])) rfl rfl (hb hby d12_16)
  have N6 := Fr.snoc X6 N4 g1
  have Fw6 := Fld.same W6 F_a1_after_4
  have F_a1_field_6 := F_a1_field_4.other W6 (Or.inr (slot_ne (Or.inr (hw _ (List.mem_of_getElem? (i := 71) rfl))) (Or.inr (hw _ (List.mem_of_getElem? (i := 75) rfl))) (by decide) (t := (.object "java/lang/String")) (t' := (.object "java/lang/String")) (by decide) (by decide)))
  have F_a1_before_6 := Fw4.other W6 (Or.inr (slot_ne (Or.inr (hw _ (List.mem_of_getElem? (i := 73) rfl))) (Or.inr (hw _ (List.mem_of_getElem? (i := 75) rfl))) (by decide) (t := (.object "java/lang/String")) (t' := (.object "java/lang/String")) (by decide) (by decide)))
  have E_a1_6 := E_a1_4.wr W6
  have Zs7 := Nat.le_trans Zs5 (Keep.of_wr W6).1
  have Kk6 := Kk4.wr W6 (Or.inl (List.mem_of_getElem? (i := 0) rfl))
  obtain ⟨fs, hr, hrun, hended, hW, hsame⟩ := X6.leave (v := none) (fun _ => rfl)
  refine ⟨_, _, pre0 _ ?_, hrun, hended, _, _, rfl, ?_, ⟨_, rfl⟩, hW, hsame.mono (by decide) (by decide)⟩
  · show Steps p.tables e below (s₁.setTop (mkF m 0 #[.val (.ref a1), .val (.ref a2), .val (.ref a3), .val (.ref a4)] [])) _
    refine XS.aloadN X0.here hx rfl (hb hby d12_0) rfl rfl ?_
    show Steps p.tables e below (s₁.setTop (mkF m 1 #[.val (.ref a1), .val (.ref a2), .val (.ref a3), .val (.ref a4)] [(.ref a1)])) _
    refine st1 _ ?_
    show Steps p.tables e below (T1.setTop (mkF m 4 #[.val (.ref a1), .val (.ref a2), .val (.ref a3), .val (.ref a4)] [])) _
    refine XS.aloadN X1.here hx rfl (hb hby d12_4) rfl rfl ?_
    show Steps p.tables e below (T1.setTop (mkF m 5 #[.val (.ref a1), .val (.ref a2), .val (.ref a3), .val (.ref a4)] [(.ref a1)])) _
    refine XS.aloadN X1.here hx rfl (hb hby d12_5) rfl rfl ?_
    show Steps p.tables e below (T1.setTop (mkF m 6 #[.val (.ref a1), .val (.ref a2), .val (.ref a3), .val (.ref a4)] [(.ref a2), (.ref a1)])) _
    refine st2 _ ?_
    show Steps p.tables e below (T2.setTop (mkF m 9 #[.val (.ref a1), .val (.ref a2), .val (.ref a3), .val (.ref a4)] [])) _
    refine XS.aloadN X2.here hx rfl (hb hby d12_9) rfl rfl ?_
    show Steps p.tables e below (T2.setTop (mkF m 10 #[.val (.ref a1), .val (.ref a2), .val (.ref a3), .val (.ref a4)] [(.ref a1)])) _
    refine XS.aloadN X2.here hx rfl (hb hby d12_10) rfl rfl ?_
    show Steps p.tables e below (T2.setTop (mkF m 11 #[.val (.ref a1), .val (.ref a2), .val (.ref a3), .val (.ref a4)] [(.ref a3), (.ref a1)])) _
    refine st4 _ ?_
    show Steps p.tables e below (T4.setTop (mkF m 14 #[.val (.ref a1), .val (.ref a2), .val (.ref a3), .val (.ref a4)] [])) _
    refine XS.aloadN X4.here hx rfl (hb hby d12_14) rfl rfl ?_
    show Steps p.tables e below (T4.setTop (mkF m 15 #[.val (.ref a1), .val (.ref a2), .val (.ref a3), .val (.ref a4)] [(.ref a1)])) _
    refine XS.aloadN X4.here hx rfl (hb hby d12_15) rfl rfl ?_
    show Steps p.tables e below (T4.setTop (mkF m 16 #[.val (.ref a1), .val (.ref a2), .val (.ref a3), .val (.ref a4)] [(.ref a4), (.ref a1)])) _
    refine st6 _ ?_
    show Steps p.tables e below (T6.setTop (mkF m 19 #[.val (.ref a1), .val (.ref a2), .val (.ref a3), .val (.ref a4)] [])) _
    exact X6.returnOut hx Bd.returns (hb hby d12_19) hr
  · show Q12rr Z a1 a2 a3 a4 h0 n0 _ T6.heap _
    rw [e6]
    exact ⟨rfl, N6, Kk6⟩
def Q12rn (Z : State) (a1 a2 a3 : Addr) (h0 : Heap) (n0 : Nat) (v : Option Value) (h : Heap) (L : List Loc) : Prop := v = none ∧ Fr n0 L ∧ Keep h0 h [a1]
set_option maxRecDepth 65536 in
set_option maxHeartbeats 40000000 in
theorem rm12rn (l : Launch) (Z : State) (a0 : Array Value) (hw : ∀ d ∈ tables_1, d.before a0 Z = true) (ws : List Jvm.Cond) (a1 a2 a3 : Addr) (h0 : Heap) (n0 : Nat) (Z0 : n0 ≤ h0.size) (F0 : Fld Z h0 a1 "com/example/governor/governor/core/FieldChange" "field" "Ljava/lang/String;" .null) (F1 : Fld Z h0 a1 "com/example/governor/governor/core/FieldChange" "before" "Ljava/lang/String;" .null) (F2 : Fld Z h0 a1 "com/example/governor/governor/core/FieldChange" "after" "Ljava/lang/String;" .null) (E1 : Exa Z h0 a1 "com/example/governor/governor/core/FieldChange") (g1 : n0 ≤ a1) :
    MetFree l (⟨"com/example/governor/governor/core/FieldChange", "<init>", "(Ljava/lang/String;Ljava/lang/String;Ljava/lang/String;)V"⟩ : MethodName) (head1 (Jvm.Cond.code (⟨"com/example/governor/governor/core/FieldChange", "<init>", "(Ljava/lang/String;Ljava/lang/String;Ljava/lang/String;)V"⟩ : MethodName) prog_12_method_1_code 4 none :: ws) ({ frames := 1, cells := 0, slots := 0, locals := 12 } : Room)) (fun a U => a = #[(.ref a1), (.ref a2), (.ref a3), .null] ∧ Z.Warmed39 U.vm ∧ U.heap = h0) (fun _ _ _ _ _ => True) (fun _ U o U' => ∃ v L, o = .returned v ∧ Q12rn Z a1 a2 a3 h0 n0 v U'.heap L ∧ FrameEnd U o U' L ({ frames := 1, cells := 0, slots := 0, locals := 12 } : Room).cells ({ frames := 1, cells := 0, slots := 0, locals := 12 } : Room).slots) := by
  refine MetFree.of_bodySF (plainFor_of_name pn_12) hisR ?_
  intro p e s m args below meth c s₁ Bd hml0 hP hK
  obtain ⟨rfl, hZ, hh⟩ := hP
  have hx := Bd.exec
  have hby := Bd.bytes
  have hml : c.maxLocals = 4 := hml0
  have hown : s.vm.findClass "com/example/governor/governor/core/FieldChange" = some m.cls := findClass_of_methodNamed Bd.named
  have hnm := (name_of_methodNamed Bd.named Bd.method).1
  have X0 : Stand p l e ({ frames := 1, cells := 0, slots := 0, locals := 12 } : Room) s m #[(.ref a1), (.ref a2), (.ref a3), .null] below meth c s₁ [] 0 0 := Stand.of_body Bd
  have e0 : s₁.heap = h0 := by rw [← hh, Bd.state]; rfl
  have N0 := Fr.nil n0
  have pre0 : ∀ t, Steps p.tables e below (s₁.setTop (mkF m 0 #[.val (.ref a1), .val (.ref a2), .val (.ref a3), .val .null] [])) t → Steps p.tables e below (s₁.setTop (entryFrame m #[(.ref a1), (.ref a2), (.ref a3), .null] 4)) t := fun t k => castTop (ef_12rn m a1 a2 a3) k
  have KK0 := Keep.refl h0 [a1]
  obtain ⟨T1, X1, e1, st1⟩ := initO X0 hx hZ hown (hw _ (List.mem_of_getElem? (i := 69) rfl)) (hw _ (List.mem_of_getElem? (i := 7) rfl)) (hw _ (List.mem_of_getElem? (i := 8) rfl)) e0 (g := (mkF m 1 #[.val (.ref a1), .val (.ref a2), .val (.ref a3), .val .null] [(.ref a1)])) rfl (by rw [hml]; rfl) rfl (hb hby d12_1) (by decide) (W := 0) (by show 2 * 0 + _ ≤ _; exact Nat.le_of_eq rfl) (by decide)
  obtain ⟨T2, h2, X2, e2, W2, st2⟩ := putF X1 hx hZ hown (host := "") (Or.inl (hw _ (List.mem_of_getElem? (i := 70) rfl))) Via.refl e1 F0 E1 (Or.inr ⟨(hw _ (List.mem_of_getElem? (i := 71) rfl)), rfl, hnm⟩) (hw _ (List.mem_of_getElem? (i := 47) rfl)) (ty := (.object "java/lang/String")) (by decide) rfl rfl (g := (mkF m 6 #[.val (.ref a1), .val (.ref a2), .val (.ref a3), .val .null] [(.ref a2), (.ref a1)])) rfl rfl (hb hby d12_6)
  have N2 := Fr.snoc X2 N0 g1
  have Fw2 := Fld.same W2 F0
  have F_a1_before_2 := F1.other W2 (Or.inr (slot_ne (Or.inr (hw _ (List.mem_of_getElem? (i := 73) rfl))) (Or.inr (hw _ (List.mem_of_getElem? (i := 71) rfl))) (by decide) (t := (.object "java/lang/String")) (t' := (.object "java/lang/String")) (by decide) (by decide)))
  have F_a1_after_2 := F2.other W2 (Or.inr (slot_ne (Or.inr (hw _ (List.mem_of_getElem? (i := 75) rfl))) (Or.inr (hw _ (List.mem_of_getElem? (i := 71) rfl))) (by decide) (t := (.object "java/lang/String")) (t' := (.object "java/lang/String")) (by decide) (by decide)))
  have E_a1_2 := E1.wr W2
  have Zs3 := Nat.le_trans Z0 (Keep.of_wr W2).1
  have Kk2 := KK0.wr W2 (Or.inl (List.mem_of_getElem? (i := 0) rfl))
  obtain ⟨T4, h4, X4, e4, W4, st4⟩ := putF X2 hx hZ hown (host := "") (Or.inl (hw _ (List.mem_of_getElem? (i := 72) rfl))) Via.refl e2 F_a1_before_2 E_a1_2 (Or.inr ⟨(hw _ (List.mem_of_getElem? (i := 73) rfl)), rfl, hnm⟩) (hw _ (List.mem_of_getElem? (i := 47) rfl)) (ty := (.object "java/lang/String")) (by decide) rfl rfl (g := (mkF m 11 #[.val (.ref a1), .val (.ref a2), .val (.ref a3), .val .null] [(.ref a3), (.ref a1)])) rfl rfl (hb hby d12_11)
  have N4 := Fr.snoc X4 N2 g1
  have Fw4 := Fld.same W4 F_a1_before_2
  have F_a1_field_4 := Fw2.other W4 (Or.inr (slot_ne (Or.inr (hw _ (List.mem_of_getElem? (i := 71) rfl))) (Or.inr (hw _ (List.mem_of_getElem? (i := 73) rfl))) (by decide) (t := (.object "java/lang/String")) (t' := (.object "java/lang/String")) (by decide) (by decide)))
  have F_a1_after_4 := F_a1_after_2.other W4 (Or.inr (slot_ne (Or.inr (hw _ (List.mem_of_getElem? (i := 75) rfl))) (Or.inr (hw _ (List.mem_of_getElem? (i := 73) rfl))) (by decide) (t := (.object "java/lang/String")) (t' := (.object "java/lang/String")) (by decide) (by decide)))
  have E_a1_4 := E_a1_2.wr W4
  have Zs5 := Nat.le_trans Zs3 (Keep.of_wr W4).1
  have Kk4 := Kk2.wr W4 (Or.inl (List.mem_of_getElem? (i := 0) rfl))
  obtain ⟨T6, h6, X6, e6, W6, st6⟩ := putF X4 hx hZ hown (host := "") (Or.inl (hw _ (List.mem_of_getElem? (i := 74) rfl))) Via.refl e4 F_a1_after_4 E_a1_4 (Or.inr ⟨(hw _ (List.mem_of_getElem? (i := 75) rfl)), rfl, hnm⟩) (hw _ (List.mem_of_getElem? (i := 47) rfl)) (ty := (.object "java/lang/String")) (by decide) rfl rfl (g := (mkF m 16 #[.val (.ref a1), .val (.ref a2), .val (.ref a3), .val .null] [.null, (.ref a1)])) rfl rfl (hb hby d12_16)
  have N6 := Fr.snoc X6 N4 g1
  have Fw6 := Fld.same W6 F_a1_after_4
  have F_a1_field_6 := F_a1_field_4.other W6 (Or.inr (slot_ne (Or.inr (hw _ (List.mem_of_getElem? (i := 71) rfl))) (Or.inr (hw _ (List.mem_of_getElem? (i := 75) rfl))) (by decide) (t := (.object "java/lang/String")) (t' := (.object "java/lang/String")) (by decide) (by decide)))
  have F_a1_before_6 := Fw4.other W6 (Or.inr (slot_ne (Or.inr (hw _ (List.mem_of_getElem? (i := 73) rfl))) (Or.inr (hw _ (List.mem_of_getElem? (i := 75) rfl))) (by decide) (t := (.object "java/lang/String")) (t' := (.object "java/lang/String")) (by decide) (by decide)))
  have E_a1_6 := E_a1_4.wr W6
  have Zs7 := Nat.le_trans Zs5 (Keep.of_wr W6).1
  have Kk6 := Kk4.wr W6 (Or.inl (List.mem_of_getElem? (i := 0) rfl))
  obtain ⟨fs, hr, hrun, hended, hW, hsame⟩ := X6.leave (v := none) (fun _ => rfl)
  refine ⟨_, _, pre0 _ ?_, hrun, hended, _, _, rfl, ?_, ⟨_, rfl⟩, hW, hsame.mono (by decide) (by decide)⟩
  · show Steps p.tables e below (s₁.setTop (mkF m 0 #[.val (.ref a1), .val (.ref a2), .val (.ref a3), .val .null] [])) _
    refine XS.aloadN X0.here hx rfl (hb hby d12_0) rfl rfl ?_
    show Steps p.tables e below (s₁.setTop (mkF m 1 #[.val (.ref a1), .val (.ref a2), .val (.ref a3), .val .null] [(.ref a1)])) _
    refine st1 _ ?_
    show Steps p.tables e below (T1.setTop (mkF m 4 #[.val (.ref a1), .val (.ref a2), .val (.ref a3), .val .null] [])) _
    refine XS.aloadN X1.here hx rfl (hb hby d12_4) rfl rfl ?_
    show Steps p.tables e below (T1.setTop (mkF m 5 #[.val (.ref a1), .val (.ref a2), .val (.ref a3), .val .null] [(.ref a1)])) _
    refine XS.aloadN X1.here hx rfl (hb hby d12_5) rfl rfl ?_
    show Steps p.tables e below (T1.setTop (mkF m 6 #[.val (.ref a1), .val (.ref a2), .val (.ref a3), .val .null] [(.ref a2), (.ref a1)])) _
    refine st2 _ ?_
    show Steps p.tables e below (T2.setTop (mkF m 9 #[.val (.ref a1), .val (.ref a2), .val (.ref a3), .val .null] [])) _
    refine XS.aloadN X2.here hx rfl (hb hby d12_9) rfl rfl ?_
    show Steps p.tables e below (T2.setTop (mkF m 10 #[.val (.ref a1), .val (.ref a2), .val (.ref a3), .val .null] [(.ref a1)])) _
    refine XS.aloadN X2.here hx rfl (hb hby d12_10) rfl rfl ?_
    show Steps p.tables e below (T2.setTop (mkF m 11 #[.val (.ref a1), .val (.ref a2), .val (.ref a3), .val .null] [(.ref a3), (.ref a1)])) _
    refine st4 _ ?_
    show Steps p.tables e below (T4.setTop (mkF m 14 #[.val (.ref a1), .val (.ref a2), .val (.ref a3), .val .null] [])) _
    refine XS.aloadN X4.here hx rfl (hb hby d12_14) rfl rfl ?_
    show Steps p.tables e below (T4.setTop (mkF m 15 #[.val (.ref a1), .val (.ref a2), .val (.ref a3), .val .null] [(.ref a1)])) _
    refine XS.aloadN X4.here hx rfl (hb hby d12_15) rfl rfl ?_
    show Steps p.tables e below (T4.setTop (mkF m 16 #[.val (.ref a1), .val (.ref a2), .val (.ref a3), .val .null] [.null, (.ref a1)])) _
    refine st6 _ ?_
    show Steps p.tables e below (T6.setTop (mkF m 19 #[.val (.ref a1), .val (.ref a2), .val (.ref a3), .val .null] [])) _
    exact X6.returnOut hx Bd.returns (hb hby d12_19) hr
  · show Q12rn Z a1 a2 a3 h0 n0 _ T6.heap _
    rw [e6]
    exact ⟨rfl, N6, Kk6⟩
def Q12nr (Z : State) (a1 a2 a4 : Addr) (h0 : Heap) (n0 : Nat) (v : Option Value) (h : Heap) (L : List Loc) : Prop := v = none ∧ Fr n0 L ∧ Keep h0 h [a1]
set_option maxRecDepth 65536 in
set_option maxHeartbeats 40000000 in
theorem rm12nr (l : Launch) (Z : State) (a0 : Array Value) (hw : ∀ d ∈ tables_1, d.before a0 Z = true) (ws : List Jvm.Cond) (a1 a2 a4 : Addr) (h0 : Heap) (n0 : Nat) (Z0 : n0 ≤ h0.size) (F0 : Fld Z h0 a1 "com/example/governor/governor/core/FieldChange" "field" "Ljava/lang/String;" .null) (F1 : Fld Z h0 a1 "com/example/governor/governor/core/FieldChange" "before" "Ljava/lang/String;" .null) (F2 : Fld Z h0 a1 "com/example/governor/governor/core/FieldChange" "after" "Ljava/lang/String;" .null) (E1 : Exa Z h0 a1 "com/example/governor/governor/core/FieldChange") (g1 : n0 ≤ a1) :
    MetFree l (⟨"com/example/governor/governor/core/FieldChange", "<init>", "(Ljava/lang/String;Ljava/lang/String;Ljava/lang/String;)V"⟩ : MethodName) (head1 (Jvm.Cond.code (⟨"com/example/governor/governor/core/FieldChange", "<init>", "(Ljava/lang/String;Ljava/lang/String;Ljava/lang/String;)V"⟩ : MethodName) prog_12_method_1_code 4 none :: ws) ({ frames := 1, cells := 0, slots := 0, locals := 12 } : Room)) (fun a U => a = #[(.ref a1), (.ref a2), .null, (.ref a4)] ∧ Z.Warmed39 U.vm ∧ U.heap = h0) (fun _ _ _ _ _ => True) (fun _ U o U' => ∃ v L, o = .returned v ∧ Q12nr Z a1 a2 a4 h0 n0 v U'.heap L ∧ FrameEnd U o U' L ({ frames := 1, cells := 0, slots := 0, locals := 12 } : Room).cells ({ frames := 1, cells := 0, slots := 0, locals := 12 } : Room).slots) := by
  refine MetFree.of_bodySF (plainFor_of_name pn_12) hisR ?_
  intro p e s m args below meth c s₁ Bd hml0 hP hK
  obtain ⟨rfl, hZ, hh⟩ := hP
  have hx := Bd.exec
  have hby := Bd.bytes
  have hml : c.maxLocals = 4 := hml0
  have hown : s.vm.findClass "com/example/governor/governor/core/FieldChange" = some m.cls := findClass_of_methodNamed Bd.named
  have hnm := (name_of_methodNamed Bd.named Bd.method).1
  have X0 : Stand p l e ({ frames := 1, cells := 0, slots := 0, locals := 12 } : Room) s m #[(.ref a1), (.ref a2), .null, (.ref a4)] below meth c s₁ [] 0 0 := Stand.of_body Bd
  have e0 : s₁.heap = h0 := by rw [← hh, Bd.state]; rfl
  have N0 := Fr.nil n0
  have pre0 : ∀ t, Steps p.tables e below (s₁.setTop (mkF m 0 #[.val (.ref a1), .val (.ref a2), .val .null, .val (.ref a4)] [])) t → Steps p.tables e below (s₁.setTop (entryFrame m #[(.ref a1), (.ref a2), .null, (.ref a4)] 4)) t := fun t k => castTop (ef_12nr m a1 a2 a4) k
  have KK0 := Keep.refl h0 [a1]
  obtain ⟨T1, X1, e1, st1⟩ := initO X0 hx hZ hown (hw _ (List.mem_of_getElem? (i := 69) rfl)) (hw _ (List.mem_of_getElem? (i := 7) rfl)) (hw _ (List.mem_of_getElem? (i := 8) rfl)) e0 (g := (mkF m 1 #[.val (.ref a1), .val (.ref a2), .val .null, .val (.ref a4)] [(.ref a1)])) rfl (by rw [hml]; rfl) rfl (hb hby d12_1) (by decide) (W := 0) (by show 2 * 0 + _ ≤ _; exact Nat.le_of_eq rfl) (by decide)
  obtain ⟨T2, h2, X2, e2, W2, st2⟩ := putF X1 hx hZ hown (host := "") (Or.inl (hw _ (List.mem_of_getElem? (i := 70) rfl))) Via.refl e1 F0 E1 (Or.inr ⟨(hw _ (List.mem_of_getElem? (i := 71) rfl)), rfl, hnm⟩) (hw _ (List.mem_of_getElem? (i := 47) rfl)) (ty := (.object "java/lang/String")) (by decide) rfl rfl (g := (mkF m 6 #[.val (.ref a1), .val (.ref a2), .val .null, .val (.ref a4)] [(.ref a2), (.ref a1)])) rfl rfl (hb hby d12_6)
  have N2 := Fr.snoc X2 N0 g1
  have Fw2 := Fld.same W2 F0
  have F_a1_before_2 := F1.other W2 (Or.inr (slot_ne (Or.inr (hw _ (List.mem_of_getElem? (i := 73) rfl))) (Or.inr (hw _ (List.mem_of_getElem? (i := 71) rfl))) (by decide) (t := (.object "java/lang/String")) (t' := (.object "java/lang/String")) (by decide) (by decide)))
  have F_a1_after_2 := F2.other W2 (Or.inr (slot_ne (Or.inr (hw _ (List.mem_of_getElem? (i := 75) rfl))) (Or.inr (hw _ (List.mem_of_getElem? (i := 71) rfl))) (by decide) (t := (.object "java/lang/String")) (t' := (.object "java/lang/String")) (by decide) (by decide)))
  have E_a1_2 := E1.wr W2
  have Zs3 := Nat.le_trans Z0 (Keep.of_wr W2).1
  have Kk2 := KK0.wr W2 (Or.inl (List.mem_of_getElem? (i := 0) rfl))
  obtain ⟨T4, h4, X4, e4, W4, st4⟩ := putF X2 hx hZ hown (host := "") (Or.inl (hw _ (List.mem_of_getElem? (i := 72) rfl))) Via.refl e2 F_a1_before_2 E_a1_2 (Or.inr ⟨(hw _ (List.mem_of_getElem? (i := 73) rfl)), rfl, hnm⟩) (hw _ (List.mem_of_getElem? (i := 47) rfl)) (ty := (.object "java/lang/String")) (by decide) rfl rfl (g := (mkF m 11 #[.val (.ref a1), .val (.ref a2), .val .null, .val (.ref a4)] [.null, (.ref a1)])) rfl rfl (hb hby d12_11)
  have N4 := Fr.snoc X4 N2 g1
  have Fw4 := Fld.same W4 F_a1_before_2
  have F_a1_field_4 := Fw2.other W4 (Or.inr (slot_ne (Or.inr (hw _ (List.mem_of_getElem? (i := 71) rfl))) (Or.inr (hw _ (List.mem_of_getElem? (i := 73) rfl))) (by decide) (t := (.object "java/lang/String")) (t' := (.object "java/lang/String")) (by decide) (by decide)))
  have F_a1_after_4 := F_a1_after_2.other W4 (Or.inr (slot_ne (Or.inr (hw _ (List.mem_of_getElem? (i := 75) rfl))) (Or.inr (hw _ (List.mem_of_getElem? (i := 73) rfl))) (by decide) (t := (.object "java/lang/String")) (t' := (.object "java/lang/String")) (by decide) (by decide)))
  have E_a1_4 := E_a1_2.wr W4
  have Zs5 := Nat.le_trans Zs3 (Keep.of_wr W4).1
  have Kk4 := Kk2.wr W4 (Or.inl (List.mem_of_getElem? (i := 0) rfl))
  obtain ⟨T6, h6, X6, e6, W6, st6⟩ := putF X4 hx hZ hown (host := "") (Or.inl (hw _ (List.mem_of_getElem? (i := 74) rfl))) Via.refl e4 F_a1_after_4 E_a1_4 (Or.inr ⟨(hw _ (List.mem_of_getElem? (i := 75) rfl)), rfl, hnm⟩) (hw _ (List.mem_of_getElem? (i := 47) rfl)) (ty := (.object "java/lang/String")) (by decide) rfl rfl (g := (mkF m 16 #[.val (.ref a1), .val (.ref a2), .val .null, .val (.ref a4)] [(.ref a4), (.ref a1)])) rfl rfl (hb hby d12_16)
  have N6 := Fr.snoc X6 N4 g1
  have Fw6 := Fld.same W6 F_a1_after_4
  have F_a1_field_6 := F_a1_field_4.other W6 (Or.inr (slot_ne (Or.inr (hw _ (List.mem_of_getElem? (i := 71) rfl))) (Or.inr (hw _ (List.mem_of_getElem? (i := 75) rfl))) (by decide) (t := (.object "java/lang/String")) (t' := (.object "java/lang/String")) (by decide) (by decide)))
  have F_a1_before_6 := Fw4.other W6 (Or.inr (slot_ne (Or.inr (hw _ (List.mem_of_getElem? (i := 73) rfl))) (Or.inr (hw _ (List.mem_of_getElem? (i := 75) rfl))) (by decide) (t := (.object "java/lang/String")) (t' := (.object "java/lang/String")) (by decide) (by decide)))
  have E_a1_6 := E_a1_4.wr W6
  have Zs7 := Nat.le_trans Zs5 (Keep.of_wr W6).1
  have Kk6 := Kk4.wr W6 (Or.inl (List.mem_of_getElem? (i := 0) rfl))
  obtain ⟨fs, hr, hrun, hended, hW, hsame⟩ := X6.leave (v := none) (fun _ => rfl)
  refine ⟨_, _, pre0 _ ?_, hrun, hended, _, _, rfl, ?_, ⟨_, rfl⟩, hW, hsame.mono (by decide) (by decide)⟩
  · show Steps p.tables e below (s₁.setTop (mkF m 0 #[.val (.ref a1), .val (.ref a2), .val .null, .val (.ref a4)] [])) _
    refine XS.aloadN X0.here hx rfl (hb hby d12_0) rfl rfl ?_
    show Steps p.tables e below (s₁.setTop (mkF m 1 #[.val (.ref a1), .val (.ref a2), .val .null, .val (.ref a4)] [(.ref a1)])) _
    refine st1 _ ?_
    show Steps p.tables e below (T1.setTop (mkF m 4 #[.val (.ref a1), .val (.ref a2), .val .null, .val (.ref a4)] [])) _
    refine XS.aloadN X1.here hx rfl (hb hby d12_4) rfl rfl ?_
    show Steps p.tables e below (T1.setTop (mkF m 5 #[.val (.ref a1), .val (.ref a2), .val .null, .val (.ref a4)] [(.ref a1)])) _
    refine XS.aloadN X1.here hx rfl (hb hby d12_5) rfl rfl ?_
    show Steps p.tables e below (T1.setTop (mkF m 6 #[.val (.ref a1), .val (.ref a2), .val .null, .val (.ref a4)] [(.ref a2), (.ref a1)])) _
    refine st2 _ ?_
    show Steps p.tables e below (T2.setTop (mkF m 9 #[.val (.ref a1), .val (.ref a2), .val .null, .val (.ref a4)] [])) _
    refine XS.aloadN X2.here hx rfl (hb hby d12_9) rfl rfl ?_
    show Steps p.tables e below (T2.setTop (mkF m 10 #[.val (.ref a1), .val (.ref a2), .val .null, .val (.ref a4)] [(.ref a1)])) _
    refine XS.aloadN X2.here hx rfl (hb hby d12_10) rfl rfl ?_
    show Steps p.tables e below (T2.setTop (mkF m 11 #[.val (.ref a1), .val (.ref a2), .val .null, .val (.ref a4)] [.null, (.ref a1)])) _
    refine st4 _ ?_
    show Steps p.tables e below (T4.setTop (mkF m 14 #[.val (.ref a1), .val (.ref a2), .val .null, .val (.ref a4)] [])) _
    refine XS.aloadN X4.here hx rfl (hb hby d12_14) rfl rfl ?_
    show Steps p.tables e below (T4.setTop (mkF m 15 #[.val (.ref a1), .val (.ref a2), .val .null, .val (.ref a4)] [(.ref a1)])) _
    refine XS.aloadN X4.here hx rfl (hb hby d12_15) rfl rfl ?_
    show Steps p.tables e below (T4.setTop (mkF m 16 #[.val (.ref a1), .val (.ref a2), .val .null, .val (.ref a4)] [(.ref a4), (.ref a1)])) _
    refine st6 _ ?_
    show Steps p.tables e below (T6.setTop (mkF m 19 #[.val (.ref a1), .val (.ref a2), .val .null, .val (.ref a4)] [])) _
    exact X6.returnOut hx Bd.returns (hb hby d12_19) hr
  · show Q12nr Z a1 a2 a4 h0 n0 _ T6.heap _
    rw [e6]
    exact ⟨rfl, N6, Kk6⟩
def Q12nn (Z : State) (a1 a2 : Addr) (h0 : Heap) (n0 : Nat) (v : Option Value) (h : Heap) (L : List Loc) : Prop := v = none ∧ Fr n0 L ∧ Keep h0 h [a1]
set_option maxRecDepth 65536 in
set_option maxHeartbeats 40000000 in
theorem rm12nn (l : Launch) (Z : State) (a0 : Array Value) (hw : ∀ d ∈ tables_1, d.before a0 Z = true) (ws : List Jvm.Cond) (a1 a2 : Addr) (h0 : Heap) (n0 : Nat) (Z0 : n0 ≤ h0.size) (F0 : Fld Z h0 a1 "com/example/governor/governor/core/FieldChange" "field" "Ljava/lang/String;" .null) (F1 : Fld Z h0 a1 "com/example/governor/governor/core/FieldChange" "before" "Ljava/lang/String;" .null) (F2 : Fld Z h0 a1 "com/example/governor/governor/core/FieldChange" "after" "Ljava/lang/String;" .null) (E1 : Exa Z h0 a1 "com/example/governor/governor/core/FieldChange") (g1 : n0 ≤ a1) :
    MetFree l (⟨"com/example/governor/governor/core/FieldChange", "<init>", "(Ljava/lang/String;Ljava/lang/String;Ljava/lang/String;)V"⟩ : MethodName) (head1 (Jvm.Cond.code (⟨"com/example/governor/governor/core/FieldChange", "<init>", "(Ljava/lang/String;Ljava/lang/String;Ljava/lang/String;)V"⟩ : MethodName) prog_12_method_1_code 4 none :: ws) ({ frames := 1, cells := 0, slots := 0, locals := 12 } : Room)) (fun a U => a = #[(.ref a1), (.ref a2), .null, .null] ∧ Z.Warmed39 U.vm ∧ U.heap = h0) (fun _ _ _ _ _ => True) (fun _ U o U' => ∃ v L, o = .returned v ∧ Q12nn Z a1 a2 h0 n0 v U'.heap L ∧ FrameEnd U o U' L ({ frames := 1, cells := 0, slots := 0, locals := 12 } : Room).cells ({ frames := 1, cells := 0, slots := 0, locals := 12 } : Room).slots) := by
  refine MetFree.of_bodySF (plainFor_of_name pn_12) hisR ?_
  intro p e s m args below meth c s₁ Bd hml0 hP hK
  obtain ⟨rfl, hZ, hh⟩ := hP
  have hx := Bd.exec
  have hby := Bd.bytes
  have hml : c.maxLocals = 4 := hml0
  have hown : s.vm.findClass "com/example/governor/governor/core/FieldChange" = some m.cls := findClass_of_methodNamed Bd.named
  have hnm := (name_of_methodNamed Bd.named Bd.method).1
  have X0 : Stand p l e ({ frames := 1, cells := 0, slots := 0, locals := 12 } : Room) s m #[(.ref a1), (.ref a2), .null, .null] below meth c s₁ [] 0 0 := Stand.of_body Bd
  have e0 : s₁.heap = h0 := by rw [← hh, Bd.state]; rfl
  have N0 := Fr.nil n0
  have pre0 : ∀ t, Steps p.tables e below (s₁.setTop (mkF m 0 #[.val (.ref a1), .val (.ref a2), .val .null, .val .null] [])) t → Steps p.tables e below (s₁.setTop (entryFrame m #[(.ref a1), (.ref a2), .null, .null] 4)) t := fun t k => castTop (ef_12nn m a1 a2) k
  have KK0 := Keep.refl h0 [a1]
  obtain ⟨T1, X1, e1, st1⟩ := initO X0 hx hZ hown (hw _ (List.mem_of_getElem? (i := 69) rfl)) (hw _ (List.mem_of_getElem? (i := 7) rfl)) (hw _ (List.mem_of_getElem? (i := 8) rfl)) e0 (g := (mkF m 1 #[.val (.ref a1), .val (.ref a2), .val .null, .val .null] [(.ref a1)])) rfl (by rw [hml]; rfl) rfl (hb hby d12_1) (by decide) (W := 0) (by show 2 * 0 + _ ≤ _; exact Nat.le_of_eq rfl) (by decide)
  obtain ⟨T2, h2, X2, e2, W2, st2⟩ := putF X1 hx hZ hown (host := "") (Or.inl (hw _ (List.mem_of_getElem? (i := 70) rfl))) Via.refl e1 F0 E1 (Or.inr ⟨(hw _ (List.mem_of_getElem? (i := 71) rfl)), rfl, hnm⟩) (hw _ (List.mem_of_getElem? (i := 47) rfl)) (ty := (.object "java/lang/String")) (by decide) rfl rfl (g := (mkF m 6 #[.val (.ref a1), .val (.ref a2), .val .null, .val .null] [(.ref a2), (.ref a1)])) rfl rfl (hb hby d12_6)
  have N2 := Fr.snoc X2 N0 g1
  have Fw2 := Fld.same W2 F0
  have F_a1_before_2 := F1.other W2 (Or.inr (slot_ne (Or.inr (hw _ (List.mem_of_getElem? (i := 73) rfl))) (Or.inr (hw _ (List.mem_of_getElem? (i := 71) rfl))) (by decide) (t := (.object "java/lang/String")) (t' := (.object "java/lang/String")) (by decide) (by decide)))
  have F_a1_after_2 := F2.other W2 (Or.inr (slot_ne (Or.inr (hw _ (List.mem_of_getElem? (i := 75) rfl))) (Or.inr (hw _ (List.mem_of_getElem? (i := 71) rfl))) (by decide) (t := (.object "java/lang/String")) (t' := (.object "java/lang/String")) (by decide) (by decide)))
  have E_a1_2 := E1.wr W2
  have Zs3 := Nat.le_trans Z0 (Keep.of_wr W2).1
  have Kk2 := KK0.wr W2 (Or.inl (List.mem_of_getElem? (i := 0) rfl))
  obtain ⟨T4, h4, X4, e4, W4, st4⟩ := putF X2 hx hZ hown (host := "") (Or.inl (hw _ (List.mem_of_getElem? (i := 72) rfl))) Via.refl e2 F_a1_before_2 E_a1_2 (Or.inr ⟨(hw _ (List.mem_of_getElem? (i := 73) rfl)), rfl, hnm⟩) (hw _ (List.mem_of_getElem? (i := 47) rfl)) (ty := (.object "java/lang/String")) (by decide) rfl rfl (g := (mkF m 11 #[.val (.ref a1), .val (.ref a2), .val .null, .val .null] [.null, (.ref a1)])) rfl rfl (hb hby d12_11)
  have N4 := Fr.snoc X4 N2 g1
  have Fw4 := Fld.same W4 F_a1_before_2
  have F_a1_field_4 := Fw2.other W4 (Or.inr (slot_ne (Or.inr (hw _ (List.mem_of_getElem? (i := 71) rfl))) (Or.inr (hw _ (List.mem_of_getElem? (i := 73) rfl))) (by decide) (t := (.object "java/lang/String")) (t' := (.object "java/lang/String")) (by decide) (by decide)))
  have F_a1_after_4 := F_a1_after_2.other W4 (Or.inr (slot_ne (Or.inr (hw _ (List.mem_of_getElem? (i := 75) rfl))) (Or.inr (hw _ (List.mem_of_getElem? (i := 73) rfl))) (by decide) (t := (.object "java/lang/String")) (t' := (.object "java/lang/String")) (by decide) (by decide)))
  have E_a1_4 := E_a1_2.wr W4
  have Zs5 := Nat.le_trans Zs3 (Keep.of_wr W4).1
  have Kk4 := Kk2.wr W4 (Or.inl (List.mem_of_getElem? (i := 0) rfl))
  obtain ⟨T6, h6, X6, e6, W6, st6⟩ := putF X4 hx hZ hown (host := "") (Or.inl (hw _ (List.mem_of_getElem? (i := 74) rfl))) Via.refl e4 F_a1_after_4 E_a1_4 (Or.inr ⟨(hw _ (List.mem_of_getElem? (i := 75) rfl)), rfl, hnm⟩) (hw _ (List.mem_of_getElem? (i := 47) rfl)) (ty := (.object "java/lang/String")) (by decide) rfl rfl (g := (mkF m 16 #[.val (.ref a1), .val (.ref a2), .val .null, .val .null] [.null, (.ref a1)])) rfl rfl (hb hby d12_16)
  have N6 := Fr.snoc X6 N4 g1
  have Fw6 := Fld.same W6 F_a1_after_4
  have F_a1_field_6 := F_a1_field_4.other W6 (Or.inr (slot_ne (Or.inr (hw _ (List.mem_of_getElem? (i := 71) rfl))) (Or.inr (hw _ (List.mem_of_getElem? (i := 75) rfl))) (by decide) (t := (.object "java/lang/String")) (t' := (.object "java/lang/String")) (by decide) (by decide)))
  have F_a1_before_6 := Fw4.other W6 (Or.inr (slot_ne (Or.inr (hw _ (List.mem_of_getElem? (i := 73) rfl))) (Or.inr (hw _ (List.mem_of_getElem? (i := 75) rfl))) (by decide) (t := (.object "java/lang/String")) (t' := (.object "java/lang/String")) (by decide) (by decide)))
  have E_a1_6 := E_a1_4.wr W6
  have Zs7 := Nat.le_trans Zs5 (Keep.of_wr W6).1
  have Kk6 := Kk4.wr W6 (Or.inl (List.mem_of_getElem? (i := 0) rfl))
  obtain ⟨fs, hr, hrun, hended, hW, hsame⟩ := X6.leave (v := none) (fun _ => rfl)
  refine ⟨_, _, pre0 _ ?_, hrun, hended, _, _, rfl, ?_, ⟨_, rfl⟩, hW, hsame.mono (by decide) (by decide)⟩
  · show Steps p.tables e below (s₁.setTop (mkF m 0 #[.val (.ref a1), .val (.ref a2), .val .null, .val .null] [])) _
    refine XS.aloadN X0.here hx rfl (hb hby d12_0) rfl rfl ?_
    show Steps p.tables e below (s₁.setTop (mkF m 1 #[.val (.ref a1), .val (.ref a2), .val .null, .val .null] [(.ref a1)])) _
    refine st1 _ ?_
    show Steps p.tables e below (T1.setTop (mkF m 4 #[.val (.ref a1), .val (.ref a2), .val .null, .val .null] [])) _
    refine XS.aloadN X1.here hx rfl (hb hby d12_4) rfl rfl ?_
    show Steps p.tables e below (T1.setTop (mkF m 5 #[.val (.ref a1), .val (.ref a2), .val .null, .val .null] [(.ref a1)])) _
    refine XS.aloadN X1.here hx rfl (hb hby d12_5) rfl rfl ?_
    show Steps p.tables e below (T1.setTop (mkF m 6 #[.val (.ref a1), .val (.ref a2), .val .null, .val .null] [(.ref a2), (.ref a1)])) _
    refine st2 _ ?_
    show Steps p.tables e below (T2.setTop (mkF m 9 #[.val (.ref a1), .val (.ref a2), .val .null, .val .null] [])) _
    refine XS.aloadN X2.here hx rfl (hb hby d12_9) rfl rfl ?_
    show Steps p.tables e below (T2.setTop (mkF m 10 #[.val (.ref a1), .val (.ref a2), .val .null, .val .null] [(.ref a1)])) _
    refine XS.aloadN X2.here hx rfl (hb hby d12_10) rfl rfl ?_
    show Steps p.tables e below (T2.setTop (mkF m 11 #[.val (.ref a1), .val (.ref a2), .val .null, .val .null] [.null, (.ref a1)])) _
    refine st4 _ ?_
    show Steps p.tables e below (T4.setTop (mkF m 14 #[.val (.ref a1), .val (.ref a2), .val .null, .val .null] [])) _
    refine XS.aloadN X4.here hx rfl (hb hby d12_14) rfl rfl ?_
    show Steps p.tables e below (T4.setTop (mkF m 15 #[.val (.ref a1), .val (.ref a2), .val .null, .val .null] [(.ref a1)])) _
    refine XS.aloadN X4.here hx rfl (hb hby d12_15) rfl rfl ?_
    show Steps p.tables e below (T4.setTop (mkF m 16 #[.val (.ref a1), .val (.ref a2), .val .null, .val .null] [.null, (.ref a1)])) _
    refine st6 _ ?_
    show Steps p.tables e below (T6.setTop (mkF m 19 #[.val (.ref a1), .val (.ref a2), .val .null, .val .null] [])) _
    exact X6.returnOut hx Bd.returns (hb hby d12_19) hr
  · show Q12nn Z a1 a2 h0 n0 _ T6.heap _
    rw [e6]
    exact ⟨rfl, N6, Kk6⟩
def Q1 (Z : State) (a1 : Addr) (q1 q2 q3 : Int64) (h0 : Heap) (n0 : Nat) (v : Option Value) (h : Heap) (L : List Loc) : Prop := v = none ∧ Fr n0 L ∧ Keep h0 h [a1] ∧ Exa Z h a1 "com/example/governor/governor/core/UsageLine" ∧ Fld Z h a1 "com/example/governor/governor/core/UsageLine" "seconds" "J" (.long q2) ∧ Fld Z h a1 "com/example/governor/governor/core/UsageLine" "settingChange" "Lcom/example/governor/governor/core/FieldChange;" .null
set_option maxRecDepth 65536 in
set_option maxHeartbeats 40000000 in
theorem rm1 (l : Launch) (Z : State) (a0 : Array Value) (hw : ∀ d ∈ tables_1, d.before a0 Z = true) (ws : List Jvm.Cond) (a1 : Addr) (q1 q2 q3 : Int64) (h0 : Heap) (n0 : Nat) (Z0 : n0 ≤ h0.size) (F0 : Fld Z h0 a1 "com/example/governor/governor/core/UsageLine" "number" "J" (.long (0 : Int64))) (F1 : Fld Z h0 a1 "com/example/governor/governor/core/UsageLine" "seconds" "J" (.long (0 : Int64))) (F2 : Fld Z h0 a1 "com/example/governor/governor/core/UsageLine" "sessions" "J" (.long (0 : Int64))) (F3 : Fld Z h0 a1 "com/example/governor/governor/core/UsageLine" "vcoresUsed" "Ljava/math/BigDecimal;" .null) (F4 : Fld Z h0 a1 "com/example/governor/governor/core/UsageLine" "memoryGbUsed" "Ljava/math/BigDecimal;" .null) (F5 : Fld Z h0 a1 "com/example/governor/governor/core/UsageLine" "settingChange" "Lcom/example/governor/governor/core/FieldChange;" .null) (E1 : Exa Z h0 a1 "com/example/governor/governor/core/UsageLine") (g1 : n0 ≤ a1) :
    MetFree l (⟨"com/example/governor/governor/core/UsageLine", "<init>", "(JJJLjava/math/BigDecimal;Ljava/math/BigDecimal;)V"⟩ : MethodName) (head1 (Jvm.Cond.code (⟨"com/example/governor/governor/core/UsageLine", "<init>", "(JJJLjava/math/BigDecimal;Ljava/math/BigDecimal;)V"⟩ : MethodName) prog_22_method_1_code 9 none :: ws) ({ frames := 1, cells := 0, slots := 0, locals := 12 } : Room)) (fun a U => a = #[(.ref a1), (.long q1), (.long q2), (.long q3), .null, .null] ∧ Z.Warmed39 U.vm ∧ U.heap = h0) (fun _ _ _ _ _ => True) (fun _ U o U' => ∃ v L, o = .returned v ∧ Q1 Z a1 q1 q2 q3 h0 n0 v U'.heap L ∧ FrameEnd U o U' L ({ frames := 1, cells := 0, slots := 0, locals := 12 } : Room).cells ({ frames := 1, cells := 0, slots := 0, locals := 12 } : Room).slots) := by
  refine MetFree.of_bodySF (plainFor_of_name pn_1) hisR ?_
  intro p e s m args below meth c s₁ Bd hml0 hP hK
  obtain ⟨rfl, hZ, hh⟩ := hP
  have hx := Bd.exec
  have hby := Bd.bytes
  have hml : c.maxLocals = 9 := hml0
  have hown : s.vm.findClass "com/example/governor/governor/core/UsageLine" = some m.cls := findClass_of_methodNamed Bd.named
  have hnm := (name_of_methodNamed Bd.named Bd.method).1
  have X0 : Stand p l e ({ frames := 1, cells := 0, slots := 0, locals := 12 } : Room) s m #[(.ref a1), (.long q1), (.long q2), (.long q3), .null, .null] below meth c s₁ [] 0 0 := Stand.of_body Bd
  have e0 : s₁.heap = h0 := by rw [← hh, Bd.state]; rfl
  have N0 := Fr.nil n0
  have pre0 : ∀ t, Steps p.tables e below (s₁.setTop (mkF m 0 #[.val (.ref a1), .val (.long q1), .second, .val (.long q2), .second, .val (.long q3), .second, .val .null, .val .null] [])) t → Steps p.tables e below (s₁.setTop (entryFrame m #[(.ref a1), (.long q1), (.long q2), (.long q3), .null, .null] 9)) t := fun t k => castTop (ef_1 m a1 q1 q2 q3) k
  have KK0 := Keep.refl h0 [a1]
  obtain ⟨T1, X1, e1, st1⟩ := initO X0 hx hZ hown (hw _ (List.mem_of_getElem? (i := 6) rfl)) (hw _ (List.mem_of_getElem? (i := 7) rfl)) (hw _ (List.mem_of_getElem? (i := 8) rfl)) e0 (g := (mkF m 1 #[.val (.ref a1), .val (.long q1), .second, .val (.long q2), .second, .val (.long q3), .second, .val .null, .val .null] [(.ref a1)])) rfl (by rw [hml]; rfl) rfl (hb hby d1_1) (by decide) (W := 0) (by show 2 * 0 + _ ≤ _; exact Nat.le_of_eq rfl) (by decide)
  obtain ⟨T2, h2, X2, e2, W2, st2⟩ := putF X1 hx hZ hown (host := "") (Or.inl (hw _ (List.mem_of_getElem? (i := 9) rfl))) Via.refl e1 F0 E1 (Or.inr ⟨(hw _ (List.mem_of_getElem? (i := 10) rfl)), rfl, hnm⟩) (hw _ (List.mem_of_getElem? (i := 1) rfl)) (ty := .long) (by decide) rfl rfl (g := (mkF m 6 #[.val (.ref a1), .val (.long q1), .second, .val (.long q2), .second, .val (.long q3), .second, .val .null, .val .null] [(.long q1), (.ref a1)])) rfl rfl (hb hby d1_6)
  have N2 := Fr.snoc X2 N0 g1
  have Fw2 := Fld.same W2 F0
  have F_a1_seconds_2 := F1.other W2 (Or.inr (slot_ne (Or.inr (hw _ (List.mem_of_getElem? (i := 12) rfl))) (Or.inr (hw _ (List.mem_of_getElem? (i := 10) rfl))) (by decide) (t := .long) (t' := .long) (by decide) (by decide)))
  have F_a1_sessions_2 := F2.other W2 (Or.inr (slot_ne (Or.inr (hw _ (List.mem_of_getElem? (i := 14) rfl))) (Or.inr (hw _ (List.mem_of_getElem? (i := 10) rfl))) (by decide) (t := .long) (t' := .long) (by decide) (by decide)))
  have F_a1_vcoresUsed_2 := F3.other W2 (Or.inr (slot_ne (Or.inr (hw _ (List.mem_of_getElem? (i := 16) rfl))) (Or.inr (hw _ (List.mem_of_getElem? (i := 10) rfl))) (by decide) (t := (.object "java/math/BigDecimal")) (t' := .long) (by decide) (by decide)))
  have F_a1_memoryGbUsed_2 := F4.other W2 (Or.inr (slot_ne (Or.inr (hw _ (List.mem_of_getElem? (i := 18) rfl))) (Or.inr (hw _ (List.mem_of_getElem? (i := 10) rfl))) (by decide) (t := (.object "java/math/BigDecimal")) (t' := .long) (by decide) (by decide)))
  have F_a1_settingChange_2 := F5.other W2 (Or.inr (slot_ne (Or.inr (hw _ (List.mem_of_getElem? (i := 20) rfl))) (Or.inr (hw _ (List.mem_of_getElem? (i := 10) rfl))) (by decide) (t := (.object "com/example/governor/governor/core/FieldChange")) (t' := .long) (by decide) (by decide)))
  have E_a1_2 := E1.wr W2
  have Zs3 := Nat.le_trans Z0 (Keep.of_wr W2).1
  have Kk2 := KK0.wr W2 (Or.inl (List.mem_of_getElem? (i := 0) rfl))
  obtain ⟨T4, h4, X4, e4, W4, st4⟩ := putF X2 hx hZ hown (host := "") (Or.inl (hw _ (List.mem_of_getElem? (i := 11) rfl))) Via.refl e2 F_a1_seconds_2 E_a1_2 (Or.inr ⟨(hw _ (List.mem_of_getElem? (i := 12) rfl)), rfl, hnm⟩) (hw _ (List.mem_of_getElem? (i := 1) rfl)) (ty := .long) (by decide) rfl rfl (g := (mkF m 11 #[.val (.ref a1), .val (.long q1), .second, .val (.long q2), .second, .val (.long q3), .second, .val .null, .val .null] [(.long q2), (.ref a1)])) rfl rfl (hb hby d1_11)
  have N4 := Fr.snoc X4 N2 g1
  have Fw4 := Fld.same W4 F_a1_seconds_2
  have F_a1_number_4 := Fw2.other W4 (Or.inr (slot_ne (Or.inr (hw _ (List.mem_of_getElem? (i := 10) rfl))) (Or.inr (hw _ (List.mem_of_getElem? (i := 12) rfl))) (by decide) (t := .long) (t' := .long) (by decide) (by decide)))
  have F_a1_sessions_4 := F_a1_sessions_2.other W4 (Or.inr (slot_ne (Or.inr (hw _ (List.mem_of_getElem? (i := 14) rfl))) (Or.inr (hw _ (List.mem_of_getElem? (i := 12) rfl))) (by decide) (t := .long) (t' := .long) (by decide) (by decide)))
  have F_a1_vcoresUsed_4 := F_a1_vcoresUsed_2.other W4 (Or.inr (slot_ne (Or.inr (hw _ (List.mem_of_getElem? (i := 16) rfl))) (Or.inr (hw _ (List.mem_of_getElem? (i := 12) rfl))) (by decide) (t := (.object "java/math/BigDecimal")) (t' := .long) (by decide) (by decide)))
  have F_a1_memoryGbUsed_4 := F_a1_memoryGbUsed_2.other W4 (Or.inr (slot_ne (Or.inr (hw _ (List.mem_of_getElem? (i := 18) rfl))) (Or.inr (hw _ (List.mem_of_getElem? (i := 12) rfl))) (by decide) (t := (.object "java/math/BigDecimal")) (t' := .long) (by decide) (by decide)))
  have F_a1_settingChange_4 := F_a1_settingChange_2.other W4 (Or.inr (slot_ne (Or.inr (hw _ (List.mem_of_getElem? (i := 20) rfl))) (Or.inr (hw _ (List.mem_of_getElem? (i := 12) rfl))) (by decide) (t := (.object "com/example/governor/governor/core/FieldChange")) (t' := .long) (by decide) (by decide)))
  have E_a1_4 := E_a1_2.wr W4
  have Zs5 := Nat.le_trans Zs3 (Keep.of_wr W4).1
  have Kk4 := Kk2.wr W4 (Or.inl (List.mem_of_getElem? (i := 0) rfl))
  obtain ⟨T6, h6, X6, e6, W6, st6⟩ := putF X4 hx hZ hown (host := "") (Or.inl (hw _ (List.mem_of_getElem? (i := 13) rfl))) Via.refl e4 F_a1_sessions_4 E_a1_4 (Or.inr ⟨(hw _ (List.mem_of_getElem? (i := 14) rfl)), rfl, hnm⟩) (hw _ (List.mem_of_getElem? (i := 1) rfl)) (ty := .long) (by decide) rfl rfl (g := (mkF m 17 #[.val (.ref a1), .val (.long q1), .second, .val (.long q2), .second, .val (.long q3), .second, .val .null, .val .null] [(.long q3), (.ref a1)])) rfl rfl (hb hby d1_17)
  have N6 := Fr.snoc X6 N4 g1
  have Fw6 := Fld.same W6 F_a1_sessions_4
  have F_a1_number_6 := F_a1_number_4.other W6 (Or.inr (slot_ne (Or.inr (hw _ (List.mem_of_getElem? (i := 10) rfl))) (Or.inr (hw _ (List.mem_of_getElem? (i := 14) rfl))) (by decide) (t := .long) (t' := .long) (by decide) (by decide)))
  have F_a1_seconds_6 := Fw4.other W6 (Or.inr (slot_ne (Or.inr (hw _ (List.mem_of_getElem? (i := 12) rfl))) (Or.inr (hw _ (List.mem_of_getElem? (i := 14) rfl))) (by decide) (t := .long) (t' := .long) (by decide) (by decide)))
  have F_a1_vcoresUsed_6 := F_a1_vcoresUsed_4.other W6 (Or.inr (slot_ne (Or.inr (hw _ (List.mem_of_getElem? (i := 16) rfl))) (Or.inr (hw _ (List.mem_of_getElem? (i := 14) rfl))) (by decide) (t := (.object "java/math/BigDecimal")) (t' := .long) (by decide) (by decide)))
  have F_a1_memoryGbUsed_6 := F_a1_memoryGbUsed_4.other W6 (Or.inr (slot_ne (Or.inr (hw _ (List.mem_of_getElem? (i := 18) rfl))) (Or.inr (hw _ (List.mem_of_getElem? (i := 14) rfl))) (by decide) (t := (.object "java/math/BigDecimal")) (t' := .long) (by decide) (by decide)))
  have F_a1_settingChange_6 := F_a1_settingChange_4.other W6 (Or.inr (slot_ne (Or.inr (hw _ (List.mem_of_getElem? (i := 20) rfl))) (Or.inr (hw _ (List.mem_of_getElem? (i := 14) rfl))) (by decide) (t := (.object "com/example/governor/governor/core/FieldChange")) (t' := .long) (by decide) (by decide)))
  have E_a1_6 := E_a1_4.wr W6
  have Zs7 := Nat.le_trans Zs5 (Keep.of_wr W6).1
  have Kk6 := Kk4.wr W6 (Or.inl (List.mem_of_getElem? (i := 0) rfl))
  obtain ⟨T8, h8, X8, e8, W8, st8⟩ := putF X6 hx hZ hown (host := "") (Or.inl (hw _ (List.mem_of_getElem? (i := 15) rfl))) Via.refl e6 F_a1_vcoresUsed_6 E_a1_6 (Or.inr ⟨(hw _ (List.mem_of_getElem? (i := 16) rfl)), rfl, hnm⟩) (hw _ (List.mem_of_getElem? (i := 1) rfl)) (ty := (.object "java/math/BigDecimal")) (by decide) rfl rfl (g := (mkF m 23 #[.val (.ref a1), .val (.long q1), .second, .val (.long q2), .second, .val (.long q3), .second, .val .null, .val .null] [.null, (.ref a1)])) rfl rfl (hb hby d1_23)
  have N8 := Fr.snoc X8 N6 g1
  have Fw8 := Fld.same W8 F_a1_vcoresUsed_6
  have F_a1_number_8 := F_a1_number_6.other W8 (Or.inr (slot_ne (Or.inr (hw _ (List.mem_of_getElem? (i := 10) rfl))) (Or.inr (hw _ (List.mem_of_getElem? (i := 16) rfl))) (by decide) (t := .long) (t' := (.object "java/math/BigDecimal")) (by decide) (by decide)))
  have F_a1_seconds_8 := F_a1_seconds_6.other W8 (Or.inr (slot_ne (Or.inr (hw _ (List.mem_of_getElem? (i := 12) rfl))) (Or.inr (hw _ (List.mem_of_getElem? (i := 16) rfl))) (by decide) (t := .long) (t' := (.object "java/math/BigDecimal")) (by decide) (by decide)))
  have F_a1_sessions_8 := Fw6.other W8 (Or.inr (slot_ne (Or.inr (hw _ (List.mem_of_getElem? (i := 14) rfl))) (Or.inr (hw _ (List.mem_of_getElem? (i := 16) rfl))) (by decide) (t := .long) (t' := (.object "java/math/BigDecimal")) (by decide) (by decide)))
  have F_a1_memoryGbUsed_8 := F_a1_memoryGbUsed_6.other W8 (Or.inr (slot_ne (Or.inr (hw _ (List.mem_of_getElem? (i := 18) rfl))) (Or.inr (hw _ (List.mem_of_getElem? (i := 16) rfl))) (by decide) (t := (.object "java/math/BigDecimal")) (t' := (.object "java/math/BigDecimal")) (by decide) (by decide)))
  have F_a1_settingChange_8 := F_a1_settingChange_6.other W8 (Or.inr (slot_ne (Or.inr (hw _ (List.mem_of_getElem? (i := 20) rfl))) (Or.inr (hw _ (List.mem_of_getElem? (i := 16) rfl))) (by decide) (t := (.object "com/example/governor/governor/core/FieldChange")) (t' := (.object "java/math/BigDecimal")) (by decide) (by decide)))
  have E_a1_8 := E_a1_6.wr W8
  have Zs9 := Nat.le_trans Zs7 (Keep.of_wr W8).1
  have Kk8 := Kk6.wr W8 (Or.inl (List.mem_of_getElem? (i := 0) rfl))
  obtain ⟨T10, h10, X10, e10, W10, st10⟩ := putF X8 hx hZ hown (host := "") (Or.inl (hw _ (List.mem_of_getElem? (i := 17) rfl))) Via.refl e8 F_a1_memoryGbUsed_8 E_a1_8 (Or.inr ⟨(hw _ (List.mem_of_getElem? (i := 18) rfl)), rfl, hnm⟩) (hw _ (List.mem_of_getElem? (i := 1) rfl)) (ty := (.object "java/math/BigDecimal")) (by decide) rfl rfl (g := (mkF m 29 #[.val (.ref a1), .val (.long q1), .second, .val (.long q2), .second, .val (.long q3), .second, .val .null, .val .null] [.null, (.ref a1)])) rfl rfl (hb hby d1_29)
  have N10 := Fr.snoc X10 N8 g1
  have Fw10 := Fld.same W10 F_a1_memoryGbUsed_8
  have F_a1_number_10 := F_a1_number_8.other W10 (Or.inr (slot_ne (Or.inr (hw _ (List.mem_of_getElem? (i := 10) rfl))) (Or.inr (hw _ (List.mem_of_getElem? (i := 18) rfl))) (by decide) (t := .long) (t' := (.object "java/math/BigDecimal")) (by decide) (by decide)))
  have F_a1_seconds_10 := F_a1_seconds_8.other W10 (Or.inr (slot_ne (Or.inr (hw _ (List.mem_of_getElem? (i := 12) rfl))) (Or.inr (hw _ (List.mem_of_getElem? (i := 18) rfl))) (by decide) (t := .long) (t' := (.object "java/math/BigDecimal")) (by decide) (by decide)))
  have F_a1_sessions_10 := F_a1_sessions_8.other W10 (Or.inr (slot_ne (Or.inr (hw _ (List.mem_of_getElem? (i := 14) rfl))) (Or.inr (hw _ (List.mem_of_getElem? (i := 18) rfl))) (by decide) (t := .long) (t' := (.object "java/math/BigDecimal")) (by decide) (by decide)))
  have F_a1_vcoresUsed_10 := Fw8.other W10 (Or.inr (slot_ne (Or.inr (hw _ (List.mem_of_getElem? (i := 16) rfl))) (Or.inr (hw _ (List.mem_of_getElem? (i := 18) rfl))) (by decide) (t := (.object "java/math/BigDecimal")) (t' := (.object "java/math/BigDecimal")) (by decide) (by decide)))
  have F_a1_settingChange_10 := F_a1_settingChange_8.other W10 (Or.inr (slot_ne (Or.inr (hw _ (List.mem_of_getElem? (i := 20) rfl))) (Or.inr (hw _ (List.mem_of_getElem? (i := 18) rfl))) (by decide) (t := (.object "com/example/governor/governor/core/FieldChange")) (t' := (.object "java/math/BigDecimal")) (by decide) (by decide)))
  have E_a1_10 := E_a1_8.wr W10
  have Zs11 := Nat.le_trans Zs9 (Keep.of_wr W10).1
  have Kk10 := Kk8.wr W10 (Or.inl (List.mem_of_getElem? (i := 0) rfl))
  obtain ⟨T12, h12, X12, e12, W12, st12⟩ := putF X10 hx hZ hown (host := "") (Or.inl (hw _ (List.mem_of_getElem? (i := 19) rfl))) Via.refl e10 F_a1_settingChange_10 E_a1_10 (Or.inr ⟨(hw _ (List.mem_of_getElem? (i := 20) rfl)), rfl, hnm⟩) (hw _ (List.mem_of_getElem? (i := 1) rfl)) (ty := (.object "com/example/governor/governor/core/FieldChange")) (by decide) rfl rfl (g := (mkF m 34 #[.val (.ref a1), .val (.long q1), .second, .val (.long q2), .second, .val (.long q3), .second, .val .null, .val .null] [.null, (.ref a1)])) rfl rfl (hb hby d1_34)
  have N12 := Fr.snoc X12 N10 g1
  have Fw12 := Fld.same W12 F_a1_settingChange_10
  have F_a1_number_12 := F_a1_number_10.other W12 (Or.inr (slot_ne (Or.inr (hw _ (List.mem_of_getElem? (i := 10) rfl))) (Or.inr (hw _ (List.mem_of_getElem? (i := 20) rfl))) (by decide) (t := .long) (t' := (.object "com/example/governor/governor/core/FieldChange")) (by decide) (by decide)))
  have F_a1_seconds_12 := F_a1_seconds_10.other W12 (Or.inr (slot_ne (Or.inr (hw _ (List.mem_of_getElem? (i := 12) rfl))) (Or.inr (hw _ (List.mem_of_getElem? (i := 20) rfl))) (by decide) (t := .long) (t' := (.object "com/example/governor/governor/core/FieldChange")) (by decide) (by decide)))
  have F_a1_sessions_12 := F_a1_sessions_10.other W12 (Or.inr (slot_ne (Or.inr (hw _ (List.mem_of_getElem? (i := 14) rfl))) (Or.inr (hw _ (List.mem_of_getElem? (i := 20) rfl))) (by decide) (t := .long) (t' := (.object "com/example/governor/governor/core/FieldChange")) (by decide) (by decide)))
  have F_a1_vcoresUsed_12 := F_a1_vcoresUsed_10.other W12 (Or.inr (slot_ne (Or.inr (hw _ (List.mem_of_getElem? (i := 16) rfl))) (Or.inr (hw _ (List.mem_of_getElem? (i := 20) rfl))) (by decide) (t := (.object "java/math/BigDecimal")) (t' := (.object "com/example/governor/governor/core/FieldChange")) (by decide) (by decide)))
  have F_a1_memoryGbUsed_12 := Fw10.other W12 (Or.inr (slot_ne (Or.inr (hw _ (List.mem_of_getElem? (i := 18) rfl))) (Or.inr (hw _ (List.mem_of_getElem? (i := 20) rfl))) (by decide) (t := (.object "java/math/BigDecimal")) (t' := (.object "com/example/governor/governor/core/FieldChange")) (by decide) (by decide)))
  have E_a1_12 := E_a1_10.wr W12
  have Zs13 := Nat.le_trans Zs11 (Keep.of_wr W12).1
  have Kk12 := Kk10.wr W12 (Or.inl (List.mem_of_getElem? (i := 0) rfl))
  obtain ⟨fs, hr, hrun, hended, hW, hsame⟩ := X12.leave (v := none) (fun _ => rfl)
  refine ⟨_, _, pre0 _ ?_, hrun, hended, _, _, rfl, ?_, ⟨_, rfl⟩, hW, hsame.mono (by decide) (by decide)⟩
  · show Steps p.tables e below (s₁.setTop (mkF m 0 #[.val (.ref a1), .val (.long q1), .second, .val (.long q2), .second, .val (.long q3), .second, .val .null, .val .null] [])) _
    refine XS.aloadN X0.here hx rfl (hb hby d1_0) rfl rfl ?_
    show Steps p.tables e below (s₁.setTop (mkF m 1 #[.val (.ref a1), .val (.long q1), .second, .val (.long q2), .second, .val (.long q3), .second, .val .null, .val .null] [(.ref a1)])) _
    refine st1 _ ?_
    show Steps p.tables e below (T1.setTop (mkF m 4 #[.val (.ref a1), .val (.long q1), .second, .val (.long q2), .second, .val (.long q3), .second, .val .null, .val .null] [])) _
    refine XS.aloadN X1.here hx rfl (hb hby d1_4) rfl rfl ?_
    show Steps p.tables e below (T1.setTop (mkF m 5 #[.val (.ref a1), .val (.long q1), .second, .val (.long q2), .second, .val (.long q3), .second, .val .null, .val .null] [(.ref a1)])) _
    refine XS.lloadN X1.here hx rfl (hb hby d1_5) rfl ?_
    show Steps p.tables e below (T1.setTop (mkF m 6 #[.val (.ref a1), .val (.long q1), .second, .val (.long q2), .second, .val (.long q3), .second, .val .null, .val .null] [(.long q1), (.ref a1)])) _
    refine st2 _ ?_
    show Steps p.tables e below (T2.setTop (mkF m 9 #[.val (.ref a1), .val (.long q1), .second, .val (.long q2), .second, .val (.long q3), .second, .val .null, .val .null] [])) _
    refine XS.aloadN X2.here hx rfl (hb hby d1_9) rfl rfl ?_
    show Steps p.tables e below (T2.setTop (mkF m 10 #[.val (.ref a1), .val (.long q1), .second, .val (.long q2), .second, .val (.long q3), .second, .val .null, .val .null] [(.ref a1)])) _
    refine XS.lloadN X2.here hx rfl (hb hby d1_10) rfl ?_
    show Steps p.tables e below (T2.setTop (mkF m 11 #[.val (.ref a1), .val (.long q1), .second, .val (.long q2), .second, .val (.long q3), .second, .val .null, .val .null] [(.long q2), (.ref a1)])) _
    refine st4 _ ?_
    show Steps p.tables e below (T4.setTop (mkF m 14 #[.val (.ref a1), .val (.long q1), .second, .val (.long q2), .second, .val (.long q3), .second, .val .null, .val .null] [])) _
    refine XS.aloadN X4.here hx rfl (hb hby d1_14) rfl rfl ?_
    show Steps p.tables e below (T4.setTop (mkF m 15 #[.val (.ref a1), .val (.long q1), .second, .val (.long q2), .second, .val (.long q3), .second, .val .null, .val .null] [(.ref a1)])) _
    refine XS.lload X4.here hx rfl (hb hby d1_15) rfl ?_
    show Steps p.tables e below (T4.setTop (mkF m 17 #[.val (.ref a1), .val (.long q1), .second, .val (.long q2), .second, .val (.long q3), .second, .val .null, .val .null] [(.long q3), (.ref a1)])) _
    refine st6 _ ?_
    show Steps p.tables e below (T6.setTop (mkF m 20 #[.val (.ref a1), .val (.long q1), .second, .val (.long q2), .second, .val (.long q3), .second, .val .null, .val .null] [])) _
    refine XS.aloadN X6.here hx rfl (hb hby d1_20) rfl rfl ?_
    show Steps p.tables e below (T6.setTop (mkF m 21 #[.val (.ref a1), .val (.long q1), .second, .val (.long q2), .second, .val (.long q3), .second, .val .null, .val .null] [(.ref a1)])) _
    refine XS.aload X6.here hx rfl (hb hby d1_21) rfl rfl ?_
    show Steps p.tables e below (T6.setTop (mkF m 23 #[.val (.ref a1), .val (.long q1), .second, .val (.long q2), .second, .val (.long q3), .second, .val .null, .val .null] [.null, (.ref a1)])) _
    refine st8 _ ?_
    show Steps p.tables e below (T8.setTop (mkF m 26 #[.val (.ref a1), .val (.long q1), .second, .val (.long q2), .second, .val (.long q3), .second, .val .null, .val .null] [])) _
    refine XS.aloadN X8.here hx rfl (hb hby d1_26) rfl rfl ?_
    show Steps p.tables e below (T8.setTop (mkF m 27 #[.val (.ref a1), .val (.long q1), .second, .val (.long q2), .second, .val (.long q3), .second, .val .null, .val .null] [(.ref a1)])) _
    refine XS.aload X8.here hx rfl (hb hby d1_27) rfl rfl ?_
    show Steps p.tables e below (T8.setTop (mkF m 29 #[.val (.ref a1), .val (.long q1), .second, .val (.long q2), .second, .val (.long q3), .second, .val .null, .val .null] [.null, (.ref a1)])) _
    refine st10 _ ?_
    show Steps p.tables e below (T10.setTop (mkF m 32 #[.val (.ref a1), .val (.long q1), .second, .val (.long q2), .second, .val (.long q3), .second, .val .null, .val .null] [])) _
    refine XS.aloadN X10.here hx rfl (hb hby d1_32) rfl rfl ?_
    show Steps p.tables e below (T10.setTop (mkF m 33 #[.val (.ref a1), .val (.long q1), .second, .val (.long q2), .second, .val (.long q3), .second, .val .null, .val .null] [(.ref a1)])) _
    refine XS.aconstNull X10.here hx rfl (hb hby d1_33) ?_
    show Steps p.tables e below (T10.setTop (mkF m 34 #[.val (.ref a1), .val (.long q1), .second, .val (.long q2), .second, .val (.long q3), .second, .val .null, .val .null] [.null, (.ref a1)])) _
    refine st12 _ ?_
    show Steps p.tables e below (T12.setTop (mkF m 37 #[.val (.ref a1), .val (.long q1), .second, .val (.long q2), .second, .val (.long q3), .second, .val .null, .val .null] [])) _
    exact X12.returnOut hx Bd.returns (hb hby d1_37) hr
  · show Q1 Z a1 q1 q2 q3 h0 n0 _ T12.heap _
    rw [e12]
    exact ⟨rfl, N12, Kk12, E_a1_12, F_a1_seconds_12, Fw12⟩
def Q13r (Z : State) (a1 : Addr) (q1 : Int64) (a2 : Addr) (zz : Addr) (h0 : Heap) (n0 : Nat) (v : Option Value) (h : Heap) (L : List Loc) : Prop := v = none ∧ Fr n0 L ∧ Keep h0 h [a1] ∧ Exa Z h a1 "com/example/governor/governor/core/UsageLine" ∧ Fld Z h a1 "com/example/governor/governor/core/UsageLine" "seconds" "J" (.long (0 : Int64)) ∧ Fld Z h a1 "com/example/governor/governor/core/UsageLine" "settingChange" "Lcom/example/governor/governor/core/FieldChange;" (.ref a2)
set_option maxRecDepth 65536 in
set_option maxHeartbeats 40000000 in
theorem rm13r (l : Launch) (Z : State) (a0 : Array Value) (hw : ∀ d ∈ tables_1, d.before a0 Z = true) (ws : List Jvm.Cond) (a1 : Addr) (q1 : Int64) (a2 : Addr) (zz : Addr) (h0 : Heap) (n0 : Nat) (Z0 : n0 ≤ h0.size) (F0 : Fld Z h0 a1 "com/example/governor/governor/core/UsageLine" "number" "J" (.long (0 : Int64))) (F1 : Fld Z h0 a1 "com/example/governor/governor/core/UsageLine" "seconds" "J" (.long (0 : Int64))) (F2 : Fld Z h0 a1 "com/example/governor/governor/core/UsageLine" "sessions" "J" (.long (0 : Int64))) (F3 : Fld Z h0 a1 "com/example/governor/governor/core/UsageLine" "vcoresUsed" "Ljava/math/BigDecimal;" .null) (F4 : Fld Z h0 a1 "com/example/governor/governor/core/UsageLine" "memoryGbUsed" "Ljava/math/BigDecimal;" .null) (F5 : Fld Z h0 a1 "com/example/governor/governor/core/UsageLine" "settingChange" "Lcom/example/governor/governor/core/FieldChange;" .null) (E1 : Exa Z h0 a1 "com/example/governor/governor/core/UsageLine") (g1 : n0 ≤ a1) (S1 : Sta Z h0 "java/math/BigDecimal" "ZERO" "Ljava/math/BigDecimal;" (.ref zz)) :
    MetFree l (⟨"com/example/governor/governor/core/UsageLine", "<init>", "(JLcom/example/governor/governor/core/FieldChange;)V"⟩ : MethodName) (head1 (Jvm.Cond.code (⟨"com/example/governor/governor/core/UsageLine", "<init>", "(JLcom/example/governor/governor/core/FieldChange;)V"⟩ : MethodName) prog_22_method_2_code 4 none :: ws) ({ frames := 1, cells := 0, slots := 0, locals := 12 } : Room)) (fun a U => a = #[(.ref a1), (.long q1), (.ref a2)] ∧ Z.Warmed39 U.vm ∧ U.heap = h0) (fun _ _ _ _ _ => True) (fun _ U o U' => ∃ v L, o = .returned v ∧ Q13r Z a1 q1 a2 zz h0 n0 v U'.heap L ∧ FrameEnd U o U' L ({ frames := 1, cells := 0, slots := 0, locals := 12 } : Room).cells ({ frames := 1, cells := 0, slots := 0, locals := 12 } : Room).slots) := by
  refine MetFree.of_bodySF (plainFor_of_name pn_13) hisR ?_
  intro p e s m args below meth c s₁ Bd hml0 hP hK
  obtain ⟨rfl, hZ, hh⟩ := hP
  have hx := Bd.exec
  have hby := Bd.bytes
  have hml : c.maxLocals = 4 := hml0
  have hown : s.vm.findClass "com/example/governor/governor/core/UsageLine" = some m.cls := findClass_of_methodNamed Bd.named
  have hnm := (name_of_methodNamed Bd.named Bd.method).1
  have X0 : Stand p l e ({ frames := 1, cells := 0, slots := 0, locals := 12 } : Room) s m #[(.ref a1), (.long q1), (.ref a2)] below meth c s₁ [] 0 0 := Stand.of_body Bd
  have e0 : s₁.heap = h0 := by rw [← hh, Bd.state]; rfl
  have N0 := Fr.nil n0
  have pre0 : ∀ t, Steps p.tables e below (s₁.setTop (mkF m 0 #[.val (.ref a1), .val (.long q1), .second, .val (.ref a2)] [])) t → Steps p.tables e below (s₁.setTop (entryFrame m #[(.ref a1), (.long q1), (.ref a2)] 4)) t := fun t k => castTop (ef_13r m a1 q1 a2) k
  have KK0 := Keep.refl h0 [a1]
  obtain ⟨T1, X1, e1, st1⟩ := initO X0 hx hZ hown (hw _ (List.mem_of_getElem? (i := 6) rfl)) (hw _ (List.mem_of_getElem? (i := 7) rfl)) (hw _ (List.mem_of_getElem? (i := 8) rfl)) e0 (g := (mkF m 1 #[.val (.ref a1), .val (.long q1), .second, .val (.ref a2)] [(.ref a1)])) rfl (by rw [hml]; rfl) rfl (hb hby d13_1) (by decide) (W := 0) (by show 2 * 0 + _ ≤ _; exact Nat.le_of_eq rfl) (by decide)
  obtain ⟨T2, h2, X2, e2, W2, st2⟩ := putF X1 hx hZ hown (host := "") (Or.inl (hw _ (List.mem_of_getElem? (i := 9) rfl))) Via.refl e1 F0 E1 (Or.inr ⟨(hw _ (List.mem_of_getElem? (i := 10) rfl)), rfl, hnm⟩) (hw _ (List.mem_of_getElem? (i := 1) rfl)) (ty := .long) (by decide) rfl rfl (g := (mkF m 6 #[.val (.ref a1), .val (.long q1), .second, .val (.ref a2)] [(.long q1), (.ref a1)])) rfl rfl (hb hby d13_6)
  have N2 := Fr.snoc X2 N0 g1
  have Fw2 := Fld.same W2 F0
  have F_a1_seconds_2 := F1.other W2 (Or.inr (slot_ne (Or.inr (hw _ (List.mem_of_getElem? (i := 12) rfl))) (Or.inr (hw _ (List.mem_of_getElem? (i := 10) rfl))) (by decide) (t := .long) (t' := .long) (by decide) (by decide)))
  have F_a1_sessions_2 := F2.other W2 (Or.inr (slot_ne (Or.inr (hw _ (List.mem_of_getElem? (i := 14) rfl))) (Or.inr (hw _ (List.mem_of_getElem? (i := 10) rfl))) (by decide) (t := .long) (t' := .long) (by decide) (by decide)))
  have F_a1_vcoresUsed_2 := F3.other W2 (Or.inr (slot_ne (Or.inr (hw _ (List.mem_of_getElem? (i := 16) rfl))) (Or.inr (hw _ (List.mem_of_getElem? (i := 10) rfl))) (by decide) (t := (.object "java/math/BigDecimal")) (t' := .long) (by decide) (by decide)))
  have F_a1_memoryGbUsed_2 := F4.other W2 (Or.inr (slot_ne (Or.inr (hw _ (List.mem_of_getElem? (i := 18) rfl))) (Or.inr (hw _ (List.mem_of_getElem? (i := 10) rfl))) (by decide) (t := (.object "java/math/BigDecimal")) (t' := .long) (by decide) (by decide)))
  have F_a1_settingChange_2 := F5.other W2 (Or.inr (slot_ne (Or.inr (hw _ (List.mem_of_getElem? (i := 20) rfl))) (Or.inr (hw _ (List.mem_of_getElem? (i := 10) rfl))) (by decide) (t := (.object "com/example/governor/governor/core/FieldChange")) (t' := .long) (by decide) (by decide)))
  have E_a1_2 := E1.wr W2
  have S_java_math_BigDecimal_ZERO_2 := S1.wr W2
  have Zs3 := Nat.le_trans Z0 (Keep.of_wr W2).1
  have Kk2 := KK0.wr W2 (Or.inl (List.mem_of_getElem? (i := 0) rfl))
  obtain ⟨T4, h4, X4, e4, W4, st4⟩ := putF X2 hx hZ hown (host := "") (Or.inl (hw _ (List.mem_of_getElem? (i := 11) rfl))) Via.refl e2 F_a1_seconds_2 E_a1_2 (Or.inr ⟨(hw _ (List.mem_of_getElem? (i := 12) rfl)), rfl, hnm⟩) (hw _ (List.mem_of_getElem? (i := 1) rfl)) (ty := .long) (by decide) rfl rfl (g := (mkF m 11 #[.val (.ref a1), .val (.long q1), .second, .val (.ref a2)] [(.long (0 : Int64)), (.ref a1)])) rfl rfl (hb hby d13_11)
  have N4 := Fr.snoc X4 N2 g1
  have Fw4 := Fld.same W4 F_a1_seconds_2
  have F_a1_number_4 := Fw2.other W4 (Or.inr (slot_ne (Or.inr (hw _ (List.mem_of_getElem? (i := 10) rfl))) (Or.inr (hw _ (List.mem_of_getElem? (i := 12) rfl))) (by decide) (t := .long) (t' := .long) (by decide) (by decide)))
  have F_a1_sessions_4 := F_a1_sessions_2.other W4 (Or.inr (slot_ne (Or.inr (hw _ (List.mem_of_getElem? (i := 14) rfl))) (Or.inr (hw _ (List.mem_of_getElem? (i := 12) rfl))) (by decide) (t := .long) (t' := .long) (by decide) (by decide)))
  have F_a1_vcoresUsed_4 := F_a1_vcoresUsed_2.other W4 (Or.inr (slot_ne (Or.inr (hw _ (List.mem_of_getElem? (i := 16) rfl))) (Or.inr (hw _ (List.mem_of_getElem? (i := 12) rfl))) (by decide) (t := (.object "java/math/BigDecimal")) (t' := .long) (by decide) (by decide)))
  have F_a1_memoryGbUsed_4 := F_a1_memoryGbUsed_2.other W4 (Or.inr (slot_ne (Or.inr (hw _ (List.mem_of_getElem? (i := 18) rfl))) (Or.inr (hw _ (List.mem_of_getElem? (i := 12) rfl))) (by decide) (t := (.object "java/math/BigDecimal")) (t' := .long) (by decide) (by decide)))
  have F_a1_settingChange_4 := F_a1_settingChange_2.other W4 (Or.inr (slot_ne (Or.inr (hw _ (List.mem_of_getElem? (i := 20) rfl))) (Or.inr (hw _ (List.mem_of_getElem? (i := 12) rfl))) (by decide) (t := (.object "com/example/governor/governor/core/FieldChange")) (t' := .long) (by decide) (by decide)))
  have E_a1_4 := E_a1_2.wr W4
  have S_java_math_BigDecimal_ZERO_4 := S_java_math_BigDecimal_ZERO_2.wr W4
  have Zs5 := Nat.le_trans Zs3 (Keep.of_wr W4).1
  have Kk4 := Kk2.wr W4 (Or.inl (List.mem_of_getElem? (i := 0) rfl))
  obtain ⟨T6, h6, X6, e6, W6, st6⟩ := putF X4 hx hZ hown (host := "") (Or.inl (hw _ (List.mem_of_getElem? (i := 13) rfl))) Via.refl e4 F_a1_sessions_4 E_a1_4 (Or.inr ⟨(hw _ (List.mem_of_getElem? (i := 14) rfl)), rfl, hnm⟩) (hw _ (List.mem_of_getElem? (i := 1) rfl)) (ty := .long) (by decide) rfl rfl (g := (mkF m 16 #[.val (.ref a1), .val (.long q1), .second, .val (.ref a2)] [(.long (0 : Int64)), (.ref a1)])) rfl rfl (hb hby d13_16)
  have N6 := Fr.snoc X6 N4 g1
  have Fw6 := Fld.same W6 F_a1_sessions_4
  have F_a1_number_6 := F_a1_number_4.other W6 (Or.inr (slot_ne (Or.inr (hw _ (List.mem_of_getElem? (i := 10) rfl))) (Or.inr (hw _ (List.mem_of_getElem? (i := 14) rfl))) (by decide) (t := .long) (t' := .long) (by decide) (by decide)))
  have F_a1_seconds_6 := Fw4.other W6 (Or.inr (slot_ne (Or.inr (hw _ (List.mem_of_getElem? (i := 12) rfl))) (Or.inr (hw _ (List.mem_of_getElem? (i := 14) rfl))) (by decide) (t := .long) (t' := .long) (by decide) (by decide)))
  have F_a1_vcoresUsed_6 := F_a1_vcoresUsed_4.other W6 (Or.inr (slot_ne (Or.inr (hw _ (List.mem_of_getElem? (i := 16) rfl))) (Or.inr (hw _ (List.mem_of_getElem? (i := 14) rfl))) (by decide) (t := (.object "java/math/BigDecimal")) (t' := .long) (by decide) (by decide)))
  have F_a1_memoryGbUsed_6 := F_a1_memoryGbUsed_4.other W6 (Or.inr (slot_ne (Or.inr (hw _ (List.mem_of_getElem? (i := 18) rfl))) (Or.inr (hw _ (List.mem_of_getElem? (i := 14) rfl))) (by decide) (t := (.object "java/math/BigDecimal")) (t' := .long) (by decide) (by decide)))
  have F_a1_settingChange_6 := F_a1_settingChange_4.other W6 (Or.inr (slot_ne (Or.inr (hw _ (List.mem_of_getElem? (i := 20) rfl))) (Or.inr (hw _ (List.mem_of_getElem? (i := 14) rfl))) (by decide) (t := (.object "com/example/governor/governor/core/FieldChange")) (t' := .long) (by decide) (by decide)))
  have E_a1_6 := E_a1_4.wr W6
  have S_java_math_BigDecimal_ZERO_6 := S_java_math_BigDecimal_ZERO_4.wr W6
  have Zs7 := Nat.le_trans Zs5 (Keep.of_wr W6).1
  have Kk6 := Kk4.wr W6 (Or.inl (List.mem_of_getElem? (i := 0) rfl))
  obtain ⟨T8, X8, e8, st8⟩ := getS2 X6 hx hZ hown (host := "") (Or.inl (hw _ (List.mem_of_getElem? (i := 79) rfl))) Via.refl e6 S_java_math_BigDecimal_ZERO_6 (g := (mkF m 20 #[.val (.ref a1), .val (.long q1), .second, .val (.ref a2)] [(.ref a1)])) rfl (hb hby d13_20)
  obtain ⟨T9, h9, X9, e9, W9, st9⟩ := putF X8 hx hZ hown (host := "") (Or.inl (hw _ (List.mem_of_getElem? (i := 15) rfl))) Via.refl e8 F_a1_vcoresUsed_6 E_a1_6 (Or.inr ⟨(hw _ (List.mem_of_getElem? (i := 16) rfl)), rfl, hnm⟩) (hw _ (List.mem_of_getElem? (i := 1) rfl)) (ty := (.object "java/math/BigDecimal")) (by decide) rfl rfl (g := (mkF m 23 #[.val (.ref a1), .val (.long q1), .second, .val (.ref a2)] [(.ref zz), (.ref a1)])) rfl rfl (hb hby d13_23)
  have N9 := Fr.snoc X9 N6 g1
  have Fw9 := Fld.same W9 F_a1_vcoresUsed_6
  have F_a1_number_9 := F_a1_number_6.other W9 (Or.inr (slot_ne (Or.inr (hw _ (List.mem_of_getElem? (i := 10) rfl))) (Or.inr (hw _ (List.mem_of_getElem? (i := 16) rfl))) (by decide) (t := .long) (t' := (.object "java/math/BigDecimal")) (by decide) (by decide)))
  have F_a1_seconds_9 := F_a1_seconds_6.other W9 (Or.inr (slot_ne (Or.inr (hw _ (List.mem_of_getElem? (i := 12) rfl))) (Or.inr (hw _ (List.mem_of_getElem? (i := 16) rfl))) (by decide) (t := .long) (t' := (.object "java/math/BigDecimal")) (by decide) (by decide)))
  have F_a1_sessions_9 := Fw6.other W9 (Or.inr (slot_ne (Or.inr (hw _ (List.mem_of_getElem? (i := 14) rfl))) (Or.inr (hw _ (List.mem_of_getElem? (i := 16) rfl))) (by decide) (t := .long) (t' := (.object "java/math/BigDecimal")) (by decide) (by decide)))
  have F_a1_memoryGbUsed_9 := F_a1_memoryGbUsed_6.other W9 (Or.inr (slot_ne (Or.inr (hw _ (List.mem_of_getElem? (i := 18) rfl))) (Or.inr (hw _ (List.mem_of_getElem? (i := 16) rfl))) (by decide) (t := (.object "java/math/BigDecimal")) (t' := (.object "java/math/BigDecimal")) (by decide) (by decide)))
  have F_a1_settingChange_9 := F_a1_settingChange_6.other W9 (Or.inr (slot_ne (Or.inr (hw _ (List.mem_of_getElem? (i := 20) rfl))) (Or.inr (hw _ (List.mem_of_getElem? (i := 16) rfl))) (by decide) (t := (.object "com/example/governor/governor/core/FieldChange")) (t' := (.object "java/math/BigDecimal")) (by decide) (by decide)))
  have E_a1_9 := E_a1_6.wr W9
  have S_java_math_BigDecimal_ZERO_9 := S_java_math_BigDecimal_ZERO_6.wr W9
  have Zs10 := Nat.le_trans Zs7 (Keep.of_wr W9).1
  have Kk9 := Kk6.wr W9 (Or.inl (List.mem_of_getElem? (i := 0) rfl))
  obtain ⟨T11, X11, e11, st11⟩ := getS2 X9 hx hZ hown (host := "") (Or.inl (hw _ (List.mem_of_getElem? (i := 79) rfl))) Via.refl e9 S_java_math_BigDecimal_ZERO_9 (g := (mkF m 27 #[.val (.ref a1), .val (.long q1), .second, .val (.ref a2)] [(.ref a1)])) rfl (hb hby d13_27)
  obtain ⟨T12, h12, X12, e12, W12, st12⟩ := putF X11 hx hZ hown (host := "") (Or.inl (hw _ (List.mem_of_getElem? (i := 17) rfl))) Via.refl e11 F_a1_memoryGbUsed_9 E_a1_9 (Or.inr ⟨(hw _ (List.mem_of_getElem? (i := 18) rfl)), rfl, hnm⟩) (hw _ (List.mem_of_getElem? (i := 1) rfl)) (ty := (.object "java/math/BigDecimal")) (by decide) rfl rfl (g := (mkF m 30 #[.val (.ref a1), .val (.long q1), .second, .val (.ref a2)] [(.ref zz), (.ref a1)])) rfl rfl (hb hby d13_30)
  have N12 := Fr.snoc X12 N9 g1
  have Fw12 := Fld.same W12 F_a1_memoryGbUsed_9
  have F_a1_number_12 := F_a1_number_9.other W12 (Or.inr (slot_ne (Or.inr (hw _ (List.mem_of_getElem? (i := 10) rfl))) (Or.inr (hw _ (List.mem_of_getElem? (i := 18) rfl))) (by decide) (t := .long) (t' := (.object "java/math/BigDecimal")) (by decide) (by decide)))
  have F_a1_seconds_12 := F_a1_seconds_9.other W12 (Or.inr (slot_ne (Or.inr (hw _ (List.mem_of_getElem? (i := 12) rfl))) (Or.inr (hw _ (List.mem_of_getElem? (i := 18) rfl))) (by decide) (t := .long) (t' := (.object "java/math/BigDecimal")) (by decide) (by decide)))
  have F_a1_sessions_12 := F_a1_sessions_9.other W12 (Or.inr (slot_ne (Or.inr (hw _ (List.mem_of_getElem? (i := 14) rfl))) (Or.inr (hw _ (List.mem_of_getElem? (i := 18) rfl))) (by decide) (t := .long) (t' := (.object "java/math/BigDecimal")) (by decide) (by decide)))
  have F_a1_vcoresUsed_12 := Fw9.other W12 (Or.inr (slot_ne (Or.inr (hw _ (List.mem_of_getElem? (i := 16) rfl))) (Or.inr (hw _ (List.mem_of_getElem? (i := 18) rfl))) (by decide) (t := (.object "java/math/BigDecimal")) (t' := (.object "java/math/BigDecimal")) (by decide) (by decide)))
  have F_a1_settingChange_12 := F_a1_settingChange_9.other W12 (Or.inr (slot_ne (Or.inr (hw _ (List.mem_of_getElem? (i := 20) rfl))) (Or.inr (hw _ (List.mem_of_getElem? (i := 18) rfl))) (by decide) (t := (.object "com/example/governor/governor/core/FieldChange")) (t' := (.object "java/math/BigDecimal")) (by decide) (by decide)))
  have E_a1_12 := E_a1_9.wr W12
  have S_java_math_BigDecimal_ZERO_12 := S_java_math_BigDecimal_ZERO_9.wr W12
  have Zs13 := Nat.le_trans Zs10 (Keep.of_wr W12).1
  have Kk12 := Kk9.wr W12 (Or.inl (List.mem_of_getElem? (i := 0) rfl))
  obtain ⟨T14, h14, X14, e14, W14, st14⟩ := putF X12 hx hZ hown (host := "") (Or.inl (hw _ (List.mem_of_getElem? (i := 19) rfl))) Via.refl e12 F_a1_settingChange_12 E_a1_12 (Or.inr ⟨(hw _ (List.mem_of_getElem? (i := 20) rfl)), rfl, hnm⟩) (hw _ (List.mem_of_getElem? (i := 1) rfl)) (ty := (.object "com/example/governor/governor/core/FieldChange")) (by decide) rfl rfl (g := (mkF m 35 #[.val (.ref a1), .val (.long q1), .second, .val (.ref a2)] [(.ref a2), (.ref a1)])) rfl rfl (hb hby d13_35)
  have N14 := Fr.snoc X14 N12 g1
  have Fw14 := Fld.same W14 F_a1_settingChange_12
  have F_a1_number_14 := F_a1_number_12.other W14 (Or.inr (slot_ne (Or.inr (hw _ (List.mem_of_getElem? (i := 10) rfl))) (Or.inr (hw _ (List.mem_of_getElem? (i := 20) rfl))) (by decide) (t := .long) (t' := (.object "com/example/governor/governor/core/FieldChange")) (by decide) (by decide)))
  have F_a1_seconds_14 := F_a1_seconds_12.other W14 (Or.inr (slot_ne (Or.inr (hw _ (List.mem_of_getElem? (i := 12) rfl))) (Or.inr (hw _ (List.mem_of_getElem? (i := 20) rfl))) (by decide) (t := .long) (t' := (.object "com/example/governor/governor/core/FieldChange")) (by decide) (by decide)))
  have F_a1_sessions_14 := F_a1_sessions_12.other W14 (Or.inr (slot_ne (Or.inr (hw _ (List.mem_of_getElem? (i := 14) rfl))) (Or.inr (hw _ (List.mem_of_getElem? (i := 20) rfl))) (by decide) (t := .long) (t' := (.object "com/example/governor/governor/core/FieldChange")) (by decide) (by decide)))
  have F_a1_vcoresUsed_14 := F_a1_vcoresUsed_12.other W14 (Or.inr (slot_ne (Or.inr (hw _ (List.mem_of_getElem? (i := 16) rfl))) (Or.inr (hw _ (List.mem_of_getElem? (i := 20) rfl))) (by decide) (t := (.object "java/math/BigDecimal")) (t' := (.object "com/example/governor/governor/core/FieldChange")) (by decide) (by decide)))
  have F_a1_memoryGbUsed_14 := Fw12.other W14 (Or.inr (slot_ne (Or.inr (hw _ (List.mem_of_getElem? (i := 18) rfl))) (Or.inr (hw _ (List.mem_of_getElem? (i := 20) rfl))) (by decide) (t := (.object "java/math/BigDecimal")) (t' := (.object "com/example/governor/governor/core/FieldChange")) (by decide) (by decide)))
  have E_a1_14 := E_a1_12.wr W14
  have S_java_math_BigDecimal_ZERO_14 := S_java_math_BigDecimal_ZERO_12.wr W14
  have Zs15 := Nat.le_trans Zs13 (Keep.of_wr W14).1
  have Kk14 := Kk12.wr W14 (Or.inl (List.mem_of_getElem? (i := 0) rfl))
  obtain ⟨fs, hr, hrun, hended, hW, hsame⟩ := X14.leave (v := none) (fun _ => rfl)
  refine ⟨_, _, pre0 _ ?_, hrun, hended, _, _, rfl, ?_, ⟨_, rfl⟩, hW, hsame.mono (by decide) (by decide)⟩
  · show Steps p.tables e below (s₁.setTop (mkF m 0 #[.val (.ref a1), .val (.long q1), .second, .val (.ref a2)] [])) _
    refine XS.aloadN X0.here hx rfl (hb hby d13_0) rfl rfl ?_
    show Steps p.tables e below (s₁.setTop (mkF m 1 #[.val (.ref a1), .val (.long q1), .second, .val (.ref a2)] [(.ref a1)])) _
    refine st1 _ ?_
    show Steps p.tables e below (T1.setTop (mkF m 4 #[.val (.ref a1), .val (.long q1), .second, .val (.ref a2)] [])) _
    refine XS.aloadN X1.here hx rfl (hb hby d13_4) rfl rfl ?_
    show Steps p.tables e below (T1.setTop (mkF m 5 #[.val (.ref a1), .val (.long q1), .second, .val (.ref a2)] [(.ref a1)])) _
    refine XS.lloadN X1.here hx rfl (hb hby d13_5) rfl ?_
    show Steps p.tables e below (T1.setTop (mkF m 6 #[.val (.ref a1), .val (.long q1), .second, .val (.ref a2)] [(.long q1), (.ref a1)])) _
    refine st2 _ ?_
    show Steps p.tables e below (T2.setTop (mkF m 9 #[.val (.ref a1), .val (.long q1), .second, .val (.ref a2)] [])) _
    refine XS.aloadN X2.here hx rfl (hb hby d13_9) rfl rfl ?_
    show Steps p.tables e below (T2.setTop (mkF m 10 #[.val (.ref a1), .val (.long q1), .second, .val (.ref a2)] [(.ref a1)])) _
    refine XS.lconst X2.here hx rfl (hb hby d13_10) ?_
    show Steps p.tables e below (T2.setTop (mkF m 11 #[.val (.ref a1), .val (.long q1), .second, .val (.ref a2)] [(.long (0 : Int64)), (.ref a1)])) _
    refine st4 _ ?_
    show Steps p.tables e below (T4.setTop (mkF m 14 #[.val (.ref a1), .val (.long q1), .second, .val (.ref a2)] [])) _
    refine XS.aloadN X4.here hx rfl (hb hby d13_14) rfl rfl ?_
    show Steps p.tables e below (T4.setTop (mkF m 15 #[.val (.ref a1), .val (.long q1), .second, .val (.ref a2)] [(.ref a1)])) _
    refine XS.lconst X4.here hx rfl (hb hby d13_15) ?_
    show Steps p.tables e below (T4.setTop (mkF m 16 #[.val (.ref a1), .val (.long q1), .second, .val (.ref a2)] [(.long (0 : Int64)), (.ref a1)])) _
    refine st6 _ ?_
    show Steps p.tables e below (T6.setTop (mkF m 19 #[.val (.ref a1), .val (.long q1), .second, .val (.ref a2)] [])) _
    refine XS.aloadN X6.here hx rfl (hb hby d13_19) rfl rfl ?_
    show Steps p.tables e below (T6.setTop (mkF m 20 #[.val (.ref a1), .val (.long q1), .second, .val (.ref a2)] [(.ref a1)])) _
    refine st8 _ ?_
    show Steps p.tables e below (T8.setTop (mkF m 23 #[.val (.ref a1), .val (.long q1), .second, .val (.ref a2)] [(.ref zz), (.ref a1)])) _
    refine st9 _ ?_
    show Steps p.tables e below (T9.setTop (mkF m 26 #[.val (.ref a1), .val (.long q1), .second, .val (.ref a2)] [])) _
    refine XS.aloadN X9.here hx rfl (hb hby d13_26) rfl rfl ?_
    show Steps p.tables e below (T9.setTop (mkF m 27 #[.val (.ref a1), .val (.long q1), .second, .val (.ref a2)] [(.ref a1)])) _
    refine st11 _ ?_
    show Steps p.tables e below (T11.setTop (mkF m 30 #[.val (.ref a1), .val (.long q1), .second, .val (.ref a2)] [(.ref zz), (.ref a1)])) _
    refine st12 _ ?_
    show Steps p.tables e below (T12.setTop (mkF m 33 #[.val (.ref a1), .val (.long q1), .second, .val (.ref a2)] [])) _
    refine XS.aloadN X12.here hx rfl (hb hby d13_33) rfl rfl ?_
    show Steps p.tables e below (T12.setTop (mkF m 34 #[.val (.ref a1), .val (.long q1), .second, .val (.ref a2)] [(.ref a1)])) _
    refine XS.aloadN X12.here hx rfl (hb hby d13_34) rfl rfl ?_
    show Steps p.tables e below (T12.setTop (mkF m 35 #[.val (.ref a1), .val (.long q1), .second, .val (.ref a2)] [(.ref a2), (.ref a1)])) _
    refine st14 _ ?_
    show Steps p.tables e below (T14.setTop (mkF m 38 #[.val (.ref a1), .val (.long q1), .second, .val (.ref a2)] [])) _
    exact X14.returnOut hx Bd.returns (hb hby d13_38) hr
  · show Q13r Z a1 q1 a2 zz h0 n0 _ T14.heap _
    rw [e14]
    exact ⟨rfl, N14, Kk14, E_a1_14, F_a1_seconds_14, Fw14⟩
def Q13n (Z : State) (a1 : Addr) (q1 : Int64) (zz : Addr) (h0 : Heap) (n0 : Nat) (v : Option Value) (h : Heap) (L : List Loc) : Prop := v = none ∧ Fr n0 L ∧ Keep h0 h [a1] ∧ Exa Z h a1 "com/example/governor/governor/core/UsageLine" ∧ Fld Z h a1 "com/example/governor/governor/core/UsageLine" "seconds" "J" (.long (0 : Int64)) ∧ Fld Z h a1 "com/example/governor/governor/core/UsageLine" "settingChange" "Lcom/example/governor/governor/core/FieldChange;" .null
set_option maxRecDepth 65536 in
set_option maxHeartbeats 40000000 in
theorem rm13n (l : Launch) (Z : State) (a0 : Array Value) (hw : ∀ d ∈ tables_1, d.before a0 Z = true) (ws : List Jvm.Cond) (a1 : Addr) (q1 : Int64) (zz : Addr) (h0 : Heap) (n0 : Nat) (Z0 : n0 ≤ h0.size) (F0 : Fld Z h0 a1 "com/example/governor/governor/core/UsageLine" "number" "J" (.long (0 : Int64))) (F1 : Fld Z h0 a1 "com/example/governor/governor/core/UsageLine" "seconds" "J" (.long (0 : Int64))) (F2 : Fld Z h0 a1 "com/example/governor/governor/core/UsageLine" "sessions" "J" (.long (0 : Int64))) (F3 : Fld Z h0 a1 "com/example/governor/governor/core/UsageLine" "vcoresUsed" "Ljava/math/BigDecimal;" .null) (F4 : Fld Z h0 a1 "com/example/governor/governor/core/UsageLine" "memoryGbUsed" "Ljava/math/BigDecimal;" .null) (F5 : Fld Z h0 a1 "com/example/governor/governor/core/UsageLine" "settingChange" "Lcom/example/governor/governor/core/FieldChange;" .null) (E1 : Exa Z h0 a1 "com/example/governor/governor/core/UsageLine") (g1 : n0 ≤ a1) (S1 : Sta Z h0 "java/math/BigDecimal" "ZERO" "Ljava/math/BigDecimal;" (.ref zz)) :
    MetFree l (⟨"com/example/governor/governor/core/UsageLine", "<init>", "(JLcom/example/governor/governor/core/FieldChange;)V"⟩ : MethodName) (head1 (Jvm.Cond.code (⟨"com/example/governor/governor/core/UsageLine", "<init>", "(JLcom/example/governor/governor/core/FieldChange;)V"⟩ : MethodName) prog_22_method_2_code 4 none :: ws) ({ frames := 1, cells := 0, slots := 0, locals := 12 } : Room)) (fun a U => a = #[(.ref a1), (.long q1), .null] ∧ Z.Warmed39 U.vm ∧ U.heap = h0) (fun _ _ _ _ _ => True) (fun _ U o U' => ∃ v L, o = .returned v ∧ Q13n Z a1 q1 zz h0 n0 v U'.heap L ∧ FrameEnd U o U' L ({ frames := 1, cells := 0, slots := 0, locals := 12 } : Room).cells ({ frames := 1, cells := 0, slots := 0, locals := 12 } : Room).slots) := by
  refine MetFree.of_bodySF (plainFor_of_name pn_13) hisR ?_
  intro p e s m args below meth c s₁ Bd hml0 hP hK
  obtain ⟨rfl, hZ, hh⟩ := hP
  have hx := Bd.exec
  have hby := Bd.bytes
  have hml : c.maxLocals = 4 := hml0
  have hown : s.vm.findClass "com/example/governor/governor/core/UsageLine" = some m.cls := findClass_of_methodNamed Bd.named
  have hnm := (name_of_methodNamed Bd.named Bd.method).1
  have X0 : Stand p l e ({ frames := 1, cells := 0, slots := 0, locals := 12 } : Room) s m #[(.ref a1), (.long q1), .null] below meth c s₁ [] 0 0 := Stand.of_body Bd
  have e0 : s₁.heap = h0 := by rw [← hh, Bd.state]; rfl
  have N0 := Fr.nil n0
  have pre0 : ∀ t, Steps p.tables e below (s₁.setTop (mkF m 0 #[.val (.ref a1), .val (.long q1), .second, .val .null] [])) t → Steps p.tables e below (s₁.setTop (entryFrame m #[(.ref a1), (.long q1), .null] 4)) t := fun t k => castTop (ef_13n m a1 q1) k
  have KK0 := Keep.refl h0 [a1]
  obtain ⟨T1, X1, e1, st1⟩ := initO X0 hx hZ hown (hw _ (List.mem_of_getElem? (i := 6) rfl)) (hw _ (List.mem_of_getElem? (i := 7) rfl)) (hw _ (List.mem_of_getElem? (i := 8) rfl)) e0 (g := (mkF m 1 #[.val (.ref a1), .val (.long q1), .second, .val .null] [(.ref a1)])) rfl (by rw [hml]; rfl) rfl (hb hby d13_1) (by decide) (W := 0) (by show 2 * 0 + _ ≤ _; exact Nat.le_of_eq rfl) (by decide)
  obtain ⟨T2, h2, X2, e2, W2, st2⟩ := putF X1 hx hZ hown (host := "") (Or.inl (hw _ (List.mem_of_getElem? (i := 9) rfl))) Via.refl e1 F0 E1 (Or.inr ⟨(hw _ (List.mem_of_getElem? (i := 10) rfl)), rfl, hnm⟩) (hw _ (List.mem_of_getElem? (i := 1) rfl)) (ty := .long) (by decide) rfl rfl (g := (mkF m 6 #[.val (.ref a1), .val (.long q1), .second, .val .null] [(.long q1), (.ref a1)])) rfl rfl (hb hby d13_6)
  have N2 := Fr.snoc X2 N0 g1
  have Fw2 := Fld.same W2 F0
  have F_a1_seconds_2 := F1.other W2 (Or.inr (slot_ne (Or.inr (hw _ (List.mem_of_getElem? (i := 12) rfl))) (Or.inr (hw _ (List.mem_of_getElem? (i := 10) rfl))) (by decide) (t := .long) (t' := .long) (by decide) (by decide)))
  have F_a1_sessions_2 := F2.other W2 (Or.inr (slot_ne (Or.inr (hw _ (List.mem_of_getElem? (i := 14) rfl))) (Or.inr (hw _ (List.mem_of_getElem? (i := 10) rfl))) (by decide) (t := .long) (t' := .long) (by decide) (by decide)))
  have F_a1_vcoresUsed_2 := F3.other W2 (Or.inr (slot_ne (Or.inr (hw _ (List.mem_of_getElem? (i := 16) rfl))) (Or.inr (hw _ (List.mem_of_getElem? (i := 10) rfl))) (by decide) (t := (.object "java/math/BigDecimal")) (t' := .long) (by decide) (by decide)))
  have F_a1_memoryGbUsed_2 := F4.other W2 (Or.inr (slot_ne (Or.inr (hw _ (List.mem_of_getElem? (i := 18) rfl))) (Or.inr (hw _ (List.mem_of_getElem? (i := 10) rfl))) (by decide) (t := (.object "java/math/BigDecimal")) (t' := .long) (by decide) (by decide)))
  have F_a1_settingChange_2 := F5.other W2 (Or.inr (slot_ne (Or.inr (hw _ (List.mem_of_getElem? (i := 20) rfl))) (Or.inr (hw _ (List.mem_of_getElem? (i := 10) rfl))) (by decide) (t := (.object "com/example/governor/governor/core/FieldChange")) (t' := .long) (by decide) (by decide)))
  have E_a1_2 := E1.wr W2
  have S_java_math_BigDecimal_ZERO_2 := S1.wr W2
  have Zs3 := Nat.le_trans Z0 (Keep.of_wr W2).1
  have Kk2 := KK0.wr W2 (Or.inl (List.mem_of_getElem? (i := 0) rfl))
  obtain ⟨T4, h4, X4, e4, W4, st4⟩ := putF X2 hx hZ hown (host := "") (Or.inl (hw _ (List.mem_of_getElem? (i := 11) rfl))) Via.refl e2 F_a1_seconds_2 E_a1_2 (Or.inr ⟨(hw _ (List.mem_of_getElem? (i := 12) rfl)), rfl, hnm⟩) (hw _ (List.mem_of_getElem? (i := 1) rfl)) (ty := .long) (by decide) rfl rfl (g := (mkF m 11 #[.val (.ref a1), .val (.long q1), .second, .val .null] [(.long (0 : Int64)), (.ref a1)])) rfl rfl (hb hby d13_11)
  have N4 := Fr.snoc X4 N2 g1
  have Fw4 := Fld.same W4 F_a1_seconds_2
  have F_a1_number_4 := Fw2.other W4 (Or.inr (slot_ne (Or.inr (hw _ (List.mem_of_getElem? (i := 10) rfl))) (Or.inr (hw _ (List.mem_of_getElem? (i := 12) rfl))) (by decide) (t := .long) (t' := .long) (by decide) (by decide)))
  have F_a1_sessions_4 := F_a1_sessions_2.other W4 (Or.inr (slot_ne (Or.inr (hw _ (List.mem_of_getElem? (i := 14) rfl))) (Or.inr (hw _ (List.mem_of_getElem? (i := 12) rfl))) (by decide) (t := .long) (t' := .long) (by decide) (by decide)))
  have F_a1_vcoresUsed_4 := F_a1_vcoresUsed_2.other W4 (Or.inr (slot_ne (Or.inr (hw _ (List.mem_of_getElem? (i := 16) rfl))) (Or.inr (hw _ (List.mem_of_getElem? (i := 12) rfl))) (by decide) (t := (.object "java/math/BigDecimal")) (t' := .long) (by decide) (by decide)))
  have F_a1_memoryGbUsed_4 := F_a1_memoryGbUsed_2.other W4 (Or.inr (slot_ne (Or.inr (hw _ (List.mem_of_getElem? (i := 18) rfl))) (Or.inr (hw _ (List.mem_of_getElem? (i := 12) rfl))) (by decide) (t := (.object "java/math/BigDecimal")) (t' := .long) (by decide) (by decide)))
  have F_a1_settingChange_4 := F_a1_settingChange_2.other W4 (Or.inr (slot_ne (Or.inr (hw _ (List.mem_of_getElem? (i := 20) rfl))) (Or.inr (hw _ (List.mem_of_getElem? (i := 12) rfl))) (by decide) (t := (.object "com/example/governor/governor/core/FieldChange")) (t' := .long) (by decide) (by decide)))
  have E_a1_4 := E_a1_2.wr W4
  have S_java_math_BigDecimal_ZERO_4 := S_java_math_BigDecimal_ZERO_2.wr W4
  have Zs5 := Nat.le_trans Zs3 (Keep.of_wr W4).1
  have Kk4 := Kk2.wr W4 (Or.inl (List.mem_of_getElem? (i := 0) rfl))
  obtain ⟨T6, h6, X6, e6, W6, st6⟩ := putF X4 hx hZ hown (host := "") (Or.inl (hw _ (List.mem_of_getElem? (i := 13) rfl))) Via.refl e4 F_a1_sessions_4 E_a1_4 (Or.inr ⟨(hw _ (List.mem_of_getElem? (i := 14) rfl)), rfl, hnm⟩) (hw _ (List.mem_of_getElem? (i := 1) rfl)) (ty := .long) (by decide) rfl rfl (g := (mkF m 16 #[.val (.ref a1), .val (.long q1), .second, .val .null] [(.long (0 : Int64)), (.ref a1)])) rfl rfl (hb hby d13_16)
  have N6 := Fr.snoc X6 N4 g1
  have Fw6 := Fld.same W6 F_a1_sessions_4
  have F_a1_number_6 := F_a1_number_4.other W6 (Or.inr (slot_ne (Or.inr (hw _ (List.mem_of_getElem? (i := 10) rfl))) (Or.inr (hw _ (List.mem_of_getElem? (i := 14) rfl))) (by decide) (t := .long) (t' := .long) (by decide) (by decide)))
  have F_a1_seconds_6 := Fw4.other W6 (Or.inr (slot_ne (Or.inr (hw _ (List.mem_of_getElem? (i := 12) rfl))) (Or.inr (hw _ (List.mem_of_getElem? (i := 14) rfl))) (by decide) (t := .long) (t' := .long) (by decide) (by decide)))
  have F_a1_vcoresUsed_6 := F_a1_vcoresUsed_4.other W6 (Or.inr (slot_ne (Or.inr (hw _ (List.mem_of_getElem? (i := 16) rfl))) (Or.inr (hw _ (List.mem_of_getElem? (i := 14) rfl))) (by decide) (t := (.object "java/math/BigDecimal")) (t' := .long) (by decide) (by decide)))
  have F_a1_memoryGbUsed_6 := F_a1_memoryGbUsed_4.other W6 (Or.inr (slot_ne (Or.inr (hw _ (List.mem_of_getElem? (i := 18) rfl))) (Or.inr (hw _ (List.mem_of_getElem? (i := 14) rfl))) (by decide) (t := (.object "java/math/BigDecimal")) (t' := .long) (by decide) (by decide)))
  have F_a1_settingChange_6 := F_a1_settingChange_4.other W6 (Or.inr (slot_ne (Or.inr (hw _ (List.mem_of_getElem? (i := 20) rfl))) (Or.inr (hw _ (List.mem_of_getElem? (i := 14) rfl))) (by decide) (t := (.object "com/example/governor/governor/core/FieldChange")) (t' := .long) (by decide) (by decide)))
  have E_a1_6 := E_a1_4.wr W6
  have S_java_math_BigDecimal_ZERO_6 := S_java_math_BigDecimal_ZERO_4.wr W6
  have Zs7 := Nat.le_trans Zs5 (Keep.of_wr W6).1
  have Kk6 := Kk4.wr W6 (Or.inl (List.mem_of_getElem? (i := 0) rfl))
  obtain ⟨T8, X8, e8, st8⟩ := getS2 X6 hx hZ hown (host := "") (Or.inl (hw _ (List.mem_of_getElem? (i := 79) rfl))) Via.refl e6 S_java_math_BigDecimal_ZERO_6 (g := (mkF m 20 #[.val (.ref a1), .val (.long q1), .second, .val .null] [(.ref a1)])) rfl (hb hby d13_20)
  obtain ⟨T9, h9, X9, e9, W9, st9⟩ := putF X8 hx hZ hown (host := "") (Or.inl (hw _ (List.mem_of_getElem? (i := 15) rfl))) Via.refl e8 F_a1_vcoresUsed_6 E_a1_6 (Or.inr ⟨(hw _ (List.mem_of_getElem? (i := 16) rfl)), rfl, hnm⟩) (hw _ (List.mem_of_getElem? (i := 1) rfl)) (ty := (.object "java/math/BigDecimal")) (by decide) rfl rfl (g := (mkF m 23 #[.val (.ref a1), .val (.long q1), .second, .val .null] [(.ref zz), (.ref a1)])) rfl rfl (hb hby d13_23)
  have N9 := Fr.snoc X9 N6 g1
  have Fw9 := Fld.same W9 F_a1_vcoresUsed_6
  have F_a1_number_9 := F_a1_number_6.other W9 (Or.inr (slot_ne (Or.inr (hw _ (List.mem_of_getElem? (i := 10) rfl))) (Or.inr (hw _ (List.mem_of_getElem? (i := 16) rfl))) (by decide) (t := .long) (t' := (.object "java/math/BigDecimal")) (by decide) (by decide)))
  have F_a1_seconds_9 := F_a1_seconds_6.other W9 (Or.inr (slot_ne (Or.inr (hw _ (List.mem_of_getElem? (i := 12) rfl))) (Or.inr (hw _ (List.mem_of_getElem? (i := 16) rfl))) (by decide) (t := .long) (t' := (.object "java/math/BigDecimal")) (by decide) (by decide)))
  have F_a1_sessions_9 := Fw6.other W9 (Or.inr (slot_ne (Or.inr (hw _ (List.mem_of_getElem? (i := 14) rfl))) (Or.inr (hw _ (List.mem_of_getElem? (i := 16) rfl))) (by decide) (t := .long) (t' := (.object "java/math/BigDecimal")) (by decide) (by decide)))
  have F_a1_memoryGbUsed_9 := F_a1_memoryGbUsed_6.other W9 (Or.inr (slot_ne (Or.inr (hw _ (List.mem_of_getElem? (i := 18) rfl))) (Or.inr (hw _ (List.mem_of_getElem? (i := 16) rfl))) (by decide) (t := (.object "java/math/BigDecimal")) (t' := (.object "java/math/BigDecimal")) (by decide) (by decide)))
  have F_a1_settingChange_9 := F_a1_settingChange_6.other W9 (Or.inr (slot_ne (Or.inr (hw _ (List.mem_of_getElem? (i := 20) rfl))) (Or.inr (hw _ (List.mem_of_getElem? (i := 16) rfl))) (by decide) (t := (.object "com/example/governor/governor/core/FieldChange")) (t' := (.object "java/math/BigDecimal")) (by decide) (by decide)))
  have E_a1_9 := E_a1_6.wr W9
  have S_java_math_BigDecimal_ZERO_9 := S_java_math_BigDecimal_ZERO_6.wr W9
  have Zs10 := Nat.le_trans Zs7 (Keep.of_wr W9).1
  have Kk9 := Kk6.wr W9 (Or.inl (List.mem_of_getElem? (i := 0) rfl))
  obtain ⟨T11, X11, e11, st11⟩ := getS2 X9 hx hZ hown (host := "") (Or.inl (hw _ (List.mem_of_getElem? (i := 79) rfl))) Via.refl e9 S_java_math_BigDecimal_ZERO_9 (g := (mkF m 27 #[.val (.ref a1), .val (.long q1), .second, .val .null] [(.ref a1)])) rfl (hb hby d13_27)
  obtain ⟨T12, h12, X12, e12, W12, st12⟩ := putF X11 hx hZ hown (host := "") (Or.inl (hw _ (List.mem_of_getElem? (i := 17) rfl))) Via.refl e11 F_a1_memoryGbUsed_9 E_a1_9 (Or.inr ⟨(hw _ (List.mem_of_getElem? (i := 18) rfl)), rfl, hnm⟩) (hw _ (List.mem_of_getElem? (i := 1) rfl)) (ty := (.object "java/math/BigDecimal")) (by decide) rfl rfl (g := (mkF m 30 #[.val (.ref a1), .val (.long q1), .second, .val .null] [(.ref zz), (.ref a1)])) rfl rfl (hb hby d13_30)
  have N12 := Fr.snoc X12 N9 g1
  have Fw12 := Fld.same W12 F_a1_memoryGbUsed_9
  have F_a1_number_12 := F_a1_number_9.other W12 (Or.inr (slot_ne (Or.inr (hw _ (List.mem_of_getElem? (i := 10) rfl))) (Or.inr (hw _ (List.mem_of_getElem? (i := 18) rfl))) (by decide) (t := .long) (t' := (.object "java/math/BigDecimal")) (by decide) (by decide)))
  have F_a1_seconds_12 := F_a1_seconds_9.other W12 (Or.inr (slot_ne (Or.inr (hw _ (List.mem_of_getElem? (i := 12) rfl))) (Or.inr (hw _ (List.mem_of_getElem? (i := 18) rfl))) (by decide) (t := .long) (t' := (.object "java/math/BigDecimal")) (by decide) (by decide)))
  have F_a1_sessions_12 := F_a1_sessions_9.other W12 (Or.inr (slot_ne (Or.inr (hw _ (List.mem_of_getElem? (i := 14) rfl))) (Or.inr (hw _ (List.mem_of_getElem? (i := 18) rfl))) (by decide) (t := .long) (t' := (.object "java/math/BigDecimal")) (by decide) (by decide)))
  have F_a1_vcoresUsed_12 := Fw9.other W12 (Or.inr (slot_ne (Or.inr (hw _ (List.mem_of_getElem? (i := 16) rfl))) (Or.inr (hw _ (List.mem_of_getElem? (i := 18) rfl))) (by decide) (t := (.object "java/math/BigDecimal")) (t' := (.object "java/math/BigDecimal")) (by decide) (by decide)))
  have F_a1_settingChange_12 := F_a1_settingChange_9.other W12 (Or.inr (slot_ne (Or.inr (hw _ (List.mem_of_getElem? (i := 20) rfl))) (Or.inr (hw _ (List.mem_of_getElem? (i := 18) rfl))) (by decide) (t := (.object "com/example/governor/governor/core/FieldChange")) (t' := (.object "java/math/BigDecimal")) (by decide) (by decide)))
  have E_a1_12 := E_a1_9.wr W12
  have S_java_math_BigDecimal_ZERO_12 := S_java_math_BigDecimal_ZERO_9.wr W12
  have Zs13 := Nat.le_trans Zs10 (Keep.of_wr W12).1
  have Kk12 := Kk9.wr W12 (Or.inl (List.mem_of_getElem? (i := 0) rfl))
  obtain ⟨T14, h14, X14, e14, W14, st14⟩ := putF X12 hx hZ hown (host := "") (Or.inl (hw _ (List.mem_of_getElem? (i := 19) rfl))) Via.refl e12 F_a1_settingChange_12 E_a1_12 (Or.inr ⟨(hw _ (List.mem_of_getElem? (i := 20) rfl)), rfl, hnm⟩) (hw _ (List.mem_of_getElem? (i := 1) rfl)) (ty := (.object "com/example/governor/governor/core/FieldChange")) (by decide) rfl rfl (g := (mkF m 35 #[.val (.ref a1), .val (.long q1), .second, .val .null] [.null, (.ref a1)])) rfl rfl (hb hby d13_35)
  have N14 := Fr.snoc X14 N12 g1
  have Fw14 := Fld.same W14 F_a1_settingChange_12
  have F_a1_number_14 := F_a1_number_12.other W14 (Or.inr (slot_ne (Or.inr (hw _ (List.mem_of_getElem? (i := 10) rfl))) (Or.inr (hw _ (List.mem_of_getElem? (i := 20) rfl))) (by decide) (t := .long) (t' := (.object "com/example/governor/governor/core/FieldChange")) (by decide) (by decide)))
  have F_a1_seconds_14 := F_a1_seconds_12.other W14 (Or.inr (slot_ne (Or.inr (hw _ (List.mem_of_getElem? (i := 12) rfl))) (Or.inr (hw _ (List.mem_of_getElem? (i := 20) rfl))) (by decide) (t := .long) (t' := (.object "com/example/governor/governor/core/FieldChange")) (by decide) (by decide)))
  have F_a1_sessions_14 := F_a1_sessions_12.other W14 (Or.inr (slot_ne (Or.inr (hw _ (List.mem_of_getElem? (i := 14) rfl))) (Or.inr (hw _ (List.mem_of_getElem? (i := 20) rfl))) (by decide) (t := .long) (t' := (.object "com/example/governor/governor/core/FieldChange")) (by decide) (by decide)))
  have F_a1_vcoresUsed_14 := F_a1_vcoresUsed_12.other W14 (Or.inr (slot_ne (Or.inr (hw _ (List.mem_of_getElem? (i := 16) rfl))) (Or.inr (hw _ (List.mem_of_getElem? (i := 20) rfl))) (by decide) (t := (.object "java/math/BigDecimal")) (t' := (.object "com/example/governor/governor/core/FieldChange")) (by decide) (by decide)))
  have F_a1_memoryGbUsed_14 := Fw12.other W14 (Or.inr (slot_ne (Or.inr (hw _ (List.mem_of_getElem? (i := 18) rfl))) (Or.inr (hw _ (List.mem_of_getElem? (i := 20) rfl))) (by decide) (t := (.object "java/math/BigDecimal")) (t' := (.object "com/example/governor/governor/core/FieldChange")) (by decide) (by decide)))
  have E_a1_14 := E_a1_12.wr W14
  have S_java_math_BigDecimal_ZERO_14 := S_java_math_BigDecimal_ZERO_12.wr W14
  have Zs15 := Nat.le_trans Zs13 (Keep.of_wr W14).1
  have Kk14 := Kk12.wr W14 (Or.inl (List.mem_of_getElem? (i := 0) rfl))
  obtain ⟨fs, hr, hrun, hended, hW, hsame⟩ := X14.leave (v := none) (fun _ => rfl)
  refine ⟨_, _, pre0 _ ?_, hrun, hended, _, _, rfl, ?_, ⟨_, rfl⟩, hW, hsame.mono (by decide) (by decide)⟩
  · show Steps p.tables e below (s₁.setTop (mkF m 0 #[.val (.ref a1), .val (.long q1), .second, .val .null] [])) _
    refine XS.aloadN X0.here hx rfl (hb hby d13_0) rfl rfl ?_
    show Steps p.tables e below (s₁.setTop (mkF m 1 #[.val (.ref a1), .val (.long q1), .second, .val .null] [(.ref a1)])) _
    refine st1 _ ?_
    show Steps p.tables e below (T1.setTop (mkF m 4 #[.val (.ref a1), .val (.long q1), .second, .val .null] [])) _
    refine XS.aloadN X1.here hx rfl (hb hby d13_4) rfl rfl ?_
    show Steps p.tables e below (T1.setTop (mkF m 5 #[.val (.ref a1), .val (.long q1), .second, .val .null] [(.ref a1)])) _
    refine XS.lloadN X1.here hx rfl (hb hby d13_5) rfl ?_
    show Steps p.tables e below (T1.setTop (mkF m 6 #[.val (.ref a1), .val (.long q1), .second, .val .null] [(.long q1), (.ref a1)])) _
    refine st2 _ ?_
    show Steps p.tables e below (T2.setTop (mkF m 9 #[.val (.ref a1), .val (.long q1), .second, .val .null] [])) _
    refine XS.aloadN X2.here hx rfl (hb hby d13_9) rfl rfl ?_
    show Steps p.tables e below (T2.setTop (mkF m 10 #[.val (.ref a1), .val (.long q1), .second, .val .null] [(.ref a1)])) _
    refine XS.lconst X2.here hx rfl (hb hby d13_10) ?_
    show Steps p.tables e below (T2.setTop (mkF m 11 #[.val (.ref a1), .val (.long q1), .second, .val .null] [(.long (0 : Int64)), (.ref a1)])) _
    refine st4 _ ?_
    show Steps p.tables e below (T4.setTop (mkF m 14 #[.val (.ref a1), .val (.long q1), .second, .val .null] [])) _
    refine XS.aloadN X4.here hx rfl (hb hby d13_14) rfl rfl ?_
    show Steps p.tables e below (T4.setTop (mkF m 15 #[.val (.ref a1), .val (.long q1), .second, .val .null] [(.ref a1)])) _
    refine XS.lconst X4.here hx rfl (hb hby d13_15) ?_
    show Steps p.tables e below (T4.setTop (mkF m 16 #[.val (.ref a1), .val (.long q1), .second, .val .null] [(.long (0 : Int64)), (.ref a1)])) _
    refine st6 _ ?_
    show Steps p.tables e below (T6.setTop (mkF m 19 #[.val (.ref a1), .val (.long q1), .second, .val .null] [])) _
    refine XS.aloadN X6.here hx rfl (hb hby d13_19) rfl rfl ?_
    show Steps p.tables e below (T6.setTop (mkF m 20 #[.val (.ref a1), .val (.long q1), .second, .val .null] [(.ref a1)])) _
    refine st8 _ ?_
    show Steps p.tables e below (T8.setTop (mkF m 23 #[.val (.ref a1), .val (.long q1), .second, .val .null] [(.ref zz), (.ref a1)])) _
    refine st9 _ ?_
    show Steps p.tables e below (T9.setTop (mkF m 26 #[.val (.ref a1), .val (.long q1), .second, .val .null] [])) _
    refine XS.aloadN X9.here hx rfl (hb hby d13_26) rfl rfl ?_
    show Steps p.tables e below (T9.setTop (mkF m 27 #[.val (.ref a1), .val (.long q1), .second, .val .null] [(.ref a1)])) _
    refine st11 _ ?_
    show Steps p.tables e below (T11.setTop (mkF m 30 #[.val (.ref a1), .val (.long q1), .second, .val .null] [(.ref zz), (.ref a1)])) _
    refine st12 _ ?_
    show Steps p.tables e below (T12.setTop (mkF m 33 #[.val (.ref a1), .val (.long q1), .second, .val .null] [])) _
    refine XS.aloadN X12.here hx rfl (hb hby d13_33) rfl rfl ?_
    show Steps p.tables e below (T12.setTop (mkF m 34 #[.val (.ref a1), .val (.long q1), .second, .val .null] [(.ref a1)])) _
    refine XS.aloadN X12.here hx rfl (hb hby d13_34) rfl rfl ?_
    show Steps p.tables e below (T12.setTop (mkF m 35 #[.val (.ref a1), .val (.long q1), .second, .val .null] [.null, (.ref a1)])) _
    refine st14 _ ?_
    show Steps p.tables e below (T14.setTop (mkF m 38 #[.val (.ref a1), .val (.long q1), .second, .val .null] [])) _
    exact X14.returnOut hx Bd.returns (hb hby d13_38) hr
  · show Q13n Z a1 q1 zz h0 n0 _ T14.heap _
    rw [e14]
    exact ⟨rfl, N14, Kk14, E_a1_14, F_a1_seconds_14, Fw14⟩
def Q14n (Z : State) (a1 : Addr) (q1 : Int64) (h0 : Heap) (n0 : Nat) (v : Option Value) (h : Heap) (L : List Loc) : Prop := v = some (.int (own_zl q1)) ∧ Fr n0 L ∧ h = h0
set_option maxRecDepth 65536 in
set_option maxHeartbeats 40000000 in
theorem rm14n (l : Launch) (Z : State) (a0 : Array Value) (hw : ∀ d ∈ tables_1, d.before a0 Z = true) (ws : List Jvm.Cond) (a1 : Addr) (q1 : Int64) (h0 : Heap) (n0 : Nat) (Z0 : n0 ≤ h0.size) (F1 : Fld Z h0 a1 "com/example/governor/governor/core/UsageLine" "seconds" "J" (.long q1)) (F2 : Fld Z h0 a1 "com/example/governor/governor/core/UsageLine" "settingChange" "Lcom/example/governor/governor/core/FieldChange;" .null) :
    MetFree l (⟨"com/example/governor/governor/core/UsageLine", "marksPaused", "()Z"⟩ : MethodName) (head1 (Jvm.Cond.code (⟨"com/example/governor/governor/core/UsageLine", "marksPaused", "()Z"⟩ : MethodName) prog_22_method_5_code 1 (some .boolean) :: ws) ({ frames := 0, cells := 0, slots := 0, locals := 0 } : Room)) (fun a U => a = #[(.ref a1)] ∧ Z.Warmed39 U.vm ∧ U.heap = h0) (fun _ _ _ _ _ => True) (fun _ U o U' => ∃ v L, o = .returned v ∧ Q14n Z a1 q1 h0 n0 v U'.heap L ∧ FrameEnd U o U' L ({ frames := 0, cells := 0, slots := 0, locals := 0 } : Room).cells ({ frames := 0, cells := 0, slots := 0, locals := 0 } : Room).slots) := by
  refine MetFree.of_bodySF (plainFor_of_name pn_14) hisR ?_
  intro p e s m args below meth c s₁ Bd hml0 hP hK
  obtain ⟨rfl, hZ, hh⟩ := hP
  have hx := Bd.exec
  have hby := Bd.bytes
  have hml : c.maxLocals = 1 := hml0
  have hown : s.vm.findClass "com/example/governor/governor/core/UsageLine" = some m.cls := findClass_of_methodNamed Bd.named
  have hnm := (name_of_methodNamed Bd.named Bd.method).1
  have X0 : Stand p l e ({ frames := 0, cells := 0, slots := 0, locals := 0 } : Room) s m #[(.ref a1)] below meth c s₁ [] 0 0 := Stand.of_body Bd
  have e0 : s₁.heap = h0 := by rw [← hh, Bd.state]; rfl
  have N0 := Fr.nil n0
  have pre0 : ∀ t, Steps p.tables e below (s₁.setTop (mkF m 0 #[.val (.ref a1)] [])) t → Steps p.tables e below (s₁.setTop (entryFrame m #[(.ref a1)] 1)) t := fun t k => castTop (ef_14 m a1) k
  obtain ⟨T1, X1, e1, st1⟩ := getF X0 hx hZ hown (host := "") (Or.inl (hw _ (List.mem_of_getElem? (i := 11) rfl))) Via.refl e0 F1 (g := (mkF m 1 #[.val (.ref a1)] [(.ref a1)])) rfl rfl (hb hby d14_1)
  have pre1 : ∀ t, Steps p.tables e below (T1.setTop (mkF m 6 #[.val (.ref a1)] [(.int (lcmpW q1 (0 : Int64)))])) t → Steps p.tables e below (s₁.setTop (entryFrame m #[(.ref a1)] 1)) t := by
    intro t k
    refine pre0 t ?_
    show Steps p.tables e below (s₁.setTop (mkF m 0 #[.val (.ref a1)] [])) _
    refine XS.aloadN X0.here hx rfl (hb hby d14_0) rfl rfl ?_
    show Steps p.tables e below (s₁.setTop (mkF m 1 #[.val (.ref a1)] [(.ref a1)])) _
    refine st1 _ ?_
    show Steps p.tables e below (T1.setTop (mkF m 4 #[.val (.ref a1)] [(.long q1)])) _
    refine XS.lconst X1.here hx rfl (hb hby d14_4) ?_
    show Steps p.tables e below (T1.setTop (mkF m 5 #[.val (.ref a1)] [(.long (0 : Int64)), (.long q1)])) _
    refine XS.lcmp X1.here hx rfl (hb hby d14_5) rfl ?_
    exact k
  by_cases c6 : lcmpW q1 (0 : Int64) = 0
  · skip
    obtain ⟨T2, X2, e2, st2⟩ := getF X1 hx hZ hown (host := "") (Or.inl (hw _ (List.mem_of_getElem? (i := 19) rfl))) Via.refl e1 F2 (g := (mkF m 10 #[.val (.ref a1)] [(.ref a1)])) rfl rfl (hb hby d14_10)
    obtain ⟨fs, hr, hrun, hended, hW, hsame⟩ := X2.leave (v := some (.int (1 : Int32))) (fun h => by rw [Bd.returns] at h; cases h)
    refine ⟨_, _, pre1 _ ?_, hrun, hended, _, _, rfl, ?_, ⟨_, rfl⟩, hW, hsame.mono (by decide) (by decide)⟩
    · show Steps p.tables e below (T1.setTop (mkF m 6 #[.val (.ref a1)] [(.int (lcmpW q1 (0 : Int64)))])) _
      refine XS.ifNo X1.here hx rfl (hb hby d14_6) rfl ((if0 _ _).trans (teq c6).2) ?_
      show Steps p.tables e below (T1.setTop (mkF m 9 #[.val (.ref a1)] [])) _
      refine XS.aloadN X1.here hx rfl (hb hby d14_9) rfl rfl ?_
      show Steps p.tables e below (T1.setTop (mkF m 10 #[.val (.ref a1)] [(.ref a1)])) _
      refine st2 _ ?_
      show Steps p.tables e below (T2.setTop (mkF m 13 #[.val (.ref a1)] [.null])) _
      refine XS.ifnonnullNo X2.here hx rfl (hb hby d14_13) rfl ?_
      show Steps p.tables e below (T2.setTop (mkF m 16 #[.val (.ref a1)] [])) _
      refine XS.iconst X2.here hx rfl (hb hby d14_16) ?_
      show Steps p.tables e below (T2.setTop (mkF m 17 #[.val (.ref a1)] [(.int (1 : Int32))])) _
      refine XS.goto X2.here hx rfl (pc0 := 17) (pc' := 21) rfl (hb hby d14_17) (by decide) (by decide) ?_
      show Steps p.tables e below (T2.setTop (mkF m 21 #[.val (.ref a1)] [(.int (1 : Int32))])) _
      exact retN X2 hx (t := .boolean) Bd.returns (by simp) (hb hby d14_21) hr
    · show Q14n Z a1 q1 h0 n0 _ T2.heap _
      rw [e2]
      exact ⟨by unfold own_zl; rw [if_pos c6], N0, rfl⟩
  · skip
    obtain ⟨fs, hr, hrun, hended, hW, hsame⟩ := X1.leave (v := some (.int (0 : Int32))) (fun h => by rw [Bd.returns] at h; cases h)
    refine ⟨_, _, pre1 _ ?_, hrun, hended, _, _, rfl, ?_, ⟨_, rfl⟩, hW, hsame.mono (by decide) (by decide)⟩
    · show Steps p.tables e below (T1.setTop (mkF m 6 #[.val (.ref a1)] [(.int (lcmpW q1 (0 : Int64)))])) _
      refine XS.ifYes X1.here hx rfl (pc0 := 6) (pc' := 20) rfl (hb hby d14_6) rfl ((if0 _ _).trans (feq c6).2) (by decide) (by decide) ?_
      show Steps p.tables e below (T1.setTop (mkF m 20 #[.val (.ref a1)] [])) _
      refine XS.iconst X1.here hx rfl (hb hby d14_20) ?_
      show Steps p.tables e below (T1.setTop (mkF m 21 #[.val (.ref a1)] [(.int (0 : Int32))])) _
      exact retN X1 hx (t := .boolean) Bd.returns (by simp) (hb hby d14_21) hr
    · show Q14n Z a1 q1 h0 n0 _ T1.heap _
      rw [e1]
      exact ⟨by unfold own_zl; rw [if_neg c6], N0, rfl⟩
def Q14r (Z : State) (a1 : Addr) (q1 : Int64) (a2 : Addr) (h0 : Heap) (n0 : Nat) (v : Option Value) (h : Heap) (L : List Loc) : Prop := v = some (.int 0) ∧ Fr n0 L ∧ h = h0
set_option maxRecDepth 65536 in
set_option maxHeartbeats 40000000 in
theorem rm14r (l : Launch) (Z : State) (a0 : Array Value) (hw : ∀ d ∈ tables_1, d.before a0 Z = true) (ws : List Jvm.Cond) (a1 : Addr) (q1 : Int64) (a2 : Addr) (h0 : Heap) (n0 : Nat) (Z0 : n0 ≤ h0.size) (F1 : Fld Z h0 a1 "com/example/governor/governor/core/UsageLine" "seconds" "J" (.long q1)) (F2 : Fld Z h0 a1 "com/example/governor/governor/core/UsageLine" "settingChange" "Lcom/example/governor/governor/core/FieldChange;" (.ref a2)) :
    MetFree l (⟨"com/example/governor/governor/core/UsageLine", "marksPaused", "()Z"⟩ : MethodName) (head1 (Jvm.Cond.code (⟨"com/example/governor/governor/core/UsageLine", "marksPaused", "()Z"⟩ : MethodName) prog_22_method_5_code 1 (some .boolean) :: ws) ({ frames := 0, cells := 0, slots := 0, locals := 0 } : Room)) (fun a U => a = #[(.ref a1)] ∧ Z.Warmed39 U.vm ∧ U.heap = h0) (fun _ _ _ _ _ => True) (fun _ U o U' => ∃ v L, o = .returned v ∧ Q14r Z a1 q1 a2 h0 n0 v U'.heap L ∧ FrameEnd U o U' L ({ frames := 0, cells := 0, slots := 0, locals := 0 } : Room).cells ({ frames := 0, cells := 0, slots := 0, locals := 0 } : Room).slots) := by
  refine MetFree.of_bodySF (plainFor_of_name pn_14) hisR ?_
  intro p e s m args below meth c s₁ Bd hml0 hP hK
  obtain ⟨rfl, hZ, hh⟩ := hP
  have hx := Bd.exec
  have hby := Bd.bytes
  have hml : c.maxLocals = 1 := hml0
  have hown : s.vm.findClass "com/example/governor/governor/core/UsageLine" = some m.cls := findClass_of_methodNamed Bd.named
  have hnm := (name_of_methodNamed Bd.named Bd.method).1
  have X0 : Stand p l e ({ frames := 0, cells := 0, slots := 0, locals := 0 } : Room) s m #[(.ref a1)] below meth c s₁ [] 0 0 := Stand.of_body Bd
  have e0 : s₁.heap = h0 := by rw [← hh, Bd.state]; rfl
  have N0 := Fr.nil n0
  have pre0 : ∀ t, Steps p.tables e below (s₁.setTop (mkF m 0 #[.val (.ref a1)] [])) t → Steps p.tables e below (s₁.setTop (entryFrame m #[(.ref a1)] 1)) t := fun t k => castTop (ef_14 m a1) k
  obtain ⟨T1, X1, e1, st1⟩ := getF X0 hx hZ hown (host := "") (Or.inl (hw _ (List.mem_of_getElem? (i := 11) rfl))) Via.refl e0 F1 (g := (mkF m 1 #[.val (.ref a1)] [(.ref a1)])) rfl rfl (hb hby d14_1)
  have pre1 : ∀ t, Steps p.tables e below (T1.setTop (mkF m 6 #[.val (.ref a1)] [(.int (lcmpW q1 (0 : Int64)))])) t → Steps p.tables e below (s₁.setTop (entryFrame m #[(.ref a1)] 1)) t := by
    intro t k
    refine pre0 t ?_
    show Steps p.tables e below (s₁.setTop (mkF m 0 #[.val (.ref a1)] [])) _
    refine XS.aloadN X0.here hx rfl (hb hby d14_0) rfl rfl ?_
    show Steps p.tables e below (s₁.setTop (mkF m 1 #[.val (.ref a1)] [(.ref a1)])) _
    refine st1 _ ?_
    show Steps p.tables e below (T1.setTop (mkF m 4 #[.val (.ref a1)] [(.long q1)])) _
    refine XS.lconst X1.here hx rfl (hb hby d14_4) ?_
    show Steps p.tables e below (T1.setTop (mkF m 5 #[.val (.ref a1)] [(.long (0 : Int64)), (.long q1)])) _
    refine XS.lcmp X1.here hx rfl (hb hby d14_5) rfl ?_
    exact k
  by_cases c6 : lcmpW q1 (0 : Int64) = 0
  · skip
    obtain ⟨T2, X2, e2, st2⟩ := getF X1 hx hZ hown (host := "") (Or.inl (hw _ (List.mem_of_getElem? (i := 19) rfl))) Via.refl e1 F2 (g := (mkF m 10 #[.val (.ref a1)] [(.ref a1)])) rfl rfl (hb hby d14_10)
    obtain ⟨fs, hr, hrun, hended, hW, hsame⟩ := X2.leave (v := some (.int (0 : Int32))) (fun h => by rw [Bd.returns] at h; cases h)
    refine ⟨_, _, pre1 _ ?_, hrun, hended, _, _, rfl, ?_, ⟨_, rfl⟩, hW, hsame.mono (by decide) (by decide)⟩
    · show Steps p.tables e below (T1.setTop (mkF m 6 #[.val (.ref a1)] [(.int (lcmpW q1 (0 : Int64)))])) _
      refine XS.ifNo X1.here hx rfl (hb hby d14_6) rfl ((if0 _ _).trans (teq c6).2) ?_
      show Steps p.tables e below (T1.setTop (mkF m 9 #[.val (.ref a1)] [])) _
      refine XS.aloadN X1.here hx rfl (hb hby d14_9) rfl rfl ?_
      show Steps p.tables e below (T1.setTop (mkF m 10 #[.val (.ref a1)] [(.ref a1)])) _
      refine st2 _ ?_
      show Steps p.tables e below (T2.setTop (mkF m 13 #[.val (.ref a1)] [(.ref a2)])) _
      refine XS.ifnonnullYes X2.here hx rfl (pc0 := 13) (pc' := 20) rfl (hb hby d14_13) rfl (by decide) (by decide) ?_
      show Steps p.tables e below (T2.setTop (mkF m 20 #[.val (.ref a1)] [])) _
      refine XS.iconst X2.here hx rfl (hb hby d14_20) ?_
      show Steps p.tables e below (T2.setTop (mkF m 21 #[.val (.ref a1)] [(.int (0 : Int32))])) _
      exact retN X2 hx (t := .boolean) Bd.returns (by simp) (hb hby d14_21) hr
    · show Q14r Z a1 q1 a2 h0 n0 _ T2.heap _
      rw [e2]
      exact ⟨rfl, N0, rfl⟩
  · skip
    obtain ⟨fs, hr, hrun, hended, hW, hsame⟩ := X1.leave (v := some (.int (0 : Int32))) (fun h => by rw [Bd.returns] at h; cases h)
    refine ⟨_, _, pre1 _ ?_, hrun, hended, _, _, rfl, ?_, ⟨_, rfl⟩, hW, hsame.mono (by decide) (by decide)⟩
    · show Steps p.tables e below (T1.setTop (mkF m 6 #[.val (.ref a1)] [(.int (lcmpW q1 (0 : Int64)))])) _
      refine XS.ifYes X1.here hx rfl (pc0 := 6) (pc' := 20) rfl (hb hby d14_6) rfl ((if0 _ _).trans (feq c6).2) (by decide) (by decide) ?_
      show Steps p.tables e below (T1.setTop (mkF m 20 #[.val (.ref a1)] [])) _
      refine XS.iconst X1.here hx rfl (hb hby d14_20) ?_
      show Steps p.tables e below (T1.setTop (mkF m 21 #[.val (.ref a1)] [(.int (0 : Int32))])) _
      exact retN X1 hx (t := .boolean) Bd.returns (by simp) (hb hby d14_21) hr
    · show Q14r Z a1 q1 a2 h0 n0 _ T1.heap _
      rw [e1]
      exact ⟨rfl, N0, rfl⟩
def Q0 (Z : State) (q0 q2 q4 : Int64) (p6 p7 : Int32) (G1 : Int32) (zz : Addr) (h0 : Heap) (n0 : Nat) (v : Option Value) (h : Heap) (L : List Loc) : Prop := v = some (.int 1) ∧ Fr n0 L
set_option maxRecDepth 65536 in
set_option maxHeartbeats 40000000 in
theorem rm0 (l : Launch) (Z : State) (a0 : Array Value) (hw : ∀ d ∈ tables_1, d.before a0 Z = true) (ws : List Jvm.Cond) (q0 q2 q4 : Int64) (p6 p7 : Int32) (G1 : Int32) (zz : Addr) (h0 : Heap) (n0 : Nat) (Z0 : n0 ≤ h0.size) (O2 : Sta Z Z.heap "java/lang/String" "COMPACT_STRINGS" "Z" (.int G1)) (P5 : ¬ (G1 = (0 : Int32))) (O3 : Sta Z Z.heap "java/math/BigDecimal" "ZERO" "Ljava/math/BigDecimal;" (.ref zz)) (O0 : Old Z n0 h0) :
    MetFree l x (head1 (Jvm.Cond.code x code maxLocals ret :: ws) room_1) (fun a U => a = #[(.long q0), (.long q2), (.long q4), (.int p6), (.int p7)] ∧ Z.Warmed39 U.vm ∧ U.heap = h0) (fun _ _ _ _ _ => True) (fun _ U o U' => ∃ v L, o = .returned v ∧ Q0 Z q0 q2 q4 p6 p7 G1 zz h0 n0 v U'.heap L ∧ FrameEnd U o U' L room_1.cells room_1.slots) := by
  refine MetFree.of_bodySF (plainFor_of_name pn_0) hisR ?_
  intro p e s m args below meth c s₁ Bd hml0 hP hK
  obtain ⟨rfl, hZ, hh⟩ := hP
  have hx := Bd.exec
  have hby := Bd.bytes
  have hml : c.maxLocals = 20 := hml0
  have hown : s.vm.findClass "com/example/governor/governor/core/UsageLineMarksPausedPinLaw" = some m.cls := findClass_of_methodNamed Bd.named
  have hnm := (name_of_methodNamed Bd.named Bd.method).1
  have X0 : Stand p l e room_1 s m #[(.long q0), (.long q2), (.long q4), (.int p6), (.int p7)] below meth c s₁ [] 0 0 := Stand.of_body Bd
  have e0 : s₁.heap = h0 := by rw [← hh, Bd.state]; rfl
  have N0 := Fr.nil n0
  have pre0 : ∀ t, Steps p.tables e below (s₁.setTop (mkF m 0 #[.val (.long q0), .second, .val (.long q2), .second, .val (.long q4), .second, .val (.int p6), .val (.int p7), .unset, .unset, .unset, .unset, .unset, .unset, .unset, .unset, .unset, .unset, .unset, .unset] [])) t → Steps p.tables e below (s₁.setTop (entryFrame m #[(.long q0), (.long q2), (.long q4), (.int p6), (.int p7)] maxLocals)) t := fun t k => castTop (ef_0 m q0 q2 q4 p6 p7) k
  have hws : ∀ d ∈ StrChars.Road.words, d.before a0 Z = true := fun d hd => hw d ((by decide +kernel : ∀ d ∈ StrChars.Road.words, d ∈ tables_1) d hd)
  have hp : ∀ c ∈ ([nar .char ((p7 &&& (255 : Int32)).toUInt32.toUInt16.toUInt32.toInt32)] : List Int32), ¬ c < 0 ∧ ¬ (255 : Int32) < c := by
    intro c hc
    simp only [List.mem_cons, List.not_mem_nil, or_false] at hc
    rw [hc]
    exact own_chars p7
  obtain ⟨sq, pre1⟩ : ∃ (sq : Int64), ∀ t, Steps p.tables e below (s₁.setTop (mkF m 12 #[.val (.long q0), .second, .val (.long q2), .second, .val (.long q4), .second, .val (.int p6), .val (.int p7), .unset, .unset, .unset, .unset, .unset, .unset, .unset, .unset, .unset, .unset, .unset, .unset] [(.long sq)])) t → Steps p.tables e below (s₁.setTop (entryFrame m #[(.long q0), (.long q2), (.long q4), (.int p6), (.int p7)] maxLocals)) t := by
    by_cases c4 : (p6 &&& (1 : Int32)) = 0
    · refine ⟨(q2), fun t k => pre0 t ?_⟩
      show Steps p.tables e below (s₁.setTop (mkF m 0 #[.val (.long q0), .second, .val (.long q2), .second, .val (.long q4), .second, .val (.int p6), .val (.int p7), .unset, .unset, .unset, .unset, .unset, .unset, .unset, .unset, .unset, .unset, .unset, .unset] [])) _
      refine XS.iload X0.here hx rfl (hb hby at_0) rfl ?_
      show Steps p.tables e below (s₁.setTop (mkF m 2 #[.val (.long q0), .second, .val (.long q2), .second, .val (.long q4), .second, .val (.int p6), .val (.int p7), .unset, .unset, .unset, .unset, .unset, .unset, .unset, .unset, .unset, .unset, .unset, .unset] [(.int p6)])) _
      refine XS.iconst X0.here hx rfl (hb hby at_2) ?_
      show Steps p.tables e below (s₁.setTop (mkF m 3 #[.val (.long q0), .second, .val (.long q2), .second, .val (.long q4), .second, .val (.int p6), .val (.int p7), .unset, .unset, .unset, .unset, .unset, .unset, .unset, .unset, .unset, .unset, .unset, .unset] [(.int (1 : Int32)), (.int p6)])) _
      refine XS.iand X0.here hx rfl (hb hby at_3) rfl ?_
      show Steps p.tables e below (s₁.setTop (mkF m 4 #[.val (.long q0), .second, .val (.long q2), .second, .val (.long q4), .second, .val (.int p6), .val (.int p7), .unset, .unset, .unset, .unset, .unset, .unset, .unset, .unset, .unset, .unset, .unset, .unset] [(.int (p6 &&& (1 : Int32)))])) _
      refine XS.ifYes X0.here hx rfl (pc0 := 4) (pc' := 11) rfl (hb hby at_4) rfl ((if0 _ _).trans (teq c4).1) (by decide) (by decide) ?_
      show Steps p.tables e below (s₁.setTop (mkF m 11 #[.val (.long q0), .second, .val (.long q2), .second, .val (.long q4), .second, .val (.int p6), .val (.int p7), .unset, .unset, .unset, .unset, .unset, .unset, .unset, .unset, .unset, .unset, .unset, .unset] [])) _
      refine XS.lloadN X0.here hx rfl (hb hby at_11) rfl ?_
      exact k
    · refine ⟨((0 : Int64)), fun t k => pre0 t ?_⟩
      show Steps p.tables e below (s₁.setTop (mkF m 0 #[.val (.long q0), .second, .val (.long q2), .second, .val (.long q4), .second, .val (.int p6), .val (.int p7), .unset, .unset, .unset, .unset, .unset, .unset, .unset, .unset, .unset, .unset, .unset, .unset] [])) _
      refine XS.iload X0.here hx rfl (hb hby at_0) rfl ?_
      show Steps p.tables e below (s₁.setTop (mkF m 2 #[.val (.long q0), .second, .val (.long q2), .second, .val (.long q4), .second, .val (.int p6), .val (.int p7), .unset, .unset, .unset, .unset, .unset, .unset, .unset, .unset, .unset, .unset, .unset, .unset] [(.int p6)])) _
      refine XS.iconst X0.here hx rfl (hb hby at_2) ?_
      show Steps p.tables e below (s₁.setTop (mkF m 3 #[.val (.long q0), .second, .val (.long q2), .second, .val (.long q4), .second, .val (.int p6), .val (.int p7), .unset, .unset, .unset, .unset, .unset, .unset, .unset, .unset, .unset, .unset, .unset, .unset] [(.int (1 : Int32)), (.int p6)])) _
      refine XS.iand X0.here hx rfl (hb hby at_3) rfl ?_
      show Steps p.tables e below (s₁.setTop (mkF m 4 #[.val (.long q0), .second, .val (.long q2), .second, .val (.long q4), .second, .val (.int p6), .val (.int p7), .unset, .unset, .unset, .unset, .unset, .unset, .unset, .unset, .unset, .unset, .unset, .unset] [(.int (p6 &&& (1 : Int32)))])) _
      refine XS.ifNo X0.here hx rfl (hb hby at_4) rfl ((if0 _ _).trans (feq c4).1) ?_
      show Steps p.tables e below (s₁.setTop (mkF m 7 #[.val (.long q0), .second, .val (.long q2), .second, .val (.long q4), .second, .val (.int p6), .val (.int p7), .unset, .unset, .unset, .unset, .unset, .unset, .unset, .unset, .unset, .unset, .unset, .unset] [])) _
      refine XS.lconst X0.here hx rfl (hb hby at_7) ?_
      show Steps p.tables e below (s₁.setTop (mkF m 8 #[.val (.long q0), .second, .val (.long q2), .second, .val (.long q4), .second, .val (.int p6), .val (.int p7), .unset, .unset, .unset, .unset, .unset, .unset, .unset, .unset, .unset, .unset, .unset, .unset] [(.long (0 : Int64))])) _
      refine XS.goto X0.here hx rfl (pc0 := 8) (pc' := 12) rfl (hb hby at_8) (by decide) (by decide) ?_
      exact k
  obtain ⟨T1, h1, X1, e1, E1, A1, D1, -, st1⟩ := newO X0 hx hZ hown (hw _ (List.mem_of_getElem? (i := 0) rfl)) (hw _ (List.mem_of_getElem? (i := 1) rfl)) (hw _ (List.mem_of_getElem? (i := 2) rfl)) e0 (g := (mkF m 14 #[.val (.long q0), .second, .val (.long q2), .second, .val (.long q4), .second, .val (.int p6), .val (.int p7), .val (.long sq), .second, .unset, .unset, .unset, .unset, .unset, .unset, .unset, .unset, .unset, .unset] [])) rfl (hb hby at_14) (by decide) (by decide)
  obtain ⟨b1, g1⟩ : ∃ z, z = h0.size := ⟨_, rfl⟩
  rw [← g1] at A1 D1 st1
  have g_b1 : n0 ≤ b1 := Nat.le_trans Z0 (Nat.le_of_eq g1.symm)
  have O_1 := O0.ext E1
  have Zs2 := Nat.le_trans Z0 E1.1
  have F_number_b1 : Fld Z h1 b1 "com/example/governor/governor/core/UsageLine" "number" "J" (.long (0 : Int64)) := D1 (Or.inr (hw _ (List.mem_of_getElem? (i := 10) rfl))) (ty := .long) (by decide)
  have F_seconds_b1 : Fld Z h1 b1 "com/example/governor/governor/core/UsageLine" "seconds" "J" (.long (0 : Int64)) := D1 (Or.inr (hw _ (List.mem_of_getElem? (i := 12) rfl))) (ty := .long) (by decide)
  have F_sessions_b1 : Fld Z h1 b1 "com/example/governor/governor/core/UsageLine" "sessions" "J" (.long (0 : Int64)) := D1 (Or.inr (hw _ (List.mem_of_getElem? (i := 14) rfl))) (ty := .long) (by decide)
  have F_vcoresUsed_b1 : Fld Z h1 b1 "com/example/governor/governor/core/UsageLine" "vcoresUsed" "Ljava/math/BigDecimal;" .null := D1 (Or.inr (hw _ (List.mem_of_getElem? (i := 16) rfl))) (ty := (.object "java/math/BigDecimal")) (by decide)
  have F_memoryGbUsed_b1 : Fld Z h1 b1 "com/example/governor/governor/core/UsageLine" "memoryGbUsed" "Ljava/math/BigDecimal;" .null := D1 (Or.inr (hw _ (List.mem_of_getElem? (i := 18) rfl))) (ty := (.object "java/math/BigDecimal")) (by decide)
  have F_settingChange_b1 : Fld Z h1 b1 "com/example/governor/governor/core/UsageLine" "settingChange" "Lcom/example/governor/governor/core/FieldChange;" .null := D1 (Or.inr (hw _ (List.mem_of_getElem? (i := 20) rfl))) (ty := (.object "com/example/governor/governor/core/FieldChange")) (by decide)
  obtain ⟨_, _, ⟨T3, L3, k3, n3⟩, -, X3, ⟨Lc3, hQ3, l3, y3, z3⟩, st3⟩ := X1.specialBack hx (y := (⟨"com/example/governor/governor/core/UsageLine", "<init>", "(JJJLjava/math/BigDecimal;Ljava/math/BigDecimal;)V"⟩ : MethodName)) rfl hown (mvT hZ (hw _ (List.mem_of_getElem? (i := 3) rfl))) (mvT hZ (hw _ (List.mem_of_getElem? (i := 4) rfl))) (mvT hZ (hw _ (List.mem_of_getElem? (i := 5) rfl))) (by decide) (backOf (W := 1) (rm1 l Z a0 hw [] b1 q0 sq q4 h1 n0 Zs2 F_number_b1 F_seconds_b1 F_sessions_b1 F_vcoresUsed_b1 F_memoryGbUsed_b1 F_settingChange_b1 A1 g_b1) hZ (hw _ (List.mem_of_getElem? (i := 5) rfl)) (hw _ (List.mem_of_getElem? (i := 2) rfl)) (by decide) (by decide)) (g := (mkF m 25 #[.val (.long q0), .second, .val (.long q2), .second, .val (.long q4), .second, .val (.int p6), .val (.int p7), .val (.long sq), .second, .unset, .unset, .unset, .unset, .unset, .unset, .unset, .unset, .unset, .unset] [.null, .null, (.long q4), (.long sq), (.long q0), (.ref b1), (.ref b1)])) rfl (by rw [hml]; rfl) (Steps.refl _) (a := b1) (argsL := [(.long q0), (.long sq), (.long q4), .null, .null]) (rest := [(.ref b1)]) (lenOf pd_3 rfl) rfl (by show 2 * 0 + _ ≤ _; exact Nat.le_of_eq rfl) (hb hby at_25) (fun _ _ => ⟨rfl, e1, (by decide : 1 + 0 ≤ _), (by decide : 6 + 0 ≤ _)⟩)
  dsimp only [Pt.U, Pt.locs, Pt.cells, Pt.slots] at X3 l3 y3 z3 st3 hQ3
  subst l3 y3 z3
  obtain ⟨rfl, N3q, K3q, E3q, Fs3q, Fc3q⟩ := hQ3
  have N3 := Fr.app N0 N3q
  have O_3 := O_1.keep K3q (allS g_b1 all0)
  have E_b1_3 := A1.keep K3q
  have Zs4 := Nat.le_trans Zs2 K3q.1
  obtain ⟨T5, h5, k5, X5, e5, E5, A5, st5⟩ := newP X3 hx hZ (hw _ (List.mem_of_getElem? (i := 21) rfl)) rfl (g := (mkF m 31 #[.val (.long q0), .second, .val (.long q2), .second, .val (.long q4), .second, .val (.int p6), .val (.int p7), .val (.long sq), .second, .val (.ref b1), .unset, .unset, .unset, .unset, .unset, .unset, .unset, .unset, .unset] [(.int (1 : Int32))])) rfl (hb hby at_31) rfl (by decide) (cap := 1) (by decide) (by decide) (by decide) (by decide)
  obtain ⟨b5, g5⟩ : ∃ z, z = T3.heap.size := ⟨_, rfl⟩
  rw [← g5] at A5 st5
  have ne_b1_b5 : b1 ≠ b5 := Nat.ne_of_lt (Nat.lt_of_lt_of_le E3q.lt (Nat.le_of_eq g5.symm))
  have g_b5 : n0 ≤ b5 := Nat.le_trans Zs4 (Nat.le_of_eq g5.symm)
  have O_5 := O_3.ext E5
  have E_b1_5 := E3q.ext E5
  have F_b1_seconds_5 := Fs3q.ext E5
  have F_b1_settingChange_5 := Fc3q.ext E5
  have Zs6 := Nat.le_trans Zs4 E5.1
  have V_b5 : Arv Z h5 b5 k5 .char (1 : Int32) [(.int (0 : Int32))] (.int (0 : Int32)) := (Arv.new A5 (by decide)).pad (pad_rep [] (.int (0 : Int32)) 1)
  obtain ⟨cl7, Ar7, q7, S7, N7m, H7, G7⟩ := id V_b5
  have hin7 : ¬ ((0 : Int32) < 0 ∨ cl7.slots.size ≤ ((0 : Int32)).toNatClampNeg) := inb_of S7 ⟨by decide, by decide⟩
  obtain ⟨T7, h7, X7, e7, W7, st7⟩ := stC X5 hx hZ e5 Ar7 (j := (0 : Int32)) hin7 (g := (mkF m 42 #[.val (.long q0), .second, .val (.long q2), .second, .val (.long q4), .second, .val (.int p6), .val (.int p7), .val (.long sq), .second, .val (.ref b1), .unset, .unset, .unset, .unset, .unset, .unset, .unset, .unset, .unset] [(.int ((p7 &&& (255 : Int32)).toUInt32.toUInt16.toUInt32.toInt32)), (.int (0 : Int32)), (.ref b5), (.ref b5)])) rfl rfl (hb hby at_42)
  have V7_b5 : Arv Z h7 b5 k5 .char (1 : Int32) [(.int (nar .char ((p7 &&& (255 : Int32)).toUInt32.toUInt16.toUInt32.toInt32)))] (.int (0 : Int32)) := Arv.set Ar7 q7 S7 N7m H7 G7 (fits_nar_char _) W7 0 rfl (Nat.le_of_ble_eq_true rfl)
  have O_7 := O_5.wr W7 g_b5
  have E_b1_7 := E_b1_5.wr W7
  have F_b1_seconds_7 := F_b1_seconds_5.other W7 (Or.inl ne_b1_b5)
  have F_b1_settingChange_7 := F_b1_settingChange_5.other W7 (Or.inl ne_b1_b5)
  have Zs8 := Nat.le_trans Zs6 (Keep.of_wr W7).1
  have N7 := Fr.snoc X7 N3 g_b5
  have pre2 : ∀ t, Steps p.tables e below (T7.setTop (mkF m 45 #[.val (.long q0), .second, .val (.long q2), .second, .val (.long q4), .second, .val (.int p6), .val (.int p7), .val (.long sq), .second, .val (.ref b1), .val (.ref b5), .unset, .unset, .unset, .unset, .unset, .unset, .unset, .unset] [])) t → Steps p.tables e below (s₁.setTop (entryFrame m #[(.long q0), (.long q2), (.long q4), (.int p6), (.int p7)] maxLocals)) t := by
    intro t k
    refine pre1 t ?_
    show Steps p.tables e below (s₁.setTop (mkF m 12 #[.val (.long q0), .second, .val (.long q2), .second, .val (.long q4), .second, .val (.int p6), .val (.int p7), .unset, .unset, .unset, .unset, .unset, .unset, .unset, .unset, .unset, .unset, .unset, .unset] [(.long sq)])) _
    refine XS.lstore X0.here hx rfl (hb hby at_12) rfl (l' := #[.val (.long q0), .second, .val (.long q2), .second, .val (.long q4), .second, .val (.int p6), .val (.int p7), .val (.long sq), .second, .unset, .unset, .unset, .unset, .unset, .unset, .unset, .unset, .unset, .unset]) rfl ?_
    show Steps p.tables e below (s₁.setTop (mkF m 14 #[.val (.long q0), .second, .val (.long q2), .second, .val (.long q4), .second, .val (.int p6), .val (.int p7), .val (.long sq), .second, .unset, .unset, .unset, .unset, .unset, .unset, .unset, .unset, .unset, .unset] [])) _
    refine st1 _ ?_
    show Steps p.tables e below (T1.setTop (mkF m 17 #[.val (.long q0), .second, .val (.long q2), .second, .val (.long q4), .second, .val (.int p6), .val (.int p7), .val (.long sq), .second, .unset, .unset, .unset, .unset, .unset, .unset, .unset, .unset, .unset, .unset] [(.ref b1)])) _
    refine XS.dup X1.here hx rfl (hb hby at_17) rfl rfl ?_
    show Steps p.tables e below (T1.setTop (mkF m 18 #[.val (.long q0), .second, .val (.long q2), .second, .val (.long q4), .second, .val (.int p6), .val (.int p7), .val (.long sq), .second, .unset, .unset, .unset, .unset, .unset, .unset, .unset, .unset, .unset, .unset] [(.ref b1), (.ref b1)])) _
    refine XS.lloadN X1.here hx rfl (hb hby at_18) rfl ?_
    show Steps p.tables e below (T1.setTop (mkF m 19 #[.val (.long q0), .second, .val (.long q2), .second, .val (.long q4), .second, .val (.int p6), .val (.int p7), .val (.long sq), .second, .unset, .unset, .unset, .unset, .unset, .unset, .unset, .unset, .unset, .unset] [(.long q0), (.ref b1), (.ref b1)])) _
    refine XS.lload X1.here hx rfl (hb hby at_19) rfl ?_
    show Steps p.tables e below (T1.setTop (mkF m 21 #[.val (.long q0), .second, .val (.long q2), .second, .val (.long q4), .second, .val (.int p6), .val (.int p7), .val (.long sq), .second, .unset, .unset, .unset, .unset, .unset, .unset, .unset, .unset, .unset, .unset] [(.long sq), (.long q0), (.ref b1), (.ref b1)])) _
    refine XS.lload X1.here hx rfl (hb hby at_21) rfl ?_
    show Steps p.tables e below (T1.setTop (mkF m 23 #[.val (.long q0), .second, .val (.long q2), .second, .val (.long q4), .second, .val (.int p6), .val (.int p7), .val (.long sq), .second, .unset, .unset, .unset, .unset, .unset, .unset, .unset, .unset, .unset, .unset] [(.long q4), (.long sq), (.long q0), (.ref b1), (.ref b1)])) _
    refine XS.aconstNull X1.here hx rfl (hb hby at_23) ?_
    show Steps p.tables e below (T1.setTop (mkF m 24 #[.val (.long q0), .second, .val (.long q2), .second, .val (.long q4), .second, .val (.int p6), .val (.int p7), .val (.long sq), .second, .unset, .unset, .unset, .unset, .unset, .unset, .unset, .unset, .unset, .unset] [.null, (.long q4), (.long sq), (.long q0), (.ref b1), (.ref b1)])) _
    refine XS.aconstNull X1.here hx rfl (hb hby at_24) ?_
    show Steps p.tables e below (T1.setTop (mkF m 25 #[.val (.long q0), .second, .val (.long q2), .second, .val (.long q4), .second, .val (.int p6), .val (.int p7), .val (.long sq), .second, .unset, .unset, .unset, .unset, .unset, .unset, .unset, .unset, .unset, .unset] [.null, .null, (.long q4), (.long sq), (.long q0), (.ref b1), (.ref b1)])) _
    refine st3.trans ?_
    show Steps p.tables e below (T3.setTop (mkF m 28 #[.val (.long q0), .second, .val (.long q2), .second, .val (.long q4), .second, .val (.int p6), .val (.int p7), .val (.long sq), .second, .unset, .unset, .unset, .unset, .unset, .unset, .unset, .unset, .unset, .unset] [(.ref b1)])) _
    refine XS.astore X3.here hx rfl (hb hby at_28) rfl rfl (l' := #[.val (.long q0), .second, .val (.long q2), .second, .val (.long q4), .second, .val (.int p6), .val (.int p7), .val (.long sq), .second, .val (.ref b1), .unset, .unset, .unset, .unset, .unset, .unset, .unset, .unset, .unset]) rfl ?_
    show Steps p.tables e below (T3.setTop (mkF m 30 #[.val (.long q0), .second, .val (.long q2), .second, .val (.long q4), .second, .val (.int p6), .val (.int p7), .val (.long sq), .second, .val (.ref b1), .unset, .unset, .unset, .unset, .unset, .unset, .unset, .unset, .unset] [])) _
    refine XS.iconst X3.here hx rfl (hb hby at_30) ?_
    show Steps p.tables e below (T3.setTop (mkF m 31 #[.val (.long q0), .second, .val (.long q2), .second, .val (.long q4), .second, .val (.int p6), .val (.int p7), .val (.long sq), .second, .val (.ref b1), .unset, .unset, .unset, .unset, .unset, .unset, .unset, .unset, .unset] [(.int (1 : Int32))])) _
    refine st5 _ ?_
    show Steps p.tables e below (T5.setTop (mkF m 33 #[.val (.long q0), .second, .val (.long q2), .second, .val (.long q4), .second, .val (.int p6), .val (.int p7), .val (.long sq), .second, .val (.ref b1), .unset, .unset, .unset, .unset, .unset, .unset, .unset, .unset, .unset] [(.ref b5)])) _
    refine XS.dup X5.here hx rfl (hb hby at_33) rfl rfl ?_
    show Steps p.tables e below (T5.setTop (mkF m 34 #[.val (.long q0), .second, .val (.long q2), .second, .val (.long q4), .second, .val (.int p6), .val (.int p7), .val (.long sq), .second, .val (.ref b1), .unset, .unset, .unset, .unset, .unset, .unset, .unset, .unset, .unset] [(.ref b5), (.ref b5)])) _
    refine XS.iconst X5.here hx rfl (hb hby at_34) ?_
    show Steps p.tables e below (T5.setTop (mkF m 35 #[.val (.long q0), .second, .val (.long q2), .second, .val (.long q4), .second, .val (.int p6), .val (.int p7), .val (.long sq), .second, .val (.ref b1), .unset, .unset, .unset, .unset, .unset, .unset, .unset, .unset, .unset] [(.int (0 : Int32)), (.ref b5), (.ref b5)])) _
    refine XS.iload X5.here hx rfl (hb hby at_35) rfl ?_
    show Steps p.tables e below (T5.setTop (mkF m 37 #[.val (.long q0), .second, .val (.long q2), .second, .val (.long q4), .second, .val (.int p6), .val (.int p7), .val (.long sq), .second, .val (.ref b1), .unset, .unset, .unset, .unset, .unset, .unset, .unset, .unset, .unset] [(.int p7), (.int (0 : Int32)), (.ref b5), (.ref b5)])) _
    refine XS.sipush X5.here hx rfl (hb hby at_37) ?_
    show Steps p.tables e below (T5.setTop (mkF m 40 #[.val (.long q0), .second, .val (.long q2), .second, .val (.long q4), .second, .val (.int p6), .val (.int p7), .val (.long sq), .second, .val (.ref b1), .unset, .unset, .unset, .unset, .unset, .unset, .unset, .unset, .unset] [(.int (255 : Int32)), (.int p7), (.int (0 : Int32)), (.ref b5), (.ref b5)])) _
    refine XS.iand X5.here hx rfl (hb hby at_40) rfl ?_
    show Steps p.tables e below (T5.setTop (mkF m 41 #[.val (.long q0), .second, .val (.long q2), .second, .val (.long q4), .second, .val (.int p6), .val (.int p7), .val (.long sq), .second, .val (.ref b1), .unset, .unset, .unset, .unset, .unset, .unset, .unset, .unset, .unset] [(.int (p7 &&& (255 : Int32))), (.int (0 : Int32)), (.ref b5), (.ref b5)])) _
    refine XS.i2c X5.here hx rfl (hb hby at_41) rfl ?_
    show Steps p.tables e below (T5.setTop (mkF m 42 #[.val (.long q0), .second, .val (.long q2), .second, .val (.long q4), .second, .val (.int p6), .val (.int p7), .val (.long sq), .second, .val (.ref b1), .unset, .unset, .unset, .unset, .unset, .unset, .unset, .unset, .unset] [(.int ((p7 &&& (255 : Int32)).toUInt32.toUInt16.toUInt32.toInt32)), (.int (0 : Int32)), (.ref b5), (.ref b5)])) _
    refine st7 _ ?_
    show Steps p.tables e below (T7.setTop (mkF m 43 #[.val (.long q0), .second, .val (.long q2), .second, .val (.long q4), .second, .val (.int p6), .val (.int p7), .val (.long sq), .second, .val (.ref b1), .unset, .unset, .unset, .unset, .unset, .unset, .unset, .unset, .unset] [(.ref b5)])) _
    refine XS.astore X7.here hx rfl (hb hby at_43) rfl rfl (l' := #[.val (.long q0), .second, .val (.long q2), .second, .val (.long q4), .second, .val (.int p6), .val (.int p7), .val (.long sq), .second, .val (.ref b1), .val (.ref b5), .unset, .unset, .unset, .unset, .unset, .unset, .unset, .unset]) rfl ?_
    exact k
  by_cases c49 : (p6 &&& (2 : Int32)) = 0
  · skip
    obtain ⟨_, _, ⟨T9, L9, k9, n9⟩, -, X9, ⟨Lc9, hQ9, l9, y9, z9⟩, st9⟩ := Jvm.LawKit.callS X7 hx (y := (⟨"java/lang/String", "valueOf", "(C)Ljava/lang/String;"⟩ : MethodName)) hown (mvT hZ (hw _ (List.mem_of_getElem? (i := 22) rfl))) (mvT hZ (hw _ (List.mem_of_getElem? (i := 23) rfl))) (mvT hZ (hw _ (List.mem_of_getElem? (i := 24) rfl))) (mvT hZ (hw _ (List.mem_of_getElem? (i := 25) rfl))) (by decide) (backOf (W := 0) (rm3 l Z a0 hw [] ((((p7.toUInt32 >>> ((8 : Int32) &&& 31).toUInt32).toInt32) &&& (255 : Int32)).toUInt32.toUInt16.toUInt32.toInt32) G1 h7 n0 Zs8 (O2.ext O_7.2) P5 (own_chars2 _)) hZ (hw _ (List.mem_of_getElem? (i := 25) rfl)) (hw _ (List.mem_of_getElem? (i := 24) rfl)) (by decide) (by decide)) (g := (mkF m 66 #[.val (.long q0), .second, .val (.long q2), .second, .val (.long q4), .second, .val (.int p6), .val (.int p7), .val (.long sq), .second, .val (.ref b1), .val (.ref b5), .unset, .unset, .unset, .unset, .unset, .unset, .unset, .unset] [(.int ((((p7.toUInt32 >>> ((8 : Int32) &&& 31).toUInt32).toInt32) &&& (255 : Int32)).toUInt32.toUInt16.toUInt32.toInt32))])) rfl (by rw [hml]; rfl) (argsL := [(.int ((((p7.toUInt32 >>> ((8 : Int32) &&& 31).toUInt32).toInt32) &&& (255 : Int32)).toUInt32.toUInt16.toUInt32.toInt32))]) (rest := []) (lenOf pd_4 rfl) rfl (by show 2 * 0 + _ ≤ _; exact Nat.le_of_eq rfl) (hb hby at_66) (fun _ _ => ⟨rfl, e7, (by decide : 2 + 2 ≤ _), (by decide : 7 + 5 ≤ _)⟩)
    dsimp only [Pt.U, Pt.locs, Pt.cells, Pt.slots] at X9 l9 y9 z9 st9 hQ9
    subst l9 y9 z9
    obtain ⟨sv9, rfl, N9q, K9q⟩ := hQ9
    have N9 := Fr.app N7 N9q
    have O_9 := O_7.keep K9q all0
    have E_b1_9 := E_b1_7.keep K9q
    have F_b1_seconds_9 := F_b1_seconds_7.keep K9q nin0
    have F_b1_settingChange_9 := F_b1_settingChange_7.keep K9q nin0
    have V_b5_9 := V7_b5.keep K9q nin0
    have Zs10 := Nat.le_trans Zs8 K9q.1
    have pre3 : ∀ t, Steps p.tables e below (T9.setTop (mkF m 71 #[.val (.long q0), .second, .val (.long q2), .second, .val (.long q4), .second, .val (.int p6), .val (.int p7), .val (.long sq), .second, .val (.ref b1), .val (.ref b5), .val (.ref sv9), .unset, .unset, .unset, .unset, .unset, .unset, .unset] [])) t → Steps p.tables e below (s₁.setTop (entryFrame m #[(.long q0), (.long q2), (.long q4), (.int p6), (.int p7)] maxLocals)) t := by
      intro t k
      refine pre2 t ?_
      show Steps p.tables e below (T7.setTop (mkF m 45 #[.val (.long q0), .second, .val (.long q2), .second, .val (.long q4), .second, .val (.int p6), .val (.int p7), .val (.long sq), .second, .val (.ref b1), .val (.ref b5), .unset, .unset, .unset, .unset, .unset, .unset, .unset, .unset] [])) _
      refine XS.iload X7.here hx rfl (hb hby at_45) rfl ?_
      show Steps p.tables e below (T7.setTop (mkF m 47 #[.val (.long q0), .second, .val (.long q2), .second, .val (.long q4), .second, .val (.int p6), .val (.int p7), .val (.long sq), .second, .val (.ref b1), .val (.ref b5), .unset, .unset, .unset, .unset, .unset, .unset, .unset, .unset] [(.int p6)])) _
      refine XS.iconst X7.here hx rfl (hb hby at_47) ?_
      show Steps p.tables e below (T7.setTop (mkF m 48 #[.val (.long q0), .second, .val (.long q2), .second, .val (.long q4), .second, .val (.int p6), .val (.int p7), .val (.long sq), .second, .val (.ref b1), .val (.ref b5), .unset, .unset, .unset, .unset, .unset, .unset, .unset, .unset] [(.int (2 : Int32)), (.int p6)])) _
      refine XS.iand X7.here hx rfl (hb hby at_48) rfl ?_
      show Steps p.tables e below (T7.setTop (mkF m 49 #[.val (.long q0), .second, .val (.long q2), .second, .val (.long q4), .second, .val (.int p6), .val (.int p7), .val (.long sq), .second, .val (.ref b1), .val (.ref b5), .unset, .unset, .unset, .unset, .unset, .unset, .unset, .unset] [(.int (p6 &&& (2 : Int32)))])) _
      refine XS.ifYes X7.here hx rfl (pc0 := 49) (pc' := 56) rfl (hb hby at_49) rfl ((if0 _ _).trans (teq c49).1) (by decide) (by decide) ?_
      show Steps p.tables e below (T7.setTop (mkF m 56 #[.val (.long q0), .second, .val (.long q2), .second, .val (.long q4), .second, .val (.int p6), .val (.int p7), .val (.long sq), .second, .val (.ref b1), .val (.ref b5), .unset, .unset, .unset, .unset, .unset, .unset, .unset, .unset] [])) _
      refine XS.iload X7.here hx rfl (hb hby at_56) rfl ?_
      show Steps p.tables e below (T7.setTop (mkF m 58 #[.val (.long q0), .second, .val (.long q2), .second, .val (.long q4), .second, .val (.int p6), .val (.int p7), .val (.long sq), .second, .val (.ref b1), .val (.ref b5), .unset, .unset, .unset, .unset, .unset, .unset, .unset, .unset] [(.int p7)])) _
      refine XS.bipush X7.here hx rfl (hb hby at_58) ?_
      show Steps p.tables e below (T7.setTop (mkF m 60 #[.val (.long q0), .second, .val (.long q2), .second, .val (.long q4), .second, .val (.int p6), .val (.int p7), .val (.long sq), .second, .val (.ref b1), .val (.ref b5), .unset, .unset, .unset, .unset, .unset, .unset, .unset, .unset] [(.int (8 : Int32)), (.int p7)])) _
      refine XS.iushr X7.here hx rfl (hb hby at_60) rfl ?_
      show Steps p.tables e below (T7.setTop (mkF m 61 #[.val (.long q0), .second, .val (.long q2), .second, .val (.long q4), .second, .val (.int p6), .val (.int p7), .val (.long sq), .second, .val (.ref b1), .val (.ref b5), .unset, .unset, .unset, .unset, .unset, .unset, .unset, .unset] [(.int ((p7.toUInt32 >>> ((8 : Int32) &&& 31).toUInt32).toInt32))])) _
      refine XS.sipush X7.here hx rfl (hb hby at_61) ?_
      show Steps p.tables e below (T7.setTop (mkF m 64 #[.val (.long q0), .second, .val (.long q2), .second, .val (.long q4), .second, .val (.int p6), .val (.int p7), .val (.long sq), .second, .val (.ref b1), .val (.ref b5), .unset, .unset, .unset, .unset, .unset, .unset, .unset, .unset] [(.int (255 : Int32)), (.int ((p7.toUInt32 >>> ((8 : Int32) &&& 31).toUInt32).toInt32))])) _
      refine XS.iand X7.here hx rfl (hb hby at_64) rfl ?_
      show Steps p.tables e below (T7.setTop (mkF m 65 #[.val (.long q0), .second, .val (.long q2), .second, .val (.long q4), .second, .val (.int p6), .val (.int p7), .val (.long sq), .second, .val (.ref b1), .val (.ref b5), .unset, .unset, .unset, .unset, .unset, .unset, .unset, .unset] [(.int (((p7.toUInt32 >>> ((8 : Int32) &&& 31).toUInt32).toInt32) &&& (255 : Int32)))])) _
      refine XS.i2c X7.here hx rfl (hb hby at_65) rfl ?_
      show Steps p.tables e below (T7.setTop (mkF m 66 #[.val (.long q0), .second, .val (.long q2), .second, .val (.long q4), .second, .val (.int p6), .val (.int p7), .val (.long sq), .second, .val (.ref b1), .val (.ref b5), .unset, .unset, .unset, .unset, .unset, .unset, .unset, .unset] [(.int ((((p7.toUInt32 >>> ((8 : Int32) &&& 31).toUInt32).toInt32) &&& (255 : Int32)).toUInt32.toUInt16.toUInt32.toInt32))])) _
      refine st9 _ ?_
      show Steps p.tables e below (T9.setTop (mkF m 69 #[.val (.long q0), .second, .val (.long q2), .second, .val (.long q4), .second, .val (.int p6), .val (.int p7), .val (.long sq), .second, .val (.ref b1), .val (.ref b5), .unset, .unset, .unset, .unset, .unset, .unset, .unset, .unset] [(.ref sv9)])) _
      refine XS.astore X9.here hx rfl (hb hby at_69) rfl rfl (l' := #[.val (.long q0), .second, .val (.long q2), .second, .val (.long q4), .second, .val (.int p6), .val (.int p7), .val (.long sq), .second, .val (.ref b1), .val (.ref b5), .val (.ref sv9), .unset, .unset, .unset, .unset, .unset, .unset, .unset]) rfl ?_
      exact k
    by_cases c75 : (p6 &&& (4 : Int32)) = 0
    · skip
      obtain ⟨_, _, ⟨T11, L11, k11, n11⟩, -, X11, ⟨Lc11, hQ11, l11, y11, z11⟩, st11⟩ := Jvm.LawKit.callS X9 hx (y := (⟨"java/lang/String", "valueOf", "(C)Ljava/lang/String;"⟩ : MethodName)) hown (mvT hZ (hw _ (List.mem_of_getElem? (i := 22) rfl))) (mvT hZ (hw _ (List.mem_of_getElem? (i := 23) rfl))) (mvT hZ (hw _ (List.mem_of_getElem? (i := 24) rfl))) (mvT hZ (hw _ (List.mem_of_getElem? (i := 25) rfl))) (by decide) (backOf (W := 0) (rm3 l Z a0 hw [] ((((p7.toUInt32 >>> ((16 : Int32) &&& 31).toUInt32).toInt32) &&& (255 : Int32)).toUInt32.toUInt16.toUInt32.toInt32) G1 T9.heap n0 Zs10 (O2.ext O_9.2) P5 (own_chars2 _)) hZ (hw _ (List.mem_of_getElem? (i := 25) rfl)) (hw _ (List.mem_of_getElem? (i := 24) rfl)) (by decide) (by decide)) (g := (mkF m 92 #[.val (.long q0), .second, .val (.long q2), .second, .val (.long q4), .second, .val (.int p6), .val (.int p7), .val (.long sq), .second, .val (.ref b1), .val (.ref b5), .val (.ref sv9), .unset, .unset, .unset, .unset, .unset, .unset, .unset] [(.int ((((p7.toUInt32 >>> ((16 : Int32) &&& 31).toUInt32).toInt32) &&& (255 : Int32)).toUInt32.toUInt16.toUInt32.toInt32))])) rfl (by rw [hml]; rfl) (argsL := [(.int ((((p7.toUInt32 >>> ((16 : Int32) &&& 31).toUInt32).toInt32) &&& (255 : Int32)).toUInt32.toUInt16.toUInt32.toInt32))]) (rest := []) (lenOf pd_4 rfl) rfl (by show 2 * 0 + _ ≤ _; exact Nat.le_of_eq rfl) (hb hby at_92) (fun _ _ => ⟨rfl, rfl, (by decide : 4 + 2 ≤ _), (by decide : 12 + 5 ≤ _)⟩)
      dsimp only [Pt.U, Pt.locs, Pt.cells, Pt.slots] at X11 l11 y11 z11 st11 hQ11
      subst l11 y11 z11
      obtain ⟨sv11, rfl, N11q, K11q⟩ := hQ11
      have N11 := Fr.app N9 N11q
      have O_11 := O_9.keep K11q all0
      have E_b1_11 := E_b1_9.keep K11q
      have F_b1_seconds_11 := F_b1_seconds_9.keep K11q nin0
      have F_b1_settingChange_11 := F_b1_settingChange_9.keep K11q nin0
      have V_b5_11 := V_b5_9.keep K11q nin0
      have Zs12 := Nat.le_trans Zs10 K11q.1
      have pre4 : ∀ t, Steps p.tables e below (T11.setTop (mkF m 97 #[.val (.long q0), .second, .val (.long q2), .second, .val (.long q4), .second, .val (.int p6), .val (.int p7), .val (.long sq), .second, .val (.ref b1), .val (.ref b5), .val (.ref sv9), .val (.ref sv11), .unset, .unset, .unset, .unset, .unset, .unset] [])) t → Steps p.tables e below (s₁.setTop (entryFrame m #[(.long q0), (.long q2), (.long q4), (.int p6), (.int p7)] maxLocals)) t := by
        intro t k
        refine pre3 t ?_
        show Steps p.tables e below (T9.setTop (mkF m 71 #[.val (.long q0), .second, .val (.long q2), .second, .val (.long q4), .second, .val (.int p6), .val (.int p7), .val (.long sq), .second, .val (.ref b1), .val (.ref b5), .val (.ref sv9), .unset, .unset, .unset, .unset, .unset, .unset, .unset] [])) _
        refine XS.iload X9.here hx rfl (hb hby at_71) rfl ?_
        show Steps p.tables e below (T9.setTop (mkF m 73 #[.val (.long q0), .second, .val (.long q2), .second, .val (.long q4), .second, .val (.int p6), .val (.int p7), .val (.long sq), .second, .val (.ref b1), .val (.ref b5), .val (.ref sv9), .unset, .unset, .unset, .unset, .unset, .unset, .unset] [(.int p6)])) _
        refine XS.iconst X9.here hx rfl (hb hby at_73) ?_
        show Steps p.tables e below (T9.setTop (mkF m 74 #[.val (.long q0), .second, .val (.long q2), .second, .val (.long q4), .second, .val (.int p6), .val (.int p7), .val (.long sq), .second, .val (.ref b1), .val (.ref b5), .val (.ref sv9), .unset, .unset, .unset, .unset, .unset, .unset, .unset] [(.int (4 : Int32)), (.int p6)])) _
        refine XS.iand X9.here hx rfl (hb hby at_74) rfl ?_
        show Steps p.tables e below (T9.setTop (mkF m 75 #[.val (.long q0), .second, .val (.long q2), .second, .val (.long q4), .second, .val (.int p6), .val (.int p7), .val (.long sq), .second, .val (.ref b1), .val (.ref b5), .val (.ref sv9), .unset, .unset, .unset, .unset, .unset, .unset, .unset] [(.int (p6 &&& (4 : Int32)))])) _
        refine XS.ifYes X9.here hx rfl (pc0 := 75) (pc' := 82) rfl (hb hby at_75) rfl ((if0 _ _).trans (teq c75).1) (by decide) (by decide) ?_
        show Steps p.tables e below (T9.setTop (mkF m 82 #[.val (.long q0), .second, .val (.long q2), .second, .val (.long q4), .second, .val (.int p6), .val (.int p7), .val (.long sq), .second, .val (.ref b1), .val (.ref b5), .val (.ref sv9), .unset, .unset, .unset, .unset, .unset, .unset, .unset] [])) _
        refine XS.iload X9.here hx rfl (hb hby at_82) rfl ?_
        show Steps p.tables e below (T9.setTop (mkF m 84 #[.val (.long q0), .second, .val (.long q2), .second, .val (.long q4), .second, .val (.int p6), .val (.int p7), .val (.long sq), .second, .val (.ref b1), .val (.ref b5), .val (.ref sv9), .unset, .unset, .unset, .unset, .unset, .unset, .unset] [(.int p7)])) _
        refine XS.bipush X9.here hx rfl (hb hby at_84) ?_
        show Steps p.tables e below (T9.setTop (mkF m 86 #[.val (.long q0), .second, .val (.long q2), .second, .val (.long q4), .second, .val (.int p6), .val (.int p7), .val (.long sq), .second, .val (.ref b1), .val (.ref b5), .val (.ref sv9), .unset, .unset, .unset, .unset, .unset, .unset, .unset] [(.int (16 : Int32)), (.int p7)])) _
        refine XS.iushr X9.here hx rfl (hb hby at_86) rfl ?_
        show Steps p.tables e below (T9.setTop (mkF m 87 #[.val (.long q0), .second, .val (.long q2), .second, .val (.long q4), .second, .val (.int p6), .val (.int p7), .val (.long sq), .second, .val (.ref b1), .val (.ref b5), .val (.ref sv9), .unset, .unset, .unset, .unset, .unset, .unset, .unset] [(.int ((p7.toUInt32 >>> ((16 : Int32) &&& 31).toUInt32).toInt32))])) _
        refine XS.sipush X9.here hx rfl (hb hby at_87) ?_
        show Steps p.tables e below (T9.setTop (mkF m 90 #[.val (.long q0), .second, .val (.long q2), .second, .val (.long q4), .second, .val (.int p6), .val (.int p7), .val (.long sq), .second, .val (.ref b1), .val (.ref b5), .val (.ref sv9), .unset, .unset, .unset, .unset, .unset, .unset, .unset] [(.int (255 : Int32)), (.int ((p7.toUInt32 >>> ((16 : Int32) &&& 31).toUInt32).toInt32))])) _
        refine XS.iand X9.here hx rfl (hb hby at_90) rfl ?_
        show Steps p.tables e below (T9.setTop (mkF m 91 #[.val (.long q0), .second, .val (.long q2), .second, .val (.long q4), .second, .val (.int p6), .val (.int p7), .val (.long sq), .second, .val (.ref b1), .val (.ref b5), .val (.ref sv9), .unset, .unset, .unset, .unset, .unset, .unset, .unset] [(.int (((p7.toUInt32 >>> ((16 : Int32) &&& 31).toUInt32).toInt32) &&& (255 : Int32)))])) _
        refine XS.i2c X9.here hx rfl (hb hby at_91) rfl ?_
        show Steps p.tables e below (T9.setTop (mkF m 92 #[.val (.long q0), .second, .val (.long q2), .second, .val (.long q4), .second, .val (.int p6), .val (.int p7), .val (.long sq), .second, .val (.ref b1), .val (.ref b5), .val (.ref sv9), .unset, .unset, .unset, .unset, .unset, .unset, .unset] [(.int ((((p7.toUInt32 >>> ((16 : Int32) &&& 31).toUInt32).toInt32) &&& (255 : Int32)).toUInt32.toUInt16.toUInt32.toInt32))])) _
        refine st11 _ ?_
        show Steps p.tables e below (T11.setTop (mkF m 95 #[.val (.long q0), .second, .val (.long q2), .second, .val (.long q4), .second, .val (.int p6), .val (.int p7), .val (.long sq), .second, .val (.ref b1), .val (.ref b5), .val (.ref sv9), .unset, .unset, .unset, .unset, .unset, .unset, .unset] [(.ref sv11)])) _
        refine XS.astore X11.here hx rfl (hb hby at_95) rfl rfl (l' := #[.val (.long q0), .second, .val (.long q2), .second, .val (.long q4), .second, .val (.int p6), .val (.int p7), .val (.long sq), .second, .val (.ref b1), .val (.ref b5), .val (.ref sv9), .val (.ref sv11), .unset, .unset, .unset, .unset, .unset, .unset]) rfl ?_
        exact k
      obtain ⟨T13, h13, X13, e13, E13, A13, D13, -, st13⟩ := newO X11 hx hZ hown (hw _ (List.mem_of_getElem? (i := 46) rfl)) (hw _ (List.mem_of_getElem? (i := 47) rfl)) (hw _ (List.mem_of_getElem? (i := 48) rfl)) rfl (g := (mkF m 97 #[.val (.long q0), .second, .val (.long q2), .second, .val (.long q4), .second, .val (.int p6), .val (.int p7), .val (.long sq), .second, .val (.ref b1), .val (.ref b5), .val (.ref sv9), .val (.ref sv11), .unset, .unset, .unset, .unset, .unset, .unset] [])) rfl (hb hby at_97) (by decide) (by decide)
      obtain ⟨b13, g13⟩ : ∃ z, z = T11.heap.size := ⟨_, rfl⟩
      rw [← g13] at A13 D13 st13
      have ne_b1_b13 : b1 ≠ b13 := Nat.ne_of_lt (Nat.lt_of_lt_of_le E_b1_11.lt (Nat.le_of_eq g13.symm))
      have ne_b5_b13 : b5 ≠ b13 := Nat.ne_of_lt (Nat.lt_of_lt_of_le V_b5_11.lt (Nat.le_of_eq g13.symm))
      have g_b13 : n0 ≤ b13 := Nat.le_trans Zs12 (Nat.le_of_eq g13.symm)
      have O_13 := O_11.ext E13
      have E_b1_13 := E_b1_11.ext E13
      have F_b1_seconds_13 := F_b1_seconds_11.ext E13
      have F_b1_settingChange_13 := F_b1_settingChange_11.ext E13
      have V_b5_13 := V_b5_11.ext E13
      have Zs14 := Nat.le_trans Zs12 E13.1
      have F_field_b13 : Fld Z h13 b13 "com/example/governor/governor/core/FieldChange" "field" "Ljava/lang/String;" .null := D13 (Or.inr (hw _ (List.mem_of_getElem? (i := 71) rfl))) (ty := (.object "java/lang/String")) (by decide)
      have F_before_b13 : Fld Z h13 b13 "com/example/governor/governor/core/FieldChange" "before" "Ljava/lang/String;" .null := D13 (Or.inr (hw _ (List.mem_of_getElem? (i := 73) rfl))) (ty := (.object "java/lang/String")) (by decide)
      have F_after_b13 : Fld Z h13 b13 "com/example/governor/governor/core/FieldChange" "after" "Ljava/lang/String;" .null := D13 (Or.inr (hw _ (List.mem_of_getElem? (i := 75) rfl))) (ty := (.object "java/lang/String")) (by decide)
      obtain ⟨T15, h15, X15, e15, E15, A15, D15, -, st15⟩ := newO X13 hx hZ hown (hw _ (List.mem_of_getElem? (i := 49) rfl)) (hw _ (List.mem_of_getElem? (i := 32) rfl)) (hw _ (List.mem_of_getElem? (i := 24) rfl)) e13 (g := (mkF m 101 #[.val (.long q0), .second, .val (.long q2), .second, .val (.long q4), .second, .val (.int p6), .val (.int p7), .val (.long sq), .second, .val (.ref b1), .val (.ref b5), .val (.ref sv9), .val (.ref sv11), .unset, .unset, .unset, .unset, .unset, .unset] [(.ref b13), (.ref b13)])) rfl (hb hby at_101) (by decide) (by decide)
      obtain ⟨b15, g15⟩ : ∃ z, z = h13.size := ⟨_, rfl⟩
      rw [← g15] at A15 D15 st15
      have ne_b1_b15 : b1 ≠ b15 := Nat.ne_of_lt (Nat.lt_of_lt_of_le E_b1_13.lt (Nat.le_of_eq g15.symm))
      have ne_b5_b15 : b5 ≠ b15 := Nat.ne_of_lt (Nat.lt_of_lt_of_le V_b5_13.lt (Nat.le_of_eq g15.symm))
      have ne_b13_b15 : b13 ≠ b15 := Nat.ne_of_lt (Nat.lt_of_lt_of_le F_field_b13.lt (Nat.le_of_eq g15.symm))
      have g_b15 : n0 ≤ b15 := Nat.le_trans Zs14 (Nat.le_of_eq g15.symm)
      have O_15 := O_13.ext E15
      have E_b1_15 := E_b1_13.ext E15
      have F_b1_seconds_15 := F_b1_seconds_13.ext E15
      have F_b1_settingChange_15 := F_b1_settingChange_13.ext E15
      have V_b5_15 := V_b5_13.ext E15
      have F_b13_field_15 := F_field_b13.ext E15
      have F_b13_before_15 := F_before_b13.ext E15
      have F_b13_after_15 := F_after_b13.ext E15
      have E_b13_15 := A13.ext E15
      have Zs16 := Nat.le_trans Zs14 E15.1
      have F_value_b15 : Fld Z h15 b15 "java/lang/String" "value" "[B" .null := D15 (Or.inr (hw _ (List.mem_of_getElem? (i := 43) rfl))) (ty := (.array .byte)) (by decide)
      have F_coder_b15 : Fld Z h15 b15 "java/lang/String" "coder" "B" (.int (0 : Int32)) := D15 (Or.inr (hw _ (List.mem_of_getElem? (i := 45) rfl))) (ty := .byte) (by decide)
      obtain ⟨_, _, ⟨T17, L17, k17, n17⟩, -, X17, ⟨Lc17, hQ17, l17, y17, z17⟩, st17⟩ := X15.specialBack hx (y := (⟨"java/lang/String", "<init>", "([C)V"⟩ : MethodName)) rfl hown (mvT hZ (hw _ (List.mem_of_getElem? (i := 50) rfl))) (mvT hZ (hw _ (List.mem_of_getElem? (i := 51) rfl))) (mvT hZ (hw _ (List.mem_of_getElem? (i := 52) rfl))) (by decide) (StrChars.Road.backV (W := 3) hZ hws (kI := 4) (hw _ (List.mem_of_getElem? (i := 32) rfl)) (cs := ([nar .char ((p7 &&& (255 : Int32)).toUInt32.toUInt16.toUInt32.toInt32)] : List Int32)) (bs := (([nar .char ((p7 &&& (255 : Int32)).toUInt32.toUInt16.toUInt32.toInt32)] : List Int32)).map (fun c => c.toInt8.toInt32)) (n := 1) g_b15 Zs16 A15 F_value_b15 F_coder_b15 V_b5_15 (O2.ext O_15.2) P5 rfl rfl (by decide) (by decide) hp rfl (by decide) (by decide)) (g := (mkF m 107 #[.val (.long q0), .second, .val (.long q2), .second, .val (.long q4), .second, .val (.int p6), .val (.int p7), .val (.long sq), .second, .val (.ref b1), .val (.ref b5), .val (.ref sv9), .val (.ref sv11), .unset, .unset, .unset, .unset, .unset, .unset] [(.ref b5), (.ref b15), (.ref b15), (.ref b13), (.ref b13)])) rfl (by rw [hml]; rfl) (Steps.refl _) (a := b15) (argsL := [(.ref b5)]) (rest := [(.ref b15), (.ref b13), (.ref b13)]) (lenOf pd_5 rfl) rfl (by show 2 * 0 + _ ≤ _; exact Nat.le_of_eq rfl) (hb hby at_107) (fun _ _ => ⟨rfl, e15, (by decide : 8 + 1 ≤ _), (by decide : 24 + 1 ≤ _)⟩)
      dsimp only [Pt.U, Pt.locs, Pt.cells, Pt.slots] at X17 l17 y17 z17 st17 hQ17
      subst l17 y17 z17
      obtain ⟨rfl, N17q, K17q, E17q, Fc17q, ta17, kb17, u117, u217, u317, Fv17q, Vv17q⟩ := hQ17
      have N17 := Fr.app N11 N17q
      have O_17 := O_15.keep K17q (allS g_b15 all0)
      have E_b1_17 := E_b1_15.keep K17q
      have F_b1_seconds_17 := F_b1_seconds_15.keep K17q (ninS ne_b1_b15 nin0)
      have F_b1_settingChange_17 := F_b1_settingChange_15.keep K17q (ninS ne_b1_b15 nin0)
      have V_b5_17 := V_b5_15.keep K17q (ninS ne_b5_b15 nin0)
      have F_b13_field_17 := F_b13_field_15.keep K17q (ninS ne_b13_b15 nin0)
      have F_b13_before_17 := F_b13_before_15.keep K17q (ninS ne_b13_b15 nin0)
      have F_b13_after_17 := F_b13_after_15.keep K17q (ninS ne_b13_b15 nin0)
      have E_b13_17 := E_b13_15.keep K17q
      have E_b15_17 := A15.keep K17q
      have Zs18 := Nat.le_trans Zs16 K17q.1
      obtain ⟨_, _, ⟨T19, L19, k19, n19⟩, -, X19, ⟨Lc19, hQ19, l19, y19, z19⟩, st19⟩ := X17.specialBack hx (y := (⟨"com/example/governor/governor/core/FieldChange", "<init>", "(Ljava/lang/String;Ljava/lang/String;Ljava/lang/String;)V"⟩ : MethodName)) rfl hown (mvT hZ (hw _ (List.mem_of_getElem? (i := 66) rfl))) (mvT hZ (hw _ (List.mem_of_getElem? (i := 67) rfl))) (mvT hZ (hw _ (List.mem_of_getElem? (i := 68) rfl))) (by decide) (backOf (W := 1) (rm12rr l Z a0 hw [] b13 b15 sv9 sv11 T17.heap n0 Zs18 F_b13_field_17 F_b13_before_17 F_b13_after_17 E_b13_17 g_b13) hZ (hw _ (List.mem_of_getElem? (i := 68) rfl)) (hw _ (List.mem_of_getElem? (i := 48) rfl)) (by decide) (by decide)) (g := (mkF m 114 #[.val (.long q0), .second, .val (.long q2), .second, .val (.long q4), .second, .val (.int p6), .val (.int p7), .val (.long sq), .second, .val (.ref b1), .val (.ref b5), .val (.ref sv9), .val (.ref sv11), .unset, .unset, .unset, .unset, .unset, .unset] [(.ref sv11), (.ref sv9), (.ref b15), (.ref b13), (.ref b13)])) rfl (by rw [hml]; rfl) (Steps.refl _) (a := b13) (argsL := [(.ref b15), (.ref sv9), (.ref sv11)]) (rest := [(.ref b13)]) (lenOf pd_6 rfl) rfl (by show 2 * 0 + _ ≤ _; exact Nat.le_of_eq rfl) (hb hby at_114) (fun _ _ => ⟨rfl, rfl, (by decide : 9 + 0 ≤ _), (by decide : 25 + 0 ≤ _)⟩)
      dsimp only [Pt.U, Pt.locs, Pt.cells, Pt.slots] at X19 l19 y19 z19 st19 hQ19
      subst l19 y19 z19
      obtain ⟨rfl, N19q, K19q⟩ := hQ19
      have N19 := Fr.app N17 N19q
      have O_19 := O_17.keep K19q (allS g_b13 all0)
      have E_b1_19 := E_b1_17.keep K19q
      have F_b1_seconds_19 := F_b1_seconds_17.keep K19q (ninS ne_b1_b13 nin0)
      have F_b1_settingChange_19 := F_b1_settingChange_17.keep K19q (ninS ne_b1_b13 nin0)
      have V_b5_19 := V_b5_17.keep K19q (ninS ne_b5_b13 nin0)
      have E_b13_19 := E_b13_17.keep K19q
      have E_b15_19 := E17q.keep K19q
      have Zs20 := Nat.le_trans Zs18 K19q.1
      obtain ⟨T21, h21, X21, e21, E21, A21, D21, -, st21⟩ := newO X19 hx hZ hown (hw _ (List.mem_of_getElem? (i := 0) rfl)) (hw _ (List.mem_of_getElem? (i := 1) rfl)) (hw _ (List.mem_of_getElem? (i := 2) rfl)) rfl (g := (mkF m 119 #[.val (.long q0), .second, .val (.long q2), .second, .val (.long q4), .second, .val (.int p6), .val (.int p7), .val (.long sq), .second, .val (.ref b1), .val (.ref b5), .val (.ref sv9), .val (.ref sv11), .val (.ref b13), .unset, .unset, .unset, .unset, .unset] [])) rfl (hb hby at_119) (by decide) (by decide)
      obtain ⟨b21, g21⟩ : ∃ z, z = T19.heap.size := ⟨_, rfl⟩
      rw [← g21] at A21 D21 st21
      have ne_b1_b21 : b1 ≠ b21 := Nat.ne_of_lt (Nat.lt_of_lt_of_le E_b1_19.lt (Nat.le_of_eq g21.symm))
      have ne_b5_b21 : b5 ≠ b21 := Nat.ne_of_lt (Nat.lt_of_lt_of_le V_b5_19.lt (Nat.le_of_eq g21.symm))
      have ne_b13_b21 : b13 ≠ b21 := Nat.ne_of_lt (Nat.lt_of_lt_of_le E_b13_19.lt (Nat.le_of_eq g21.symm))
      have ne_b15_b21 : b15 ≠ b21 := Nat.ne_of_lt (Nat.lt_of_lt_of_le E_b15_19.lt (Nat.le_of_eq g21.symm))
      have g_b21 : n0 ≤ b21 := Nat.le_trans Zs20 (Nat.le_of_eq g21.symm)
      have O_21 := O_19.ext E21
      have E_b1_21 := E_b1_19.ext E21
      have F_b1_seconds_21 := F_b1_seconds_19.ext E21
      have F_b1_settingChange_21 := F_b1_settingChange_19.ext E21
      have V_b5_21 := V_b5_19.ext E21
      have E_b13_21 := E_b13_19.ext E21
      have E_b15_21 := E_b15_19.ext E21
      have Zs22 := Nat.le_trans Zs20 E21.1
      have F_number_b21 : Fld Z h21 b21 "com/example/governor/governor/core/UsageLine" "number" "J" (.long (0 : Int64)) := D21 (Or.inr (hw _ (List.mem_of_getElem? (i := 10) rfl))) (ty := .long) (by decide)
      have F_seconds_b21 : Fld Z h21 b21 "com/example/governor/governor/core/UsageLine" "seconds" "J" (.long (0 : Int64)) := D21 (Or.inr (hw _ (List.mem_of_getElem? (i := 12) rfl))) (ty := .long) (by decide)
      have F_sessions_b21 : Fld Z h21 b21 "com/example/governor/governor/core/UsageLine" "sessions" "J" (.long (0 : Int64)) := D21 (Or.inr (hw _ (List.mem_of_getElem? (i := 14) rfl))) (ty := .long) (by decide)
      have F_vcoresUsed_b21 : Fld Z h21 b21 "com/example/governor/governor/core/UsageLine" "vcoresUsed" "Ljava/math/BigDecimal;" .null := D21 (Or.inr (hw _ (List.mem_of_getElem? (i := 16) rfl))) (ty := (.object "java/math/BigDecimal")) (by decide)
      have F_memoryGbUsed_b21 : Fld Z h21 b21 "com/example/governor/governor/core/UsageLine" "memoryGbUsed" "Ljava/math/BigDecimal;" .null := D21 (Or.inr (hw _ (List.mem_of_getElem? (i := 18) rfl))) (ty := (.object "java/math/BigDecimal")) (by decide)
      have F_settingChange_b21 : Fld Z h21 b21 "com/example/governor/governor/core/UsageLine" "settingChange" "Lcom/example/governor/governor/core/FieldChange;" .null := D21 (Or.inr (hw _ (List.mem_of_getElem? (i := 20) rfl))) (ty := (.object "com/example/governor/governor/core/FieldChange")) (by decide)
      obtain ⟨_, _, ⟨T23, L23, k23, n23⟩, -, X23, ⟨Lc23, hQ23, l23, y23, z23⟩, st23⟩ := X21.specialBack hx (y := (⟨"com/example/governor/governor/core/UsageLine", "<init>", "(JLcom/example/governor/governor/core/FieldChange;)V"⟩ : MethodName)) rfl hown (mvT hZ (hw _ (List.mem_of_getElem? (i := 76) rfl))) (mvT hZ (hw _ (List.mem_of_getElem? (i := 77) rfl))) (mvT hZ (hw _ (List.mem_of_getElem? (i := 78) rfl))) (by decide) (backOf (W := 1) (rm13r l Z a0 hw [] b21 q0 b13 zz h21 n0 Zs22 F_number_b21 F_seconds_b21 F_sessions_b21 F_vcoresUsed_b21 F_memoryGbUsed_b21 F_settingChange_b21 A21 g_b21 (O3.ext O_21.2)) hZ (hw _ (List.mem_of_getElem? (i := 78) rfl)) (hw _ (List.mem_of_getElem? (i := 2) rfl)) (by decide) (by decide)) (g := (mkF m 126 #[.val (.long q0), .second, .val (.long q2), .second, .val (.long q4), .second, .val (.int p6), .val (.int p7), .val (.long sq), .second, .val (.ref b1), .val (.ref b5), .val (.ref sv9), .val (.ref sv11), .val (.ref b13), .unset, .unset, .unset, .unset, .unset] [(.ref b13), (.long q0), (.ref b21), (.ref b21)])) rfl (by rw [hml]; rfl) (Steps.refl _) (a := b21) (argsL := [(.long q0), (.ref b13)]) (rest := [(.ref b21)]) (lenOf pd_7 rfl) rfl (by show 2 * 0 + _ ≤ _; exact Nat.le_of_eq rfl) (hb hby at_126) (fun _ _ => ⟨rfl, e21, (by decide : 10 + 0 ≤ _), (by decide : 31 + 0 ≤ _)⟩)
      dsimp only [Pt.U, Pt.locs, Pt.cells, Pt.slots] at X23 l23 y23 z23 st23 hQ23
      subst l23 y23 z23
      obtain ⟨rfl, N23q, K23q, E23q, Fs23q, Fc23q⟩ := hQ23
      have N23 := Fr.app N19 N23q
      have O_23 := O_21.keep K23q (allS g_b21 all0)
      have E_b1_23 := E_b1_21.keep K23q
      have F_b1_seconds_23 := F_b1_seconds_21.keep K23q (ninS ne_b1_b21 nin0)
      have F_b1_settingChange_23 := F_b1_settingChange_21.keep K23q (ninS ne_b1_b21 nin0)
      have V_b5_23 := V_b5_21.keep K23q (ninS ne_b5_b21 nin0)
      have E_b13_23 := E_b13_21.keep K23q
      have E_b15_23 := E_b15_21.keep K23q
      have E_b21_23 := A21.keep K23q
      have Zs24 := Nat.le_trans Zs22 K23q.1
      obtain ⟨T25, h25, X25, e25, E25, A25, D25, -, st25⟩ := newO X23 hx hZ hown (hw _ (List.mem_of_getElem? (i := 0) rfl)) (hw _ (List.mem_of_getElem? (i := 1) rfl)) (hw _ (List.mem_of_getElem? (i := 2) rfl)) rfl (g := (mkF m 131 #[.val (.long q0), .second, .val (.long q2), .second, .val (.long q4), .second, .val (.int p6), .val (.int p7), .val (.long sq), .second, .val (.ref b1), .val (.ref b5), .val (.ref sv9), .val (.ref sv11), .val (.ref b13), .val (.ref b21), .unset, .unset, .unset, .unset] [])) rfl (hb hby at_131) (by decide) (by decide)
      obtain ⟨b25, g25⟩ : ∃ z, z = T23.heap.size := ⟨_, rfl⟩
      rw [← g25] at A25 D25 st25
      have ne_b1_b25 : b1 ≠ b25 := Nat.ne_of_lt (Nat.lt_of_lt_of_le E_b1_23.lt (Nat.le_of_eq g25.symm))
      have ne_b5_b25 : b5 ≠ b25 := Nat.ne_of_lt (Nat.lt_of_lt_of_le V_b5_23.lt (Nat.le_of_eq g25.symm))
      have ne_b13_b25 : b13 ≠ b25 := Nat.ne_of_lt (Nat.lt_of_lt_of_le E_b13_23.lt (Nat.le_of_eq g25.symm))
      have ne_b15_b25 : b15 ≠ b25 := Nat.ne_of_lt (Nat.lt_of_lt_of_le E_b15_23.lt (Nat.le_of_eq g25.symm))
      have ne_b21_b25 : b21 ≠ b25 := Nat.ne_of_lt (Nat.lt_of_lt_of_le E23q.lt (Nat.le_of_eq g25.symm))
      have g_b25 : n0 ≤ b25 := Nat.le_trans Zs24 (Nat.le_of_eq g25.symm)
      have O_25 := O_23.ext E25
      have E_b1_25 := E_b1_23.ext E25
      have F_b1_seconds_25 := F_b1_seconds_23.ext E25
      have F_b1_settingChange_25 := F_b1_settingChange_23.ext E25
      have V_b5_25 := V_b5_23.ext E25
      have E_b13_25 := E_b13_23.ext E25
      have E_b15_25 := E_b15_23.ext E25
      have E_b21_25 := E23q.ext E25
      have F_b21_seconds_25 := Fs23q.ext E25
      have F_b21_settingChange_25 := Fc23q.ext E25
      have Zs26 := Nat.le_trans Zs24 E25.1
      have F_number_b25 : Fld Z h25 b25 "com/example/governor/governor/core/UsageLine" "number" "J" (.long (0 : Int64)) := D25 (Or.inr (hw _ (List.mem_of_getElem? (i := 10) rfl))) (ty := .long) (by decide)
      have F_seconds_b25 : Fld Z h25 b25 "com/example/governor/governor/core/UsageLine" "seconds" "J" (.long (0 : Int64)) := D25 (Or.inr (hw _ (List.mem_of_getElem? (i := 12) rfl))) (ty := .long) (by decide)
      have F_sessions_b25 : Fld Z h25 b25 "com/example/governor/governor/core/UsageLine" "sessions" "J" (.long (0 : Int64)) := D25 (Or.inr (hw _ (List.mem_of_getElem? (i := 14) rfl))) (ty := .long) (by decide)
      have F_vcoresUsed_b25 : Fld Z h25 b25 "com/example/governor/governor/core/UsageLine" "vcoresUsed" "Ljava/math/BigDecimal;" .null := D25 (Or.inr (hw _ (List.mem_of_getElem? (i := 16) rfl))) (ty := (.object "java/math/BigDecimal")) (by decide)
      have F_memoryGbUsed_b25 : Fld Z h25 b25 "com/example/governor/governor/core/UsageLine" "memoryGbUsed" "Ljava/math/BigDecimal;" .null := D25 (Or.inr (hw _ (List.mem_of_getElem? (i := 18) rfl))) (ty := (.object "java/math/BigDecimal")) (by decide)
      have F_settingChange_b25 : Fld Z h25 b25 "com/example/governor/governor/core/UsageLine" "settingChange" "Lcom/example/governor/governor/core/FieldChange;" .null := D25 (Or.inr (hw _ (List.mem_of_getElem? (i := 20) rfl))) (ty := (.object "com/example/governor/governor/core/FieldChange")) (by decide)
      obtain ⟨_, _, ⟨T27, L27, k27, n27⟩, -, X27, ⟨Lc27, hQ27, l27, y27, z27⟩, st27⟩ := X25.specialBack hx (y := (⟨"com/example/governor/governor/core/UsageLine", "<init>", "(JLcom/example/governor/governor/core/FieldChange;)V"⟩ : MethodName)) rfl hown (mvT hZ (hw _ (List.mem_of_getElem? (i := 76) rfl))) (mvT hZ (hw _ (List.mem_of_getElem? (i := 77) rfl))) (mvT hZ (hw _ (List.mem_of_getElem? (i := 78) rfl))) (by decide) (backOf (W := 1) (rm13n l Z a0 hw [] b25 q0  zz h25 n0 Zs26 F_number_b25 F_seconds_b25 F_sessions_b25 F_vcoresUsed_b25 F_memoryGbUsed_b25 F_settingChange_b25 A25 g_b25 (O3.ext O_25.2)) hZ (hw _ (List.mem_of_getElem? (i := 78) rfl)) (hw _ (List.mem_of_getElem? (i := 2) rfl)) (by decide) (by decide)) (g := (mkF m 140 #[.val (.long q0), .second, .val (.long q2), .second, .val (.long q4), .second, .val (.int p6), .val (.int p7), .val (.long sq), .second, .val (.ref b1), .val (.ref b5), .val (.ref sv9), .val (.ref sv11), .val (.ref b13), .val (.ref b21), .unset, .unset, .unset, .unset] [.null, (.long q0), (.ref b25), (.ref b25)])) rfl (by rw [hml]; rfl) (Steps.refl _) (a := b25) (argsL := [(.long q0), .null]) (rest := [(.ref b25)]) (lenOf pd_7 rfl) rfl (by show 2 * 0 + _ ≤ _; exact Nat.le_of_eq rfl) (hb hby at_140) (fun _ _ => ⟨rfl, e25, (by decide : 11 + 0 ≤ _), (by decide : 37 + 0 ≤ _)⟩)
      dsimp only [Pt.U, Pt.locs, Pt.cells, Pt.slots] at X27 l27 y27 z27 st27 hQ27
      subst l27 y27 z27
      obtain ⟨rfl, N27q, K27q, E27q, Fs27q, Fc27q⟩ := hQ27
      have N27 := Fr.app N23 N27q
      have O_27 := O_25.keep K27q (allS g_b25 all0)
      have E_b1_27 := E_b1_25.keep K27q
      have F_b1_seconds_27 := F_b1_seconds_25.keep K27q (ninS ne_b1_b25 nin0)
      have F_b1_settingChange_27 := F_b1_settingChange_25.keep K27q (ninS ne_b1_b25 nin0)
      have V_b5_27 := V_b5_25.keep K27q (ninS ne_b5_b25 nin0)
      have E_b13_27 := E_b13_25.keep K27q
      have E_b15_27 := E_b15_25.keep K27q
      have E_b21_27 := E_b21_25.keep K27q
      have F_b21_seconds_27 := F_b21_seconds_25.keep K27q (ninS ne_b21_b25 nin0)
      have F_b21_settingChange_27 := F_b21_settingChange_25.keep K27q (ninS ne_b21_b25 nin0)
      have E_b25_27 := A25.keep K27q
      have Zs28 := Nat.le_trans Zs26 K27q.1
      have pre5 : ∀ t, Steps p.tables e below (T27.setTop (mkF m 145 #[.val (.long q0), .second, .val (.long q2), .second, .val (.long q4), .second, .val (.int p6), .val (.int p7), .val (.long sq), .second, .val (.ref b1), .val (.ref b5), .val (.ref sv9), .val (.ref sv11), .val (.ref b13), .val (.ref b21), .val (.ref b25), .unset, .unset, .unset] [])) t → Steps p.tables e below (s₁.setTop (entryFrame m #[(.long q0), (.long q2), (.long q4), (.int p6), (.int p7)] maxLocals)) t := by
        intro t k
        refine pre4 t ?_
        show Steps p.tables e below (T11.setTop (mkF m 97 #[.val (.long q0), .second, .val (.long q2), .second, .val (.long q4), .second, .val (.int p6), .val (.int p7), .val (.long sq), .second, .val (.ref b1), .val (.ref b5), .val (.ref sv9), .val (.ref sv11), .unset, .unset, .unset, .unset, .unset, .unset] [])) _
        refine st13 _ ?_
        show Steps p.tables e below (T13.setTop (mkF m 100 #[.val (.long q0), .second, .val (.long q2), .second, .val (.long q4), .second, .val (.int p6), .val (.int p7), .val (.long sq), .second, .val (.ref b1), .val (.ref b5), .val (.ref sv9), .val (.ref sv11), .unset, .unset, .unset, .unset, .unset, .unset] [(.ref b13)])) _
        refine XS.dup X13.here hx rfl (hb hby at_100) rfl rfl ?_
        show Steps p.tables e below (T13.setTop (mkF m 101 #[.val (.long q0), .second, .val (.long q2), .second, .val (.long q4), .second, .val (.int p6), .val (.int p7), .val (.long sq), .second, .val (.ref b1), .val (.ref b5), .val (.ref sv9), .val (.ref sv11), .unset, .unset, .unset, .unset, .unset, .unset] [(.ref b13), (.ref b13)])) _
        refine st15 _ ?_
        show Steps p.tables e below (T15.setTop (mkF m 104 #[.val (.long q0), .second, .val (.long q2), .second, .val (.long q4), .second, .val (.int p6), .val (.int p7), .val (.long sq), .second, .val (.ref b1), .val (.ref b5), .val (.ref sv9), .val (.ref sv11), .unset, .unset, .unset, .unset, .unset, .unset] [(.ref b15), (.ref b13), (.ref b13)])) _
        refine XS.dup X15.here hx rfl (hb hby at_104) rfl rfl ?_
        show Steps p.tables e below (T15.setTop (mkF m 105 #[.val (.long q0), .second, .val (.long q2), .second, .val (.long q4), .second, .val (.int p6), .val (.int p7), .val (.long sq), .second, .val (.ref b1), .val (.ref b5), .val (.ref sv9), .val (.ref sv11), .unset, .unset, .unset, .unset, .unset, .unset] [(.ref b15), (.ref b15), (.ref b13), (.ref b13)])) _
        refine XS.aload X15.here hx rfl (hb hby at_105) rfl rfl ?_
        show Steps p.tables e below (T15.setTop (mkF m 107 #[.val (.long q0), .second, .val (.long q2), .second, .val (.long q4), .second, .val (.int p6), .val (.int p7), .val (.long sq), .second, .val (.ref b1), .val (.ref b5), .val (.ref sv9), .val (.ref sv11), .unset, .unset, .unset, .unset, .unset, .unset] [(.ref b5), (.ref b15), (.ref b15), (.ref b13), (.ref b13)])) _
        refine st17.trans ?_
        show Steps p.tables e below (T17.setTop (mkF m 110 #[.val (.long q0), .second, .val (.long q2), .second, .val (.long q4), .second, .val (.int p6), .val (.int p7), .val (.long sq), .second, .val (.ref b1), .val (.ref b5), .val (.ref sv9), .val (.ref sv11), .unset, .unset, .unset, .unset, .unset, .unset] [(.ref b15), (.ref b13), (.ref b13)])) _
        refine XS.aload X17.here hx rfl (hb hby at_110) rfl rfl ?_
        show Steps p.tables e below (T17.setTop (mkF m 112 #[.val (.long q0), .second, .val (.long q2), .second, .val (.long q4), .second, .val (.int p6), .val (.int p7), .val (.long sq), .second, .val (.ref b1), .val (.ref b5), .val (.ref sv9), .val (.ref sv11), .unset, .unset, .unset, .unset, .unset, .unset] [(.ref sv9), (.ref b15), (.ref b13), (.ref b13)])) _
        refine XS.aload X17.here hx rfl (hb hby at_112) rfl rfl ?_
        show Steps p.tables e below (T17.setTop (mkF m 114 #[.val (.long q0), .second, .val (.long q2), .second, .val (.long q4), .second, .val (.int p6), .val (.int p7), .val (.long sq), .second, .val (.ref b1), .val (.ref b5), .val (.ref sv9), .val (.ref sv11), .unset, .unset, .unset, .unset, .unset, .unset] [(.ref sv11), (.ref sv9), (.ref b15), (.ref b13), (.ref b13)])) _
        refine st19.trans ?_
        show Steps p.tables e below (T19.setTop (mkF m 117 #[.val (.long q0), .second, .val (.long q2), .second, .val (.long q4), .second, .val (.int p6), .val (.int p7), .val (.long sq), .second, .val (.ref b1), .val (.ref b5), .val (.ref sv9), .val (.ref sv11), .unset, .unset, .unset, .unset, .unset, .unset] [(.ref b13)])) _
        refine XS.astore X19.here hx rfl (hb hby at_117) rfl rfl (l' := #[.val (.long q0), .second, .val (.long q2), .second, .val (.long q4), .second, .val (.int p6), .val (.int p7), .val (.long sq), .second, .val (.ref b1), .val (.ref b5), .val (.ref sv9), .val (.ref sv11), .val (.ref b13), .unset, .unset, .unset, .unset, .unset]) rfl ?_
        show Steps p.tables e below (T19.setTop (mkF m 119 #[.val (.long q0), .second, .val (.long q2), .second, .val (.long q4), .second, .val (.int p6), .val (.int p7), .val (.long sq), .second, .val (.ref b1), .val (.ref b5), .val (.ref sv9), .val (.ref sv11), .val (.ref b13), .unset, .unset, .unset, .unset, .unset] [])) _
        refine st21 _ ?_
        show Steps p.tables e below (T21.setTop (mkF m 122 #[.val (.long q0), .second, .val (.long q2), .second, .val (.long q4), .second, .val (.int p6), .val (.int p7), .val (.long sq), .second, .val (.ref b1), .val (.ref b5), .val (.ref sv9), .val (.ref sv11), .val (.ref b13), .unset, .unset, .unset, .unset, .unset] [(.ref b21)])) _
        refine XS.dup X21.here hx rfl (hb hby at_122) rfl rfl ?_
        show Steps p.tables e below (T21.setTop (mkF m 123 #[.val (.long q0), .second, .val (.long q2), .second, .val (.long q4), .second, .val (.int p6), .val (.int p7), .val (.long sq), .second, .val (.ref b1), .val (.ref b5), .val (.ref sv9), .val (.ref sv11), .val (.ref b13), .unset, .unset, .unset, .unset, .unset] [(.ref b21), (.ref b21)])) _
        refine XS.lloadN X21.here hx rfl (hb hby at_123) rfl ?_
        show Steps p.tables e below (T21.setTop (mkF m 124 #[.val (.long q0), .second, .val (.long q2), .second, .val (.long q4), .second, .val (.int p6), .val (.int p7), .val (.long sq), .second, .val (.ref b1), .val (.ref b5), .val (.ref sv9), .val (.ref sv11), .val (.ref b13), .unset, .unset, .unset, .unset, .unset] [(.long q0), (.ref b21), (.ref b21)])) _
        refine XS.aload X21.here hx rfl (hb hby at_124) rfl rfl ?_
        show Steps p.tables e below (T21.setTop (mkF m 126 #[.val (.long q0), .second, .val (.long q2), .second, .val (.long q4), .second, .val (.int p6), .val (.int p7), .val (.long sq), .second, .val (.ref b1), .val (.ref b5), .val (.ref sv9), .val (.ref sv11), .val (.ref b13), .unset, .unset, .unset, .unset, .unset] [(.ref b13), (.long q0), (.ref b21), (.ref b21)])) _
        refine st23.trans ?_
        show Steps p.tables e below (T23.setTop (mkF m 129 #[.val (.long q0), .second, .val (.long q2), .second, .val (.long q4), .second, .val (.int p6), .val (.int p7), .val (.long sq), .second, .val (.ref b1), .val (.ref b5), .val (.ref sv9), .val (.ref sv11), .val (.ref b13), .unset, .unset, .unset, .unset, .unset] [(.ref b21)])) _
        refine XS.astore X23.here hx rfl (hb hby at_129) rfl rfl (l' := #[.val (.long q0), .second, .val (.long q2), .second, .val (.long q4), .second, .val (.int p6), .val (.int p7), .val (.long sq), .second, .val (.ref b1), .val (.ref b5), .val (.ref sv9), .val (.ref sv11), .val (.ref b13), .val (.ref b21), .unset, .unset, .unset, .unset]) rfl ?_
        show Steps p.tables e below (T23.setTop (mkF m 131 #[.val (.long q0), .second, .val (.long q2), .second, .val (.long q4), .second, .val (.int p6), .val (.int p7), .val (.long sq), .second, .val (.ref b1), .val (.ref b5), .val (.ref sv9), .val (.ref sv11), .val (.ref b13), .val (.ref b21), .unset, .unset, .unset, .unset] [])) _
        refine st25 _ ?_
        show Steps p.tables e below (T25.setTop (mkF m 134 #[.val (.long q0), .second, .val (.long q2), .second, .val (.long q4), .second, .val (.int p6), .val (.int p7), .val (.long sq), .second, .val (.ref b1), .val (.ref b5), .val (.ref sv9), .val (.ref sv11), .val (.ref b13), .val (.ref b21), .unset, .unset, .unset, .unset] [(.ref b25)])) _
        refine XS.dup X25.here hx rfl (hb hby at_134) rfl rfl ?_
        show Steps p.tables e below (T25.setTop (mkF m 135 #[.val (.long q0), .second, .val (.long q2), .second, .val (.long q4), .second, .val (.int p6), .val (.int p7), .val (.long sq), .second, .val (.ref b1), .val (.ref b5), .val (.ref sv9), .val (.ref sv11), .val (.ref b13), .val (.ref b21), .unset, .unset, .unset, .unset] [(.ref b25), (.ref b25)])) _
        refine XS.lloadN X25.here hx rfl (hb hby at_135) rfl ?_
        show Steps p.tables e below (T25.setTop (mkF m 136 #[.val (.long q0), .second, .val (.long q2), .second, .val (.long q4), .second, .val (.int p6), .val (.int p7), .val (.long sq), .second, .val (.ref b1), .val (.ref b5), .val (.ref sv9), .val (.ref sv11), .val (.ref b13), .val (.ref b21), .unset, .unset, .unset, .unset] [(.long q0), (.ref b25), (.ref b25)])) _
        refine XS.aconstNull X25.here hx rfl (hb hby at_136) ?_
        show Steps p.tables e below (T25.setTop (mkF m 137 #[.val (.long q0), .second, .val (.long q2), .second, .val (.long q4), .second, .val (.int p6), .val (.int p7), .val (.long sq), .second, .val (.ref b1), .val (.ref b5), .val (.ref sv9), .val (.ref sv11), .val (.ref b13), .val (.ref b21), .unset, .unset, .unset, .unset] [.null, (.long q0), (.ref b25), (.ref b25)])) _
        refine X25.checkcastNull hx (g := (mkF m 137 #[.val (.long q0), .second, .val (.long q2), .second, .val (.long q4), .second, .val (.int p6), .val (.int p7), .val (.long sq), .second, .val (.ref b1), .val (.ref b5), .val (.ref sv9), .val (.ref sv11), .val (.ref b13), .val (.ref b21), .unset, .unset, .unset, .unset] [.null, (.long q0), (.ref b25), (.ref b25)])) rfl rfl (hb hby at_137) _ ?_
        show Steps p.tables e below (T25.setTop (mkF m 140 #[.val (.long q0), .second, .val (.long q2), .second, .val (.long q4), .second, .val (.int p6), .val (.int p7), .val (.long sq), .second, .val (.ref b1), .val (.ref b5), .val (.ref sv9), .val (.ref sv11), .val (.ref b13), .val (.ref b21), .unset, .unset, .unset, .unset] [.null, (.long q0), (.ref b25), (.ref b25)])) _
        refine st27.trans ?_
        show Steps p.tables e below (T27.setTop (mkF m 143 #[.val (.long q0), .second, .val (.long q2), .second, .val (.long q4), .second, .val (.int p6), .val (.int p7), .val (.long sq), .second, .val (.ref b1), .val (.ref b5), .val (.ref sv9), .val (.ref sv11), .val (.ref b13), .val (.ref b21), .unset, .unset, .unset, .unset] [(.ref b25)])) _
        refine XS.astore X27.here hx rfl (hb hby at_143) rfl rfl (l' := #[.val (.long q0), .second, .val (.long q2), .second, .val (.long q4), .second, .val (.int p6), .val (.int p7), .val (.long sq), .second, .val (.ref b1), .val (.ref b5), .val (.ref sv9), .val (.ref sv11), .val (.ref b13), .val (.ref b21), .val (.ref b25), .unset, .unset, .unset]) rfl ?_
        exact k
      obtain ⟨cq29, kq29, q29a, q29b, q29c⟩ := isOf hZ rfl E_b1_27
      obtain ⟨_, _, ⟨T29, L29, k29, n29⟩, -, X29, ⟨Lc29, hQ29, l29, y29, z29⟩, st29⟩ := X27.virtualBack hx (y := (⟨"com/example/governor/governor/core/UsageLine", "marksPaused", "()Z"⟩ : MethodName)) (z := (⟨"com/example/governor/governor/core/UsageLine", "marksPaused", "()Z"⟩ : MethodName)) hown (mvT hZ (hw _ (List.mem_of_getElem? (i := 81) rfl))) (mvT hZ (hw _ (List.mem_of_getElem? (i := 82) rfl))) (notFace_of_selects (args := #[]) (mvT hZ (hw _ (List.mem_of_getElem? (i := 84) rfl)))) (mvT hZ (hw _ (List.mem_of_getElem? (i := 84) rfl))) (mvT hZ (hw _ (List.mem_of_getElem? (i := 83) rfl))) (by decide) (backOf (W := 0) (rm14n l Z a0 hw [] b1 sq T27.heap n0 Zs28 F_b1_seconds_27 F_b1_settingChange_27) hZ (hw _ (List.mem_of_getElem? (i := 85) rfl)) (hw _ (List.mem_of_getElem? (i := 2) rfl)) (by decide) (by decide)) q29a q29c (g := (mkF m 147 #[.val (.long q0), .second, .val (.long q2), .second, .val (.long q4), .second, .val (.int p6), .val (.int p7), .val (.long sq), .second, .val (.ref b1), .val (.ref b5), .val (.ref sv9), .val (.ref sv11), .val (.ref b13), .val (.ref b21), .val (.ref b25), .unset, .unset, .unset] [(.ref b1)])) rfl (by rw [hml]; rfl) (Steps.refl _) (argsL := []) (rest := []) (lenOf pd_8 rfl) rfl (by show 2 * 0 + _ ≤ _; exact Nat.le_of_eq rfl) (hb hby at_147) (fun _ _ => ⟨rfl, rfl, (by decide : 11 + 0 ≤ _), (by decide : 37 + 0 ≤ _)⟩)
      dsimp only [Pt.U, Pt.locs, Pt.cells, Pt.slots] at X29 l29 y29 z29 st29 hQ29
      subst l29 y29 z29
      obtain ⟨rfl, N29q, e29q⟩ := hQ29
      have N29 := Fr.app N27 N29q
      have pre6 : ∀ t, Steps p.tables e below (T29.setTop (mkF m 154 #[.val (.long q0), .second, .val (.long q2), .second, .val (.long q4), .second, .val (.int p6), .val (.int p7), .val (.long sq), .second, .val (.ref b1), .val (.ref b5), .val (.ref sv9), .val (.ref sv11), .val (.ref b13), .val (.ref b21), .val (.ref b25), .unset, .unset, .unset] [(.int (lcmpW sq (0 : Int64))), (.int (own_zl sq))])) t → Steps p.tables e below (s₁.setTop (entryFrame m #[(.long q0), (.long q2), (.long q4), (.int p6), (.int p7)] maxLocals)) t := by
        intro t k
        refine pre5 t ?_
        show Steps p.tables e below (T27.setTop (mkF m 145 #[.val (.long q0), .second, .val (.long q2), .second, .val (.long q4), .second, .val (.int p6), .val (.int p7), .val (.long sq), .second, .val (.ref b1), .val (.ref b5), .val (.ref sv9), .val (.ref sv11), .val (.ref b13), .val (.ref b21), .val (.ref b25), .unset, .unset, .unset] [])) _
        refine XS.aload X27.here hx rfl (hb hby at_145) rfl rfl ?_
        show Steps p.tables e below (T27.setTop (mkF m 147 #[.val (.long q0), .second, .val (.long q2), .second, .val (.long q4), .second, .val (.int p6), .val (.int p7), .val (.long sq), .second, .val (.ref b1), .val (.ref b5), .val (.ref sv9), .val (.ref sv11), .val (.ref b13), .val (.ref b21), .val (.ref b25), .unset, .unset, .unset] [(.ref b1)])) _
        refine st29.trans ?_
        show Steps p.tables e below (T29.setTop (mkF m 150 #[.val (.long q0), .second, .val (.long q2), .second, .val (.long q4), .second, .val (.int p6), .val (.int p7), .val (.long sq), .second, .val (.ref b1), .val (.ref b5), .val (.ref sv9), .val (.ref sv11), .val (.ref b13), .val (.ref b21), .val (.ref b25), .unset, .unset, .unset] [(.int (own_zl sq))])) _
        refine XS.lload X29.here hx rfl (hb hby at_150) rfl ?_
        show Steps p.tables e below (T29.setTop (mkF m 152 #[.val (.long q0), .second, .val (.long q2), .second, .val (.long q4), .second, .val (.int p6), .val (.int p7), .val (.long sq), .second, .val (.ref b1), .val (.ref b5), .val (.ref sv9), .val (.ref sv11), .val (.ref b13), .val (.ref b21), .val (.ref b25), .unset, .unset, .unset] [(.long sq), (.int (own_zl sq))])) _
        refine XS.lconst X29.here hx rfl (hb hby at_152) ?_
        show Steps p.tables e below (T29.setTop (mkF m 153 #[.val (.long q0), .second, .val (.long q2), .second, .val (.long q4), .second, .val (.int p6), .val (.int p7), .val (.long sq), .second, .val (.ref b1), .val (.ref b5), .val (.ref sv9), .val (.ref sv11), .val (.ref b13), .val (.ref b21), .val (.ref b25), .unset, .unset, .unset] [(.long (0 : Int64)), (.long sq), (.int (own_zl sq))])) _
        refine XS.lcmp X29.here hx rfl (hb hby at_153) rfl ?_
        exact k
      obtain ⟨z1, hm7, pre7⟩ : ∃ (z1 : Int32), (z1 = own_zl sq) ∧ ∀ t, Steps p.tables e below (T29.setTop (mkF m 162 #[.val (.long q0), .second, .val (.long q2), .second, .val (.long q4), .second, .val (.int p6), .val (.int p7), .val (.long sq), .second, .val (.ref b1), .val (.ref b5), .val (.ref sv9), .val (.ref sv11), .val (.ref b13), .val (.ref b21), .val (.ref b25), .unset, .unset, .unset] [(.int z1), (.int (own_zl sq))])) t → Steps p.tables e below (s₁.setTop (entryFrame m #[(.long q0), (.long q2), (.long q4), (.int p6), (.int p7)] maxLocals)) t := by
        by_cases c154 : lcmpW sq (0 : Int64) = 0
        · refine ⟨((1 : Int32)), (by unfold own_zl; rw [if_pos c154]), fun t k => pre6 t ?_⟩
          show Steps p.tables e below (T29.setTop (mkF m 154 #[.val (.long q0), .second, .val (.long q2), .second, .val (.long q4), .second, .val (.int p6), .val (.int p7), .val (.long sq), .second, .val (.ref b1), .val (.ref b5), .val (.ref sv9), .val (.ref sv11), .val (.ref b13), .val (.ref b21), .val (.ref b25), .unset, .unset, .unset] [(.int (lcmpW sq (0 : Int64))), (.int (own_zl sq))])) _
          refine XS.ifNo X29.here hx rfl (hb hby at_154) rfl ((if0 _ _).trans (teq c154).2) ?_
          show Steps p.tables e below (T29.setTop (mkF m 157 #[.val (.long q0), .second, .val (.long q2), .second, .val (.long q4), .second, .val (.int p6), .val (.int p7), .val (.long sq), .second, .val (.ref b1), .val (.ref b5), .val (.ref sv9), .val (.ref sv11), .val (.ref b13), .val (.ref b21), .val (.ref b25), .unset, .unset, .unset] [(.int (own_zl sq))])) _
          refine XS.iconst X29.here hx rfl (hb hby at_157) ?_
          show Steps p.tables e below (T29.setTop (mkF m 158 #[.val (.long q0), .second, .val (.long q2), .second, .val (.long q4), .second, .val (.int p6), .val (.int p7), .val (.long sq), .second, .val (.ref b1), .val (.ref b5), .val (.ref sv9), .val (.ref sv11), .val (.ref b13), .val (.ref b21), .val (.ref b25), .unset, .unset, .unset] [(.int (1 : Int32)), (.int (own_zl sq))])) _
          refine XS.goto X29.here hx rfl (pc0 := 158) (pc' := 162) rfl (hb hby at_158) (by decide) (by decide) ?_
          exact k
        · refine ⟨((0 : Int32)), (by unfold own_zl; rw [if_neg c154]), fun t k => pre6 t ?_⟩
          show Steps p.tables e below (T29.setTop (mkF m 154 #[.val (.long q0), .second, .val (.long q2), .second, .val (.long q4), .second, .val (.int p6), .val (.int p7), .val (.long sq), .second, .val (.ref b1), .val (.ref b5), .val (.ref sv9), .val (.ref sv11), .val (.ref b13), .val (.ref b21), .val (.ref b25), .unset, .unset, .unset] [(.int (lcmpW sq (0 : Int64))), (.int (own_zl sq))])) _
          refine XS.ifYes X29.here hx rfl (pc0 := 154) (pc' := 161) rfl (hb hby at_154) rfl ((if0 _ _).trans (feq c154).2) (by decide) (by decide) ?_
          show Steps p.tables e below (T29.setTop (mkF m 161 #[.val (.long q0), .second, .val (.long q2), .second, .val (.long q4), .second, .val (.int p6), .val (.int p7), .val (.long sq), .second, .val (.ref b1), .val (.ref b5), .val (.ref sv9), .val (.ref sv11), .val (.ref b13), .val (.ref b21), .val (.ref b25), .unset, .unset, .unset] [(.int (own_zl sq))])) _
          refine XS.iconst X29.here hx rfl (hb hby at_161) ?_
          exact k
      subst hm7
      obtain ⟨cq30, kq30, q30a, q30b, q30c⟩ := isOf hZ e29q E_b21_27
      obtain ⟨_, _, ⟨T30, L30, k30, n30⟩, -, X30, ⟨Lc30, hQ30, l30, y30, z30⟩, st30⟩ := X29.virtualBack hx (y := (⟨"com/example/governor/governor/core/UsageLine", "marksPaused", "()Z"⟩ : MethodName)) (z := (⟨"com/example/governor/governor/core/UsageLine", "marksPaused", "()Z"⟩ : MethodName)) hown (mvT hZ (hw _ (List.mem_of_getElem? (i := 81) rfl))) (mvT hZ (hw _ (List.mem_of_getElem? (i := 82) rfl))) (notFace_of_selects (args := #[]) (mvT hZ (hw _ (List.mem_of_getElem? (i := 84) rfl)))) (mvT hZ (hw _ (List.mem_of_getElem? (i := 84) rfl))) (mvT hZ (hw _ (List.mem_of_getElem? (i := 83) rfl))) (by decide) (backOf (W := 0) (rm14r l Z a0 hw [] b21 (0 : Int64) b13 T27.heap n0 Zs28 F_b21_seconds_27 F_b21_settingChange_27) hZ (hw _ (List.mem_of_getElem? (i := 85) rfl)) (hw _ (List.mem_of_getElem? (i := 2) rfl)) (by decide) (by decide)) q30a q30c (g := (mkF m 174 #[.val (.long q0), .second, .val (.long q2), .second, .val (.long q4), .second, .val (.int p6), .val (.int p7), .val (.long sq), .second, .val (.ref b1), .val (.ref b5), .val (.ref sv9), .val (.ref sv11), .val (.ref b13), .val (.ref b21), .val (.ref b25), .val (.int (1 : Int32)), .unset, .unset] [(.ref b21)])) rfl (by rw [hml]; rfl) (Steps.refl _) (argsL := []) (rest := []) (lenOf pd_8 rfl) rfl (by show 2 * 0 + _ ≤ _; exact Nat.le_of_eq rfl) (hb hby at_174) (fun _ _ => ⟨rfl, e29q, (by decide : 11 + 0 ≤ _), (by decide : 37 + 0 ≤ _)⟩)
      dsimp only [Pt.U, Pt.locs, Pt.cells, Pt.slots] at X30 l30 y30 z30 st30 hQ30
      subst l30 y30 z30
      obtain ⟨rfl, N30q, e30q⟩ := hQ30
      have N30 := Fr.app N29 N30q
      have pre8 : ∀ t, Steps p.tables e below (T30.setTop (mkF m 187 #[.val (.long q0), .second, .val (.long q2), .second, .val (.long q4), .second, .val (.int p6), .val (.int p7), .val (.long sq), .second, .val (.ref b1), .val (.ref b5), .val (.ref sv9), .val (.ref sv11), .val (.ref b13), .val (.ref b21), .val (.ref b25), .val (.int (1 : Int32)), .val (.int (1 : Int32)), .unset] [])) t → Steps p.tables e below (s₁.setTop (entryFrame m #[(.long q0), (.long q2), (.long q4), (.int p6), (.int p7)] maxLocals)) t := by
        intro t k
        refine pre7 t ?_
        show Steps p.tables e below (T29.setTop (mkF m 162 #[.val (.long q0), .second, .val (.long q2), .second, .val (.long q4), .second, .val (.int p6), .val (.int p7), .val (.long sq), .second, .val (.ref b1), .val (.ref b5), .val (.ref sv9), .val (.ref sv11), .val (.ref b13), .val (.ref b21), .val (.ref b25), .unset, .unset, .unset] [(.int (own_zl sq)), (.int (own_zl sq))])) _
        refine XS.icmpNo X29.here hx rfl (hb hby at_162) rfl (teq (rfl : own_zl sq = own_zl sq)).2 ?_
        show Steps p.tables e below (T29.setTop (mkF m 165 #[.val (.long q0), .second, .val (.long q2), .second, .val (.long q4), .second, .val (.int p6), .val (.int p7), .val (.long sq), .second, .val (.ref b1), .val (.ref b5), .val (.ref sv9), .val (.ref sv11), .val (.ref b13), .val (.ref b21), .val (.ref b25), .unset, .unset, .unset] [])) _
        refine XS.iconst X29.here hx rfl (hb hby at_165) ?_
        show Steps p.tables e below (T29.setTop (mkF m 166 #[.val (.long q0), .second, .val (.long q2), .second, .val (.long q4), .second, .val (.int p6), .val (.int p7), .val (.long sq), .second, .val (.ref b1), .val (.ref b5), .val (.ref sv9), .val (.ref sv11), .val (.ref b13), .val (.ref b21), .val (.ref b25), .unset, .unset, .unset] [(.int (1 : Int32))])) _
        refine XS.goto X29.here hx rfl (pc0 := 166) (pc' := 170) rfl (hb hby at_166) (by decide) (by decide) ?_
        show Steps p.tables e below (T29.setTop (mkF m 170 #[.val (.long q0), .second, .val (.long q2), .second, .val (.long q4), .second, .val (.int p6), .val (.int p7), .val (.long sq), .second, .val (.ref b1), .val (.ref b5), .val (.ref sv9), .val (.ref sv11), .val (.ref b13), .val (.ref b21), .val (.ref b25), .unset, .unset, .unset] [(.int (1 : Int32))])) _
        refine XS.istore X29.here hx rfl (hb hby at_170) rfl (l' := #[.val (.long q0), .second, .val (.long q2), .second, .val (.long q4), .second, .val (.int p6), .val (.int p7), .val (.long sq), .second, .val (.ref b1), .val (.ref b5), .val (.ref sv9), .val (.ref sv11), .val (.ref b13), .val (.ref b21), .val (.ref b25), .val (.int (1 : Int32)), .unset, .unset]) rfl ?_
        show Steps p.tables e below (T29.setTop (mkF m 172 #[.val (.long q0), .second, .val (.long q2), .second, .val (.long q4), .second, .val (.int p6), .val (.int p7), .val (.long sq), .second, .val (.ref b1), .val (.ref b5), .val (.ref sv9), .val (.ref sv11), .val (.ref b13), .val (.ref b21), .val (.ref b25), .val (.int (1 : Int32)), .unset, .unset] [])) _
        refine XS.aload X29.here hx rfl (hb hby at_172) rfl rfl ?_
        show Steps p.tables e below (T29.setTop (mkF m 174 #[.val (.long q0), .second, .val (.long q2), .second, .val (.long q4), .second, .val (.int p6), .val (.int p7), .val (.long sq), .second, .val (.ref b1), .val (.ref b5), .val (.ref sv9), .val (.ref sv11), .val (.ref b13), .val (.ref b21), .val (.ref b25), .val (.int (1 : Int32)), .unset, .unset] [(.ref b21)])) _
        refine st30.trans ?_
        show Steps p.tables e below (T30.setTop (mkF m 177 #[.val (.long q0), .second, .val (.long q2), .second, .val (.long q4), .second, .val (.int p6), .val (.int p7), .val (.long sq), .second, .val (.ref b1), .val (.ref b5), .val (.ref sv9), .val (.ref sv11), .val (.ref b13), .val (.ref b21), .val (.ref b25), .val (.int (1 : Int32)), .unset, .unset] [(.int (0 : Int32))])) _
        refine XS.ifNo X30.here hx rfl (hb hby at_177) rfl ((if0 _ _).trans (teq (rfl : (0 : Int32) = (0 : Int32))).2) ?_
        show Steps p.tables e below (T30.setTop (mkF m 180 #[.val (.long q0), .second, .val (.long q2), .second, .val (.long q4), .second, .val (.int p6), .val (.int p7), .val (.long sq), .second, .val (.ref b1), .val (.ref b5), .val (.ref sv9), .val (.ref sv11), .val (.ref b13), .val (.ref b21), .val (.ref b25), .val (.int (1 : Int32)), .unset, .unset] [])) _
        refine XS.iconst X30.here hx rfl (hb hby at_180) ?_
        show Steps p.tables e below (T30.setTop (mkF m 181 #[.val (.long q0), .second, .val (.long q2), .second, .val (.long q4), .second, .val (.int p6), .val (.int p7), .val (.long sq), .second, .val (.ref b1), .val (.ref b5), .val (.ref sv9), .val (.ref sv11), .val (.ref b13), .val (.ref b21), .val (.ref b25), .val (.int (1 : Int32)), .unset, .unset] [(.int (1 : Int32))])) _
        refine XS.goto X30.here hx rfl (pc0 := 181) (pc' := 185) rfl (hb hby at_181) (by decide) (by decide) ?_
        show Steps p.tables e below (T30.setTop (mkF m 185 #[.val (.long q0), .second, .val (.long q2), .second, .val (.long q4), .second, .val (.int p6), .val (.int p7), .val (.long sq), .second, .val (.ref b1), .val (.ref b5), .val (.ref sv9), .val (.ref sv11), .val (.ref b13), .val (.ref b21), .val (.ref b25), .val (.int (1 : Int32)), .unset, .unset] [(.int (1 : Int32))])) _
        refine XS.istore X30.here hx rfl (hb hby at_185) rfl (l' := #[.val (.long q0), .second, .val (.long q2), .second, .val (.long q4), .second, .val (.int p6), .val (.int p7), .val (.long sq), .second, .val (.ref b1), .val (.ref b5), .val (.ref sv9), .val (.ref sv11), .val (.ref b13), .val (.ref b21), .val (.ref b25), .val (.int (1 : Int32)), .val (.int (1 : Int32)), .unset]) rfl ?_
        exact k
      obtain ⟨cq31, kq31, q31a, q31b, q31c⟩ := isOf hZ e30q E27q
      obtain ⟨_, _, ⟨T31, L31, k31, n31⟩, -, X31, ⟨Lc31, hQ31, l31, y31, z31⟩, st31⟩ := X30.virtualBack hx (y := (⟨"com/example/governor/governor/core/UsageLine", "marksPaused", "()Z"⟩ : MethodName)) (z := (⟨"com/example/governor/governor/core/UsageLine", "marksPaused", "()Z"⟩ : MethodName)) hown (mvT hZ (hw _ (List.mem_of_getElem? (i := 81) rfl))) (mvT hZ (hw _ (List.mem_of_getElem? (i := 82) rfl))) (notFace_of_selects (args := #[]) (mvT hZ (hw _ (List.mem_of_getElem? (i := 84) rfl)))) (mvT hZ (hw _ (List.mem_of_getElem? (i := 84) rfl))) (mvT hZ (hw _ (List.mem_of_getElem? (i := 83) rfl))) (by decide) (backOf (W := 0) (rm14n l Z a0 hw [] b25 (0 : Int64) T27.heap n0 Zs28 Fs27q Fc27q) hZ (hw _ (List.mem_of_getElem? (i := 85) rfl)) (hw _ (List.mem_of_getElem? (i := 2) rfl)) (by decide) (by decide)) q31a q31c (g := (mkF m 189 #[.val (.long q0), .second, .val (.long q2), .second, .val (.long q4), .second, .val (.int p6), .val (.int p7), .val (.long sq), .second, .val (.ref b1), .val (.ref b5), .val (.ref sv9), .val (.ref sv11), .val (.ref b13), .val (.ref b21), .val (.ref b25), .val (.int (1 : Int32)), .val (.int (1 : Int32)), .unset] [(.ref b25)])) rfl (by rw [hml]; rfl) (Steps.refl _) (argsL := []) (rest := []) (lenOf pd_8 rfl) rfl (by show 2 * 0 + _ ≤ _; exact Nat.le_of_eq rfl) (hb hby at_189) (fun _ _ => ⟨rfl, e30q, (by decide : 11 + 0 ≤ _), (by decide : 37 + 0 ≤ _)⟩)
      dsimp only [Pt.U, Pt.locs, Pt.cells, Pt.slots] at X31 l31 y31 z31 st31 hQ31
      subst l31 y31 z31
      obtain ⟨rfl, N31q, e31q⟩ := hQ31
      have N31 := Fr.app N30 N31q
      have pre9 : ∀ t, Steps p.tables e below (T31.setTop (mkF m 194 #[.val (.long q0), .second, .val (.long q2), .second, .val (.long q4), .second, .val (.int p6), .val (.int p7), .val (.long sq), .second, .val (.ref b1), .val (.ref b5), .val (.ref sv9), .val (.ref sv11), .val (.ref b13), .val (.ref b21), .val (.ref b25), .val (.int (1 : Int32)), .val (.int (1 : Int32)), .val (.int (own_zl (0 : Int64)))] [])) t → Steps p.tables e below (s₁.setTop (entryFrame m #[(.long q0), (.long q2), (.long q4), (.int p6), (.int p7)] maxLocals)) t := by
        intro t k
        refine pre8 t ?_
        show Steps p.tables e below (T30.setTop (mkF m 187 #[.val (.long q0), .second, .val (.long q2), .second, .val (.long q4), .second, .val (.int p6), .val (.int p7), .val (.long sq), .second, .val (.ref b1), .val (.ref b5), .val (.ref sv9), .val (.ref sv11), .val (.ref b13), .val (.ref b21), .val (.ref b25), .val (.int (1 : Int32)), .val (.int (1 : Int32)), .unset] [])) _
        refine XS.aload X30.here hx rfl (hb hby at_187) rfl rfl ?_
        show Steps p.tables e below (T30.setTop (mkF m 189 #[.val (.long q0), .second, .val (.long q2), .second, .val (.long q4), .second, .val (.int p6), .val (.int p7), .val (.long sq), .second, .val (.ref b1), .val (.ref b5), .val (.ref sv9), .val (.ref sv11), .val (.ref b13), .val (.ref b21), .val (.ref b25), .val (.int (1 : Int32)), .val (.int (1 : Int32)), .unset] [(.ref b25)])) _
        refine st31.trans ?_
        show Steps p.tables e below (T31.setTop (mkF m 192 #[.val (.long q0), .second, .val (.long q2), .second, .val (.long q4), .second, .val (.int p6), .val (.int p7), .val (.long sq), .second, .val (.ref b1), .val (.ref b5), .val (.ref sv9), .val (.ref sv11), .val (.ref b13), .val (.ref b21), .val (.ref b25), .val (.int (1 : Int32)), .val (.int (1 : Int32)), .unset] [(.int (own_zl (0 : Int64)))])) _
        refine XS.istore X31.here hx rfl (hb hby at_192) rfl (l' := #[.val (.long q0), .second, .val (.long q2), .second, .val (.long q4), .second, .val (.int p6), .val (.int p7), .val (.long sq), .second, .val (.ref b1), .val (.ref b5), .val (.ref sv9), .val (.ref sv11), .val (.ref b13), .val (.ref b21), .val (.ref b25), .val (.int (1 : Int32)), .val (.int (1 : Int32)), .val (.int (own_zl (0 : Int64)))]) rfl ?_
        exact k
      obtain ⟨fs, hr, hrun, hended, hW, hsame⟩ := X31.leave (v := some (.int (1 : Int32))) (fun h => by rw [Bd.returns] at h; cases h)
      refine ⟨_, _, pre9 _ ?_, hrun, hended, _, _, rfl, ?_, ⟨_, rfl⟩, hW, hsame.mono (by decide) (by decide)⟩
      · show Steps p.tables e below (T31.setTop (mkF m 194 #[.val (.long q0), .second, .val (.long q2), .second, .val (.long q4), .second, .val (.int p6), .val (.int p7), .val (.long sq), .second, .val (.ref b1), .val (.ref b5), .val (.ref sv9), .val (.ref sv11), .val (.ref b13), .val (.ref b21), .val (.ref b25), .val (.int (1 : Int32)), .val (.int (1 : Int32)), .val (.int (own_zl (0 : Int64)))] [])) _
        refine XS.iload X31.here hx rfl (hb hby at_194) rfl ?_
        show Steps p.tables e below (T31.setTop (mkF m 196 #[.val (.long q0), .second, .val (.long q2), .second, .val (.long q4), .second, .val (.int p6), .val (.int p7), .val (.long sq), .second, .val (.ref b1), .val (.ref b5), .val (.ref sv9), .val (.ref sv11), .val (.ref b13), .val (.ref b21), .val (.ref b25), .val (.int (1 : Int32)), .val (.int (1 : Int32)), .val (.int (own_zl (0 : Int64)))] [(.int (1 : Int32))])) _
        refine XS.ifNo X31.here hx rfl (hb hby at_196) rfl ((if0 _ _).trans (feq (by decide : ¬ ((1 : Int32) = (0 : Int32)))).1) ?_
        show Steps p.tables e below (T31.setTop (mkF m 199 #[.val (.long q0), .second, .val (.long q2), .second, .val (.long q4), .second, .val (.int p6), .val (.int p7), .val (.long sq), .second, .val (.ref b1), .val (.ref b5), .val (.ref sv9), .val (.ref sv11), .val (.ref b13), .val (.ref b21), .val (.ref b25), .val (.int (1 : Int32)), .val (.int (1 : Int32)), .val (.int (own_zl (0 : Int64)))] [])) _
        refine XS.iload X31.here hx rfl (hb hby at_199) rfl ?_
        show Steps p.tables e below (T31.setTop (mkF m 201 #[.val (.long q0), .second, .val (.long q2), .second, .val (.long q4), .second, .val (.int p6), .val (.int p7), .val (.long sq), .second, .val (.ref b1), .val (.ref b5), .val (.ref sv9), .val (.ref sv11), .val (.ref b13), .val (.ref b21), .val (.ref b25), .val (.int (1 : Int32)), .val (.int (1 : Int32)), .val (.int (own_zl (0 : Int64)))] [(.int (1 : Int32))])) _
        refine XS.ifNo X31.here hx rfl (hb hby at_201) rfl ((if0 _ _).trans (feq (by decide : ¬ ((1 : Int32) = (0 : Int32)))).1) ?_
        show Steps p.tables e below (T31.setTop (mkF m 204 #[.val (.long q0), .second, .val (.long q2), .second, .val (.long q4), .second, .val (.int p6), .val (.int p7), .val (.long sq), .second, .val (.ref b1), .val (.ref b5), .val (.ref sv9), .val (.ref sv11), .val (.ref b13), .val (.ref b21), .val (.ref b25), .val (.int (1 : Int32)), .val (.int (1 : Int32)), .val (.int (own_zl (0 : Int64)))] [])) _
        refine XS.iload X31.here hx rfl (hb hby at_204) rfl ?_
        show Steps p.tables e below (T31.setTop (mkF m 206 #[.val (.long q0), .second, .val (.long q2), .second, .val (.long q4), .second, .val (.int p6), .val (.int p7), .val (.long sq), .second, .val (.ref b1), .val (.ref b5), .val (.ref sv9), .val (.ref sv11), .val (.ref b13), .val (.ref b21), .val (.ref b25), .val (.int (1 : Int32)), .val (.int (1 : Int32)), .val (.int (own_zl (0 : Int64)))] [(.int (own_zl (0 : Int64)))])) _
        refine XS.ifNo X31.here hx rfl (hb hby at_206) rfl ((if0 _ _).trans (feq (by decide : ¬ (own_zl (0 : Int64) = 0))).1) ?_
        show Steps p.tables e below (T31.setTop (mkF m 209 #[.val (.long q0), .second, .val (.long q2), .second, .val (.long q4), .second, .val (.int p6), .val (.int p7), .val (.long sq), .second, .val (.ref b1), .val (.ref b5), .val (.ref sv9), .val (.ref sv11), .val (.ref b13), .val (.ref b21), .val (.ref b25), .val (.int (1 : Int32)), .val (.int (1 : Int32)), .val (.int (own_zl (0 : Int64)))] [])) _
        refine XS.iconst X31.here hx rfl (hb hby at_209) ?_
        show Steps p.tables e below (T31.setTop (mkF m 210 #[.val (.long q0), .second, .val (.long q2), .second, .val (.long q4), .second, .val (.int p6), .val (.int p7), .val (.long sq), .second, .val (.ref b1), .val (.ref b5), .val (.ref sv9), .val (.ref sv11), .val (.ref b13), .val (.ref b21), .val (.ref b25), .val (.int (1 : Int32)), .val (.int (1 : Int32)), .val (.int (own_zl (0 : Int64)))] [(.int (1 : Int32))])) _
        refine XS.goto X31.here hx rfl (pc0 := 210) (pc' := 214) rfl (hb hby at_210) (by decide) (by decide) ?_
        show Steps p.tables e below (T31.setTop (mkF m 214 #[.val (.long q0), .second, .val (.long q2), .second, .val (.long q4), .second, .val (.int p6), .val (.int p7), .val (.long sq), .second, .val (.ref b1), .val (.ref b5), .val (.ref sv9), .val (.ref sv11), .val (.ref b13), .val (.ref b21), .val (.ref b25), .val (.int (1 : Int32)), .val (.int (1 : Int32)), .val (.int (own_zl (0 : Int64)))] [(.int (1 : Int32))])) _
        exact retN X31 hx (t := .boolean) Bd.returns (by simp) (hb hby at_214) hr
      · show Q0 Z q0 q2 q4 p6 p7 G1 zz h0 n0 _ T31.heap _
        rw [e31q]
        exact ⟨rfl, N31⟩
    · skip
      have pre10 : ∀ t, Steps p.tables e below (T9.setTop (mkF m 97 #[.val (.long q0), .second, .val (.long q2), .second, .val (.long q4), .second, .val (.int p6), .val (.int p7), .val (.long sq), .second, .val (.ref b1), .val (.ref b5), .val (.ref sv9), .val .null, .unset, .unset, .unset, .unset, .unset, .unset] [])) t → Steps p.tables e below (s₁.setTop (entryFrame m #[(.long q0), (.long q2), (.long q4), (.int p6), (.int p7)] maxLocals)) t := by
        intro t k
        refine pre3 t ?_
        show Steps p.tables e below (T9.setTop (mkF m 71 #[.val (.long q0), .second, .val (.long q2), .second, .val (.long q4), .second, .val (.int p6), .val (.int p7), .val (.long sq), .second, .val (.ref b1), .val (.ref b5), .val (.ref sv9), .unset, .unset, .unset, .unset, .unset, .unset, .unset] [])) _
        refine XS.iload X9.here hx rfl (hb hby at_71) rfl ?_
        show Steps p.tables e below (T9.setTop (mkF m 73 #[.val (.long q0), .second, .val (.long q2), .second, .val (.long q4), .second, .val (.int p6), .val (.int p7), .val (.long sq), .second, .val (.ref b1), .val (.ref b5), .val (.ref sv9), .unset, .unset, .unset, .unset, .unset, .unset, .unset] [(.int p6)])) _
        refine XS.iconst X9.here hx rfl (hb hby at_73) ?_
        show Steps p.tables e below (T9.setTop (mkF m 74 #[.val (.long q0), .second, .val (.long q2), .second, .val (.long q4), .second, .val (.int p6), .val (.int p7), .val (.long sq), .second, .val (.ref b1), .val (.ref b5), .val (.ref sv9), .unset, .unset, .unset, .unset, .unset, .unset, .unset] [(.int (4 : Int32)), (.int p6)])) _
        refine XS.iand X9.here hx rfl (hb hby at_74) rfl ?_
        show Steps p.tables e below (T9.setTop (mkF m 75 #[.val (.long q0), .second, .val (.long q2), .second, .val (.long q4), .second, .val (.int p6), .val (.int p7), .val (.long sq), .second, .val (.ref b1), .val (.ref b5), .val (.ref sv9), .unset, .unset, .unset, .unset, .unset, .unset, .unset] [(.int (p6 &&& (4 : Int32)))])) _
        refine XS.ifNo X9.here hx rfl (hb hby at_75) rfl ((if0 _ _).trans (feq c75).1) ?_
        show Steps p.tables e below (T9.setTop (mkF m 78 #[.val (.long q0), .second, .val (.long q2), .second, .val (.long q4), .second, .val (.int p6), .val (.int p7), .val (.long sq), .second, .val (.ref b1), .val (.ref b5), .val (.ref sv9), .unset, .unset, .unset, .unset, .unset, .unset, .unset] [])) _
        refine XS.aconstNull X9.here hx rfl (hb hby at_78) ?_
        show Steps p.tables e below (T9.setTop (mkF m 79 #[.val (.long q0), .second, .val (.long q2), .second, .val (.long q4), .second, .val (.int p6), .val (.int p7), .val (.long sq), .second, .val (.ref b1), .val (.ref b5), .val (.ref sv9), .unset, .unset, .unset, .unset, .unset, .unset, .unset] [.null])) _
        refine XS.goto X9.here hx rfl (pc0 := 79) (pc' := 95) rfl (hb hby at_79) (by decide) (by decide) ?_
        show Steps p.tables e below (T9.setTop (mkF m 95 #[.val (.long q0), .second, .val (.long q2), .second, .val (.long q4), .second, .val (.int p6), .val (.int p7), .val (.long sq), .second, .val (.ref b1), .val (.ref b5), .val (.ref sv9), .unset, .unset, .unset, .unset, .unset, .unset, .unset] [.null])) _
        refine XS.astore X9.here hx rfl (hb hby at_95) rfl rfl (l' := #[.val (.long q0), .second, .val (.long q2), .second, .val (.long q4), .second, .val (.int p6), .val (.int p7), .val (.long sq), .second, .val (.ref b1), .val (.ref b5), .val (.ref sv9), .val .null, .unset, .unset, .unset, .unset, .unset, .unset]) rfl ?_
        exact k
      obtain ⟨T32, h32, X32, e32, E32, A32, D32, -, st32⟩ := newO X9 hx hZ hown (hw _ (List.mem_of_getElem? (i := 46) rfl)) (hw _ (List.mem_of_getElem? (i := 47) rfl)) (hw _ (List.mem_of_getElem? (i := 48) rfl)) rfl (g := (mkF m 97 #[.val (.long q0), .second, .val (.long q2), .second, .val (.long q4), .second, .val (.int p6), .val (.int p7), .val (.long sq), .second, .val (.ref b1), .val (.ref b5), .val (.ref sv9), .val .null, .unset, .unset, .unset, .unset, .unset, .unset] [])) rfl (hb hby at_97) (by decide) (by decide)
      obtain ⟨b32, g32⟩ : ∃ z, z = T9.heap.size := ⟨_, rfl⟩
      rw [← g32] at A32 D32 st32
      have ne_b1_b32 : b1 ≠ b32 := Nat.ne_of_lt (Nat.lt_of_lt_of_le E_b1_9.lt (Nat.le_of_eq g32.symm))
      have ne_b5_b32 : b5 ≠ b32 := Nat.ne_of_lt (Nat.lt_of_lt_of_le V_b5_9.lt (Nat.le_of_eq g32.symm))
      have g_b32 : n0 ≤ b32 := Nat.le_trans Zs10 (Nat.le_of_eq g32.symm)
      have O_32 := O_9.ext E32
      have E_b1_32 := E_b1_9.ext E32
      have F_b1_seconds_32 := F_b1_seconds_9.ext E32
      have F_b1_settingChange_32 := F_b1_settingChange_9.ext E32
      have V_b5_32 := V_b5_9.ext E32
      have Zs33 := Nat.le_trans Zs10 E32.1
      have F_field_b32 : Fld Z h32 b32 "com/example/governor/governor/core/FieldChange" "field" "Ljava/lang/String;" .null := D32 (Or.inr (hw _ (List.mem_of_getElem? (i := 71) rfl))) (ty := (.object "java/lang/String")) (by decide)
      have F_before_b32 : Fld Z h32 b32 "com/example/governor/governor/core/FieldChange" "before" "Ljava/lang/String;" .null := D32 (Or.inr (hw _ (List.mem_of_getElem? (i := 73) rfl))) (ty := (.object "java/lang/String")) (by decide)
      have F_after_b32 : Fld Z h32 b32 "com/example/governor/governor/core/FieldChange" "after" "Ljava/lang/String;" .null := D32 (Or.inr (hw _ (List.mem_of_getElem? (i := 75) rfl))) (ty := (.object "java/lang/String")) (by decide)
      obtain ⟨T34, h34, X34, e34, E34, A34, D34, -, st34⟩ := newO X32 hx hZ hown (hw _ (List.mem_of_getElem? (i := 49) rfl)) (hw _ (List.mem_of_getElem? (i := 32) rfl)) (hw _ (List.mem_of_getElem? (i := 24) rfl)) e32 (g := (mkF m 101 #[.val (.long q0), .second, .val (.long q2), .second, .val (.long q4), .second, .val (.int p6), .val (.int p7), .val (.long sq), .second, .val (.ref b1), .val (.ref b5), .val (.ref sv9), .val .null, .unset, .unset, .unset, .unset, .unset, .unset] [(.ref b32), (.ref b32)])) rfl (hb hby at_101) (by decide) (by decide)
      obtain ⟨b34, g34⟩ : ∃ z, z = h32.size := ⟨_, rfl⟩
      rw [← g34] at A34 D34 st34
      have ne_b1_b34 : b1 ≠ b34 := Nat.ne_of_lt (Nat.lt_of_lt_of_le E_b1_32.lt (Nat.le_of_eq g34.symm))
      have ne_b5_b34 : b5 ≠ b34 := Nat.ne_of_lt (Nat.lt_of_lt_of_le V_b5_32.lt (Nat.le_of_eq g34.symm))
      have ne_b32_b34 : b32 ≠ b34 := Nat.ne_of_lt (Nat.lt_of_lt_of_le F_field_b32.lt (Nat.le_of_eq g34.symm))
      have g_b34 : n0 ≤ b34 := Nat.le_trans Zs33 (Nat.le_of_eq g34.symm)
      have O_34 := O_32.ext E34
      have E_b1_34 := E_b1_32.ext E34
      have F_b1_seconds_34 := F_b1_seconds_32.ext E34
      have F_b1_settingChange_34 := F_b1_settingChange_32.ext E34
      have V_b5_34 := V_b5_32.ext E34
      have F_b32_field_34 := F_field_b32.ext E34
      have F_b32_before_34 := F_before_b32.ext E34
      have F_b32_after_34 := F_after_b32.ext E34
      have E_b32_34 := A32.ext E34
      have Zs35 := Nat.le_trans Zs33 E34.1
      have F_value_b34 : Fld Z h34 b34 "java/lang/String" "value" "[B" .null := D34 (Or.inr (hw _ (List.mem_of_getElem? (i := 43) rfl))) (ty := (.array .byte)) (by decide)
      have F_coder_b34 : Fld Z h34 b34 "java/lang/String" "coder" "B" (.int (0 : Int32)) := D34 (Or.inr (hw _ (List.mem_of_getElem? (i := 45) rfl))) (ty := .byte) (by decide)
      obtain ⟨_, _, ⟨T36, L36, k36, n36⟩, -, X36, ⟨Lc36, hQ36, l36, y36, z36⟩, st36⟩ := X34.specialBack hx (y := (⟨"java/lang/String", "<init>", "([C)V"⟩ : MethodName)) rfl hown (mvT hZ (hw _ (List.mem_of_getElem? (i := 50) rfl))) (mvT hZ (hw _ (List.mem_of_getElem? (i := 51) rfl))) (mvT hZ (hw _ (List.mem_of_getElem? (i := 52) rfl))) (by decide) (StrChars.Road.backV (W := 3) hZ hws (kI := 4) (hw _ (List.mem_of_getElem? (i := 32) rfl)) (cs := ([nar .char ((p7 &&& (255 : Int32)).toUInt32.toUInt16.toUInt32.toInt32)] : List Int32)) (bs := (([nar .char ((p7 &&& (255 : Int32)).toUInt32.toUInt16.toUInt32.toInt32)] : List Int32)).map (fun c => c.toInt8.toInt32)) (n := 1) g_b34 Zs35 A34 F_value_b34 F_coder_b34 V_b5_34 (O2.ext O_34.2) P5 rfl rfl (by decide) (by decide) hp rfl (by decide) (by decide)) (g := (mkF m 107 #[.val (.long q0), .second, .val (.long q2), .second, .val (.long q4), .second, .val (.int p6), .val (.int p7), .val (.long sq), .second, .val (.ref b1), .val (.ref b5), .val (.ref sv9), .val .null, .unset, .unset, .unset, .unset, .unset, .unset] [(.ref b5), (.ref b34), (.ref b34), (.ref b32), (.ref b32)])) rfl (by rw [hml]; rfl) (Steps.refl _) (a := b34) (argsL := [(.ref b5)]) (rest := [(.ref b34), (.ref b32), (.ref b32)]) (lenOf pd_5 rfl) rfl (by show 2 * 0 + _ ≤ _; exact Nat.le_of_eq rfl) (hb hby at_107) (fun _ _ => ⟨rfl, e34, (by decide : 6 + 1 ≤ _), (by decide : 19 + 1 ≤ _)⟩)
      dsimp only [Pt.U, Pt.locs, Pt.cells, Pt.slots] at X36 l36 y36 z36 st36 hQ36
      subst l36 y36 z36
      obtain ⟨rfl, N36q, K36q, E36q, Fc36q, ta36, kb36, u136, u236, u336, Fv36q, Vv36q⟩ := hQ36
      have N36 := Fr.app N9 N36q
      have O_36 := O_34.keep K36q (allS g_b34 all0)
      have E_b1_36 := E_b1_34.keep K36q
      have F_b1_seconds_36 := F_b1_seconds_34.keep K36q (ninS ne_b1_b34 nin0)
      have F_b1_settingChange_36 := F_b1_settingChange_34.keep K36q (ninS ne_b1_b34 nin0)
      have V_b5_36 := V_b5_34.keep K36q (ninS ne_b5_b34 nin0)
      have F_b32_field_36 := F_b32_field_34.keep K36q (ninS ne_b32_b34 nin0)
      have F_b32_before_36 := F_b32_before_34.keep K36q (ninS ne_b32_b34 nin0)
      have F_b32_after_36 := F_b32_after_34.keep K36q (ninS ne_b32_b34 nin0)
      have E_b32_36 := E_b32_34.keep K36q
      have E_b34_36 := A34.keep K36q
      have Zs37 := Nat.le_trans Zs35 K36q.1
      obtain ⟨_, _, ⟨T38, L38, k38, n38⟩, -, X38, ⟨Lc38, hQ38, l38, y38, z38⟩, st38⟩ := X36.specialBack hx (y := (⟨"com/example/governor/governor/core/FieldChange", "<init>", "(Ljava/lang/String;Ljava/lang/String;Ljava/lang/String;)V"⟩ : MethodName)) rfl hown (mvT hZ (hw _ (List.mem_of_getElem? (i := 66) rfl))) (mvT hZ (hw _ (List.mem_of_getElem? (i := 67) rfl))) (mvT hZ (hw _ (List.mem_of_getElem? (i := 68) rfl))) (by decide) (backOf (W := 1) (rm12rn l Z a0 hw [] b32 b34 sv9 T36.heap n0 Zs37 F_b32_field_36 F_b32_before_36 F_b32_after_36 E_b32_36 g_b32) hZ (hw _ (List.mem_of_getElem? (i := 68) rfl)) (hw _ (List.mem_of_getElem? (i := 48) rfl)) (by decide) (by decide)) (g := (mkF m 114 #[.val (.long q0), .second, .val (.long q2), .second, .val (.long q4), .second, .val (.int p6), .val (.int p7), .val (.long sq), .second, .val (.ref b1), .val (.ref b5), .val (.ref sv9), .val .null, .unset, .unset, .unset, .unset, .unset, .unset] [.null, (.ref sv9), (.ref b34), (.ref b32), (.ref b32)])) rfl (by rw [hml]; rfl) (Steps.refl _) (a := b32) (argsL := [(.ref b34), (.ref sv9), .null]) (rest := [(.ref b32)]) (lenOf pd_6 rfl) rfl (by show 2 * 0 + _ ≤ _; exact Nat.le_of_eq rfl) (hb hby at_114) (fun _ _ => ⟨rfl, rfl, (by decide : 7 + 0 ≤ _), (by decide : 20 + 0 ≤ _)⟩)
      dsimp only [Pt.U, Pt.locs, Pt.cells, Pt.slots] at X38 l38 y38 z38 st38 hQ38
      subst l38 y38 z38
      obtain ⟨rfl, N38q, K38q⟩ := hQ38
      have N38 := Fr.app N36 N38q
      have O_38 := O_36.keep K38q (allS g_b32 all0)
      have E_b1_38 := E_b1_36.keep K38q
      have F_b1_seconds_38 := F_b1_seconds_36.keep K38q (ninS ne_b1_b32 nin0)
      have F_b1_settingChange_38 := F_b1_settingChange_36.keep K38q (ninS ne_b1_b32 nin0)
      have V_b5_38 := V_b5_36.keep K38q (ninS ne_b5_b32 nin0)
      have E_b32_38 := E_b32_36.keep K38q
      have E_b34_38 := E36q.keep K38q
      have Zs39 := Nat.le_trans Zs37 K38q.1
      obtain ⟨T40, h40, X40, e40, E40, A40, D40, -, st40⟩ := newO X38 hx hZ hown (hw _ (List.mem_of_getElem? (i := 0) rfl)) (hw _ (List.mem_of_getElem? (i := 1) rfl)) (hw _ (List.mem_of_getElem? (i := 2) rfl)) rfl (g := (mkF m 119 #[.val (.long q0), .second, .val (.long q2), .second, .val (.long q4), .second, .val (.int p6), .val (.int p7), .val (.long sq), .second, .val (.ref b1), .val (.ref b5), .val (.ref sv9), .val .null, .val (.ref b32), .unset, .unset, .unset, .unset, .unset] [])) rfl (hb hby at_119) (by decide) (by decide)
      obtain ⟨b40, g40⟩ : ∃ z, z = T38.heap.size := ⟨_, rfl⟩
      rw [← g40] at A40 D40 st40
      have ne_b1_b40 : b1 ≠ b40 := Nat.ne_of_lt (Nat.lt_of_lt_of_le E_b1_38.lt (Nat.le_of_eq g40.symm))
      have ne_b5_b40 : b5 ≠ b40 := Nat.ne_of_lt (Nat.lt_of_lt_of_le V_b5_38.lt (Nat.le_of_eq g40.symm))
      have ne_b32_b40 : b32 ≠ b40 := Nat.ne_of_lt (Nat.lt_of_lt_of_le E_b32_38.lt (Nat.le_of_eq g40.symm))
      have ne_b34_b40 : b34 ≠ b40 := Nat.ne_of_lt (Nat.lt_of_lt_of_le E_b34_38.lt (Nat.le_of_eq g40.symm))
      have g_b40 : n0 ≤ b40 := Nat.le_trans Zs39 (Nat.le_of_eq g40.symm)
      have O_40 := O_38.ext E40
      have E_b1_40 := E_b1_38.ext E40
      have F_b1_seconds_40 := F_b1_seconds_38.ext E40
      have F_b1_settingChange_40 := F_b1_settingChange_38.ext E40
      have V_b5_40 := V_b5_38.ext E40
      have E_b32_40 := E_b32_38.ext E40
      have E_b34_40 := E_b34_38.ext E40
      have Zs41 := Nat.le_trans Zs39 E40.1
      have F_number_b40 : Fld Z h40 b40 "com/example/governor/governor/core/UsageLine" "number" "J" (.long (0 : Int64)) := D40 (Or.inr (hw _ (List.mem_of_getElem? (i := 10) rfl))) (ty := .long) (by decide)
      have F_seconds_b40 : Fld Z h40 b40 "com/example/governor/governor/core/UsageLine" "seconds" "J" (.long (0 : Int64)) := D40 (Or.inr (hw _ (List.mem_of_getElem? (i := 12) rfl))) (ty := .long) (by decide)
      have F_sessions_b40 : Fld Z h40 b40 "com/example/governor/governor/core/UsageLine" "sessions" "J" (.long (0 : Int64)) := D40 (Or.inr (hw _ (List.mem_of_getElem? (i := 14) rfl))) (ty := .long) (by decide)
      have F_vcoresUsed_b40 : Fld Z h40 b40 "com/example/governor/governor/core/UsageLine" "vcoresUsed" "Ljava/math/BigDecimal;" .null := D40 (Or.inr (hw _ (List.mem_of_getElem? (i := 16) rfl))) (ty := (.object "java/math/BigDecimal")) (by decide)
      have F_memoryGbUsed_b40 : Fld Z h40 b40 "com/example/governor/governor/core/UsageLine" "memoryGbUsed" "Ljava/math/BigDecimal;" .null := D40 (Or.inr (hw _ (List.mem_of_getElem? (i := 18) rfl))) (ty := (.object "java/math/BigDecimal")) (by decide)
      have F_settingChange_b40 : Fld Z h40 b40 "com/example/governor/governor/core/UsageLine" "settingChange" "Lcom/example/governor/governor/core/FieldChange;" .null := D40 (Or.inr (hw _ (List.mem_of_getElem? (i := 20) rfl))) (ty := (.object "com/example/governor/governor/core/FieldChange")) (by decide)
      obtain ⟨_, _, ⟨T42, L42, k42, n42⟩, -, X42, ⟨Lc42, hQ42, l42, y42, z42⟩, st42⟩ := X40.specialBack hx (y := (⟨"com/example/governor/governor/core/UsageLine", "<init>", "(JLcom/example/governor/governor/core/FieldChange;)V"⟩ : MethodName)) rfl hown (mvT hZ (hw _ (List.mem_of_getElem? (i := 76) rfl))) (mvT hZ (hw _ (List.mem_of_getElem? (i := 77) rfl))) (mvT hZ (hw _ (List.mem_of_getElem? (i := 78) rfl))) (by decide) (backOf (W := 1) (rm13r l Z a0 hw [] b40 q0 b32 zz h40 n0 Zs41 F_number_b40 F_seconds_b40 F_sessions_b40 F_vcoresUsed_b40 F_memoryGbUsed_b40 F_settingChange_b40 A40 g_b40 (O3.ext O_40.2)) hZ (hw _ (List.mem_of_getElem? (i := 78) rfl)) (hw _ (List.mem_of_getElem? (i := 2) rfl)) (by decide) (by decide)) (g := (mkF m 126 #[.val (.long q0), .second, .val (.long q2), .second, .val (.long q4), .second, .val (.int p6), .val (.int p7), .val (.long sq), .second, .val (.ref b1), .val (.ref b5), .val (.ref sv9), .val .null, .val (.ref b32), .unset, .unset, .unset, .unset, .unset] [(.ref b32), (.long q0), (.ref b40), (.ref b40)])) rfl (by rw [hml]; rfl) (Steps.refl _) (a := b40) (argsL := [(.long q0), (.ref b32)]) (rest := [(.ref b40)]) (lenOf pd_7 rfl) rfl (by show 2 * 0 + _ ≤ _; exact Nat.le_of_eq rfl) (hb hby at_126) (fun _ _ => ⟨rfl, e40, (by decide : 8 + 0 ≤ _), (by decide : 26 + 0 ≤ _)⟩)
      dsimp only [Pt.U, Pt.locs, Pt.cells, Pt.slots] at X42 l42 y42 z42 st42 hQ42
      subst l42 y42 z42
      obtain ⟨rfl, N42q, K42q, E42q, Fs42q, Fc42q⟩ := hQ42
      have N42 := Fr.app N38 N42q
      have O_42 := O_40.keep K42q (allS g_b40 all0)
      have E_b1_42 := E_b1_40.keep K42q
      have F_b1_seconds_42 := F_b1_seconds_40.keep K42q (ninS ne_b1_b40 nin0)
      have F_b1_settingChange_42 := F_b1_settingChange_40.keep K42q (ninS ne_b1_b40 nin0)
      have V_b5_42 := V_b5_40.keep K42q (ninS ne_b5_b40 nin0)
      have E_b32_42 := E_b32_40.keep K42q
      have E_b34_42 := E_b34_40.keep K42q
      have E_b40_42 := A40.keep K42q
      have Zs43 := Nat.le_trans Zs41 K42q.1
      obtain ⟨T44, h44, X44, e44, E44, A44, D44, -, st44⟩ := newO X42 hx hZ hown (hw _ (List.mem_of_getElem? (i := 0) rfl)) (hw _ (List.mem_of_getElem? (i := 1) rfl)) (hw _ (List.mem_of_getElem? (i := 2) rfl)) rfl (g := (mkF m 131 #[.val (.long q0), .second, .val (.long q2), .second, .val (.long q4), .second, .val (.int p6), .val (.int p7), .val (.long sq), .second, .val (.ref b1), .val (.ref b5), .val (.ref sv9), .val .null, .val (.ref b32), .val (.ref b40), .unset, .unset, .unset, .unset] [])) rfl (hb hby at_131) (by decide) (by decide)
      obtain ⟨b44, g44⟩ : ∃ z, z = T42.heap.size := ⟨_, rfl⟩
      rw [← g44] at A44 D44 st44
      have ne_b1_b44 : b1 ≠ b44 := Nat.ne_of_lt (Nat.lt_of_lt_of_le E_b1_42.lt (Nat.le_of_eq g44.symm))
      have ne_b5_b44 : b5 ≠ b44 := Nat.ne_of_lt (Nat.lt_of_lt_of_le V_b5_42.lt (Nat.le_of_eq g44.symm))
      have ne_b32_b44 : b32 ≠ b44 := Nat.ne_of_lt (Nat.lt_of_lt_of_le E_b32_42.lt (Nat.le_of_eq g44.symm))
      have ne_b34_b44 : b34 ≠ b44 := Nat.ne_of_lt (Nat.lt_of_lt_of_le E_b34_42.lt (Nat.le_of_eq g44.symm))
      have ne_b40_b44 : b40 ≠ b44 := Nat.ne_of_lt (Nat.lt_of_lt_of_le E42q.lt (Nat.le_of_eq g44.symm))
      have g_b44 : n0 ≤ b44 := Nat.le_trans Zs43 (Nat.le_of_eq g44.symm)
      have O_44 := O_42.ext E44
      have E_b1_44 := E_b1_42.ext E44
      have F_b1_seconds_44 := F_b1_seconds_42.ext E44
      have F_b1_settingChange_44 := F_b1_settingChange_42.ext E44
      have V_b5_44 := V_b5_42.ext E44
      have E_b32_44 := E_b32_42.ext E44
      have E_b34_44 := E_b34_42.ext E44
      have E_b40_44 := E42q.ext E44
      have F_b40_seconds_44 := Fs42q.ext E44
      have F_b40_settingChange_44 := Fc42q.ext E44
      have Zs45 := Nat.le_trans Zs43 E44.1
      have F_number_b44 : Fld Z h44 b44 "com/example/governor/governor/core/UsageLine" "number" "J" (.long (0 : Int64)) := D44 (Or.inr (hw _ (List.mem_of_getElem? (i := 10) rfl))) (ty := .long) (by decide)
      have F_seconds_b44 : Fld Z h44 b44 "com/example/governor/governor/core/UsageLine" "seconds" "J" (.long (0 : Int64)) := D44 (Or.inr (hw _ (List.mem_of_getElem? (i := 12) rfl))) (ty := .long) (by decide)
      have F_sessions_b44 : Fld Z h44 b44 "com/example/governor/governor/core/UsageLine" "sessions" "J" (.long (0 : Int64)) := D44 (Or.inr (hw _ (List.mem_of_getElem? (i := 14) rfl))) (ty := .long) (by decide)
      have F_vcoresUsed_b44 : Fld Z h44 b44 "com/example/governor/governor/core/UsageLine" "vcoresUsed" "Ljava/math/BigDecimal;" .null := D44 (Or.inr (hw _ (List.mem_of_getElem? (i := 16) rfl))) (ty := (.object "java/math/BigDecimal")) (by decide)
      have F_memoryGbUsed_b44 : Fld Z h44 b44 "com/example/governor/governor/core/UsageLine" "memoryGbUsed" "Ljava/math/BigDecimal;" .null := D44 (Or.inr (hw _ (List.mem_of_getElem? (i := 18) rfl))) (ty := (.object "java/math/BigDecimal")) (by decide)
      have F_settingChange_b44 : Fld Z h44 b44 "com/example/governor/governor/core/UsageLine" "settingChange" "Lcom/example/governor/governor/core/FieldChange;" .null := D44 (Or.inr (hw _ (List.mem_of_getElem? (i := 20) rfl))) (ty := (.object "com/example/governor/governor/core/FieldChange")) (by decide)
      obtain ⟨_, _, ⟨T46, L46, k46, n46⟩, -, X46, ⟨Lc46, hQ46, l46, y46, z46⟩, st46⟩ := X44.specialBack hx (y := (⟨"com/example/governor/governor/core/UsageLine", "<init>", "(JLcom/example/governor/governor/core/FieldChange;)V"⟩ : MethodName)) rfl hown (mvT hZ (hw _ (List.mem_of_getElem? (i := 76) rfl))) (mvT hZ (hw _ (List.mem_of_getElem? (i := 77) rfl))) (mvT hZ (hw _ (List.mem_of_getElem? (i := 78) rfl))) (by decide) (backOf (W := 1) (rm13n l Z a0 hw [] b44 q0  zz h44 n0 Zs45 F_number_b44 F_seconds_b44 F_sessions_b44 F_vcoresUsed_b44 F_memoryGbUsed_b44 F_settingChange_b44 A44 g_b44 (O3.ext O_44.2)) hZ (hw _ (List.mem_of_getElem? (i := 78) rfl)) (hw _ (List.mem_of_getElem? (i := 2) rfl)) (by decide) (by decide)) (g := (mkF m 140 #[.val (.long q0), .second, .val (.long q2), .second, .val (.long q4), .second, .val (.int p6), .val (.int p7), .val (.long sq), .second, .val (.ref b1), .val (.ref b5), .val (.ref sv9), .val .null, .val (.ref b32), .val (.ref b40), .unset, .unset, .unset, .unset] [.null, (.long q0), (.ref b44), (.ref b44)])) rfl (by rw [hml]; rfl) (Steps.refl _) (a := b44) (argsL := [(.long q0), .null]) (rest := [(.ref b44)]) (lenOf pd_7 rfl) rfl (by show 2 * 0 + _ ≤ _; exact Nat.le_of_eq rfl) (hb hby at_140) (fun _ _ => ⟨rfl, e44, (by decide : 9 + 0 ≤ _), (by decide : 32 + 0 ≤ _)⟩)
      dsimp only [Pt.U, Pt.locs, Pt.cells, Pt.slots] at X46 l46 y46 z46 st46 hQ46
      subst l46 y46 z46
      obtain ⟨rfl, N46q, K46q, E46q, Fs46q, Fc46q⟩ := hQ46
      have N46 := Fr.app N42 N46q
      have O_46 := O_44.keep K46q (allS g_b44 all0)
      have E_b1_46 := E_b1_44.keep K46q
      have F_b1_seconds_46 := F_b1_seconds_44.keep K46q (ninS ne_b1_b44 nin0)
      have F_b1_settingChange_46 := F_b1_settingChange_44.keep K46q (ninS ne_b1_b44 nin0)
      have V_b5_46 := V_b5_44.keep K46q (ninS ne_b5_b44 nin0)
      have E_b32_46 := E_b32_44.keep K46q
      have E_b34_46 := E_b34_44.keep K46q
      have E_b40_46 := E_b40_44.keep K46q
      have F_b40_seconds_46 := F_b40_seconds_44.keep K46q (ninS ne_b40_b44 nin0)
      have F_b40_settingChange_46 := F_b40_settingChange_44.keep K46q (ninS ne_b40_b44 nin0)
      have E_b44_46 := A44.keep K46q
      have Zs47 := Nat.le_trans Zs45 K46q.1
      have pre11 : ∀ t, Steps p.tables e below (T46.setTop (mkF m 145 #[.val (.long q0), .second, .val (.long q2), .second, .val (.long q4), .second, .val (.int p6), .val (.int p7), .val (.long sq), .second, .val (.ref b1), .val (.ref b5), .val (.ref sv9), .val .null, .val (.ref b32), .val (.ref b40), .val (.ref b44), .unset, .unset, .unset] [])) t → Steps p.tables e below (s₁.setTop (entryFrame m #[(.long q0), (.long q2), (.long q4), (.int p6), (.int p7)] maxLocals)) t := by
        intro t k
        refine pre10 t ?_
        show Steps p.tables e below (T9.setTop (mkF m 97 #[.val (.long q0), .second, .val (.long q2), .second, .val (.long q4), .second, .val (.int p6), .val (.int p7), .val (.long sq), .second, .val (.ref b1), .val (.ref b5), .val (.ref sv9), .val .null, .unset, .unset, .unset, .unset, .unset, .unset] [])) _
        refine st32 _ ?_
        show Steps p.tables e below (T32.setTop (mkF m 100 #[.val (.long q0), .second, .val (.long q2), .second, .val (.long q4), .second, .val (.int p6), .val (.int p7), .val (.long sq), .second, .val (.ref b1), .val (.ref b5), .val (.ref sv9), .val .null, .unset, .unset, .unset, .unset, .unset, .unset] [(.ref b32)])) _
        refine XS.dup X32.here hx rfl (hb hby at_100) rfl rfl ?_
        show Steps p.tables e below (T32.setTop (mkF m 101 #[.val (.long q0), .second, .val (.long q2), .second, .val (.long q4), .second, .val (.int p6), .val (.int p7), .val (.long sq), .second, .val (.ref b1), .val (.ref b5), .val (.ref sv9), .val .null, .unset, .unset, .unset, .unset, .unset, .unset] [(.ref b32), (.ref b32)])) _
        refine st34 _ ?_
        show Steps p.tables e below (T34.setTop (mkF m 104 #[.val (.long q0), .second, .val (.long q2), .second, .val (.long q4), .second, .val (.int p6), .val (.int p7), .val (.long sq), .second, .val (.ref b1), .val (.ref b5), .val (.ref sv9), .val .null, .unset, .unset, .unset, .unset, .unset, .unset] [(.ref b34), (.ref b32), (.ref b32)])) _
        refine XS.dup X34.here hx rfl (hb hby at_104) rfl rfl ?_
        show Steps p.tables e below (T34.setTop (mkF m 105 #[.val (.long q0), .second, .val (.long q2), .second, .val (.long q4), .second, .val (.int p6), .val (.int p7), .val (.long sq), .second, .val (.ref b1), .val (.ref b5), .val (.ref sv9), .val .null, .unset, .unset, .unset, .unset, .unset, .unset] [(.ref b34), (.ref b34), (.ref b32), (.ref b32)])) _
        refine XS.aload X34.here hx rfl (hb hby at_105) rfl rfl ?_
        show Steps p.tables e below (T34.setTop (mkF m 107 #[.val (.long q0), .second, .val (.long q2), .second, .val (.long q4), .second, .val (.int p6), .val (.int p7), .val (.long sq), .second, .val (.ref b1), .val (.ref b5), .val (.ref sv9), .val .null, .unset, .unset, .unset, .unset, .unset, .unset] [(.ref b5), (.ref b34), (.ref b34), (.ref b32), (.ref b32)])) _
        refine st36.trans ?_
        show Steps p.tables e below (T36.setTop (mkF m 110 #[.val (.long q0), .second, .val (.long q2), .second, .val (.long q4), .second, .val (.int p6), .val (.int p7), .val (.long sq), .second, .val (.ref b1), .val (.ref b5), .val (.ref sv9), .val .null, .unset, .unset, .unset, .unset, .unset, .unset] [(.ref b34), (.ref b32), (.ref b32)])) _
        refine XS.aload X36.here hx rfl (hb hby at_110) rfl rfl ?_
        show Steps p.tables e below (T36.setTop (mkF m 112 #[.val (.long q0), .second, .val (.long q2), .second, .val (.long q4), .second, .val (.int p6), .val (.int p7), .val (.long sq), .second, .val (.ref b1), .val (.ref b5), .val (.ref sv9), .val .null, .unset, .unset, .unset, .unset, .unset, .unset] [(.ref sv9), (.ref b34), (.ref b32), (.ref b32)])) _
        refine XS.aload X36.here hx rfl (hb hby at_112) rfl rfl ?_
        show Steps p.tables e below (T36.setTop (mkF m 114 #[.val (.long q0), .second, .val (.long q2), .second, .val (.long q4), .second, .val (.int p6), .val (.int p7), .val (.long sq), .second, .val (.ref b1), .val (.ref b5), .val (.ref sv9), .val .null, .unset, .unset, .unset, .unset, .unset, .unset] [.null, (.ref sv9), (.ref b34), (.ref b32), (.ref b32)])) _
        refine st38.trans ?_
        show Steps p.tables e below (T38.setTop (mkF m 117 #[.val (.long q0), .second, .val (.long q2), .second, .val (.long q4), .second, .val (.int p6), .val (.int p7), .val (.long sq), .second, .val (.ref b1), .val (.ref b5), .val (.ref sv9), .val .null, .unset, .unset, .unset, .unset, .unset, .unset] [(.ref b32)])) _
        refine XS.astore X38.here hx rfl (hb hby at_117) rfl rfl (l' := #[.val (.long q0), .second, .val (.long q2), .second, .val (.long q4), .second, .val (.int p6), .val (.int p7), .val (.long sq), .second, .val (.ref b1), .val (.ref b5), .val (.ref sv9), .val .null, .val (.ref b32), .unset, .unset, .unset, .unset, .unset]) rfl ?_
        show Steps p.tables e below (T38.setTop (mkF m 119 #[.val (.long q0), .second, .val (.long q2), .second, .val (.long q4), .second, .val (.int p6), .val (.int p7), .val (.long sq), .second, .val (.ref b1), .val (.ref b5), .val (.ref sv9), .val .null, .val (.ref b32), .unset, .unset, .unset, .unset, .unset] [])) _
        refine st40 _ ?_
        show Steps p.tables e below (T40.setTop (mkF m 122 #[.val (.long q0), .second, .val (.long q2), .second, .val (.long q4), .second, .val (.int p6), .val (.int p7), .val (.long sq), .second, .val (.ref b1), .val (.ref b5), .val (.ref sv9), .val .null, .val (.ref b32), .unset, .unset, .unset, .unset, .unset] [(.ref b40)])) _
        refine XS.dup X40.here hx rfl (hb hby at_122) rfl rfl ?_
        show Steps p.tables e below (T40.setTop (mkF m 123 #[.val (.long q0), .second, .val (.long q2), .second, .val (.long q4), .second, .val (.int p6), .val (.int p7), .val (.long sq), .second, .val (.ref b1), .val (.ref b5), .val (.ref sv9), .val .null, .val (.ref b32), .unset, .unset, .unset, .unset, .unset] [(.ref b40), (.ref b40)])) _
        refine XS.lloadN X40.here hx rfl (hb hby at_123) rfl ?_
        show Steps p.tables e below (T40.setTop (mkF m 124 #[.val (.long q0), .second, .val (.long q2), .second, .val (.long q4), .second, .val (.int p6), .val (.int p7), .val (.long sq), .second, .val (.ref b1), .val (.ref b5), .val (.ref sv9), .val .null, .val (.ref b32), .unset, .unset, .unset, .unset, .unset] [(.long q0), (.ref b40), (.ref b40)])) _
        refine XS.aload X40.here hx rfl (hb hby at_124) rfl rfl ?_
        show Steps p.tables e below (T40.setTop (mkF m 126 #[.val (.long q0), .second, .val (.long q2), .second, .val (.long q4), .second, .val (.int p6), .val (.int p7), .val (.long sq), .second, .val (.ref b1), .val (.ref b5), .val (.ref sv9), .val .null, .val (.ref b32), .unset, .unset, .unset, .unset, .unset] [(.ref b32), (.long q0), (.ref b40), (.ref b40)])) _
        refine st42.trans ?_
        show Steps p.tables e below (T42.setTop (mkF m 129 #[.val (.long q0), .second, .val (.long q2), .second, .val (.long q4), .second, .val (.int p6), .val (.int p7), .val (.long sq), .second, .val (.ref b1), .val (.ref b5), .val (.ref sv9), .val .null, .val (.ref b32), .unset, .unset, .unset, .unset, .unset] [(.ref b40)])) _
        refine XS.astore X42.here hx rfl (hb hby at_129) rfl rfl (l' := #[.val (.long q0), .second, .val (.long q2), .second, .val (.long q4), .second, .val (.int p6), .val (.int p7), .val (.long sq), .second, .val (.ref b1), .val (.ref b5), .val (.ref sv9), .val .null, .val (.ref b32), .val (.ref b40), .unset, .unset, .unset, .unset]) rfl ?_
        show Steps p.tables e below (T42.setTop (mkF m 131 #[.val (.long q0), .second, .val (.long q2), .second, .val (.long q4), .second, .val (.int p6), .val (.int p7), .val (.long sq), .second, .val (.ref b1), .val (.ref b5), .val (.ref sv9), .val .null, .val (.ref b32), .val (.ref b40), .unset, .unset, .unset, .unset] [])) _
        refine st44 _ ?_
        show Steps p.tables e below (T44.setTop (mkF m 134 #[.val (.long q0), .second, .val (.long q2), .second, .val (.long q4), .second, .val (.int p6), .val (.int p7), .val (.long sq), .second, .val (.ref b1), .val (.ref b5), .val (.ref sv9), .val .null, .val (.ref b32), .val (.ref b40), .unset, .unset, .unset, .unset] [(.ref b44)])) _
        refine XS.dup X44.here hx rfl (hb hby at_134) rfl rfl ?_
        show Steps p.tables e below (T44.setTop (mkF m 135 #[.val (.long q0), .second, .val (.long q2), .second, .val (.long q4), .second, .val (.int p6), .val (.int p7), .val (.long sq), .second, .val (.ref b1), .val (.ref b5), .val (.ref sv9), .val .null, .val (.ref b32), .val (.ref b40), .unset, .unset, .unset, .unset] [(.ref b44), (.ref b44)])) _
        refine XS.lloadN X44.here hx rfl (hb hby at_135) rfl ?_
        show Steps p.tables e below (T44.setTop (mkF m 136 #[.val (.long q0), .second, .val (.long q2), .second, .val (.long q4), .second, .val (.int p6), .val (.int p7), .val (.long sq), .second, .val (.ref b1), .val (.ref b5), .val (.ref sv9), .val .null, .val (.ref b32), .val (.ref b40), .unset, .unset, .unset, .unset] [(.long q0), (.ref b44), (.ref b44)])) _
        refine XS.aconstNull X44.here hx rfl (hb hby at_136) ?_
        show Steps p.tables e below (T44.setTop (mkF m 137 #[.val (.long q0), .second, .val (.long q2), .second, .val (.long q4), .second, .val (.int p6), .val (.int p7), .val (.long sq), .second, .val (.ref b1), .val (.ref b5), .val (.ref sv9), .val .null, .val (.ref b32), .val (.ref b40), .unset, .unset, .unset, .unset] [.null, (.long q0), (.ref b44), (.ref b44)])) _
        refine X44.checkcastNull hx (g := (mkF m 137 #[.val (.long q0), .second, .val (.long q2), .second, .val (.long q4), .second, .val (.int p6), .val (.int p7), .val (.long sq), .second, .val (.ref b1), .val (.ref b5), .val (.ref sv9), .val .null, .val (.ref b32), .val (.ref b40), .unset, .unset, .unset, .unset] [.null, (.long q0), (.ref b44), (.ref b44)])) rfl rfl (hb hby at_137) _ ?_
        show Steps p.tables e below (T44.setTop (mkF m 140 #[.val (.long q0), .second, .val (.long q2), .second, .val (.long q4), .second, .val (.int p6), .val (.int p7), .val (.long sq), .second, .val (.ref b1), .val (.ref b5), .val (.ref sv9), .val .null, .val (.ref b32), .val (.ref b40), .unset, .unset, .unset, .unset] [.null, (.long q0), (.ref b44), (.ref b44)])) _
        refine st46.trans ?_
        show Steps p.tables e below (T46.setTop (mkF m 143 #[.val (.long q0), .second, .val (.long q2), .second, .val (.long q4), .second, .val (.int p6), .val (.int p7), .val (.long sq), .second, .val (.ref b1), .val (.ref b5), .val (.ref sv9), .val .null, .val (.ref b32), .val (.ref b40), .unset, .unset, .unset, .unset] [(.ref b44)])) _
        refine XS.astore X46.here hx rfl (hb hby at_143) rfl rfl (l' := #[.val (.long q0), .second, .val (.long q2), .second, .val (.long q4), .second, .val (.int p6), .val (.int p7), .val (.long sq), .second, .val (.ref b1), .val (.ref b5), .val (.ref sv9), .val .null, .val (.ref b32), .val (.ref b40), .val (.ref b44), .unset, .unset, .unset]) rfl ?_
        exact k
      obtain ⟨cq48, kq48, q48a, q48b, q48c⟩ := isOf hZ rfl E_b1_46
      obtain ⟨_, _, ⟨T48, L48, k48, n48⟩, -, X48, ⟨Lc48, hQ48, l48, y48, z48⟩, st48⟩ := X46.virtualBack hx (y := (⟨"com/example/governor/governor/core/UsageLine", "marksPaused", "()Z"⟩ : MethodName)) (z := (⟨"com/example/governor/governor/core/UsageLine", "marksPaused", "()Z"⟩ : MethodName)) hown (mvT hZ (hw _ (List.mem_of_getElem? (i := 81) rfl))) (mvT hZ (hw _ (List.mem_of_getElem? (i := 82) rfl))) (notFace_of_selects (args := #[]) (mvT hZ (hw _ (List.mem_of_getElem? (i := 84) rfl)))) (mvT hZ (hw _ (List.mem_of_getElem? (i := 84) rfl))) (mvT hZ (hw _ (List.mem_of_getElem? (i := 83) rfl))) (by decide) (backOf (W := 0) (rm14n l Z a0 hw [] b1 sq T46.heap n0 Zs47 F_b1_seconds_46 F_b1_settingChange_46) hZ (hw _ (List.mem_of_getElem? (i := 85) rfl)) (hw _ (List.mem_of_getElem? (i := 2) rfl)) (by decide) (by decide)) q48a q48c (g := (mkF m 147 #[.val (.long q0), .second, .val (.long q2), .second, .val (.long q4), .second, .val (.int p6), .val (.int p7), .val (.long sq), .second, .val (.ref b1), .val (.ref b5), .val (.ref sv9), .val .null, .val (.ref b32), .val (.ref b40), .val (.ref b44), .unset, .unset, .unset] [(.ref b1)])) rfl (by rw [hml]; rfl) (Steps.refl _) (argsL := []) (rest := []) (lenOf pd_8 rfl) rfl (by show 2 * 0 + _ ≤ _; exact Nat.le_of_eq rfl) (hb hby at_147) (fun _ _ => ⟨rfl, rfl, (by decide : 9 + 0 ≤ _), (by decide : 32 + 0 ≤ _)⟩)
      dsimp only [Pt.U, Pt.locs, Pt.cells, Pt.slots] at X48 l48 y48 z48 st48 hQ48
      subst l48 y48 z48
      obtain ⟨rfl, N48q, e48q⟩ := hQ48
      have N48 := Fr.app N46 N48q
      have pre12 : ∀ t, Steps p.tables e below (T48.setTop (mkF m 154 #[.val (.long q0), .second, .val (.long q2), .second, .val (.long q4), .second, .val (.int p6), .val (.int p7), .val (.long sq), .second, .val (.ref b1), .val (.ref b5), .val (.ref sv9), .val .null, .val (.ref b32), .val (.ref b40), .val (.ref b44), .unset, .unset, .unset] [(.int (lcmpW sq (0 : Int64))), (.int (own_zl sq))])) t → Steps p.tables e below (s₁.setTop (entryFrame m #[(.long q0), (.long q2), (.long q4), (.int p6), (.int p7)] maxLocals)) t := by
        intro t k
        refine pre11 t ?_
        show Steps p.tables e below (T46.setTop (mkF m 145 #[.val (.long q0), .second, .val (.long q2), .second, .val (.long q4), .second, .val (.int p6), .val (.int p7), .val (.long sq), .second, .val (.ref b1), .val (.ref b5), .val (.ref sv9), .val .null, .val (.ref b32), .val (.ref b40), .val (.ref b44), .unset, .unset, .unset] [])) _
        refine XS.aload X46.here hx rfl (hb hby at_145) rfl rfl ?_
        show Steps p.tables e below (T46.setTop (mkF m 147 #[.val (.long q0), .second, .val (.long q2), .second, .val (.long q4), .second, .val (.int p6), .val (.int p7), .val (.long sq), .second, .val (.ref b1), .val (.ref b5), .val (.ref sv9), .val .null, .val (.ref b32), .val (.ref b40), .val (.ref b44), .unset, .unset, .unset] [(.ref b1)])) _
        refine st48.trans ?_
        show Steps p.tables e below (T48.setTop (mkF m 150 #[.val (.long q0), .second, .val (.long q2), .second, .val (.long q4), .second, .val (.int p6), .val (.int p7), .val (.long sq), .second, .val (.ref b1), .val (.ref b5), .val (.ref sv9), .val .null, .val (.ref b32), .val (.ref b40), .val (.ref b44), .unset, .unset, .unset] [(.int (own_zl sq))])) _
        refine XS.lload X48.here hx rfl (hb hby at_150) rfl ?_
        show Steps p.tables e below (T48.setTop (mkF m 152 #[.val (.long q0), .second, .val (.long q2), .second, .val (.long q4), .second, .val (.int p6), .val (.int p7), .val (.long sq), .second, .val (.ref b1), .val (.ref b5), .val (.ref sv9), .val .null, .val (.ref b32), .val (.ref b40), .val (.ref b44), .unset, .unset, .unset] [(.long sq), (.int (own_zl sq))])) _
        refine XS.lconst X48.here hx rfl (hb hby at_152) ?_
        show Steps p.tables e below (T48.setTop (mkF m 153 #[.val (.long q0), .second, .val (.long q2), .second, .val (.long q4), .second, .val (.int p6), .val (.int p7), .val (.long sq), .second, .val (.ref b1), .val (.ref b5), .val (.ref sv9), .val .null, .val (.ref b32), .val (.ref b40), .val (.ref b44), .unset, .unset, .unset] [(.long (0 : Int64)), (.long sq), (.int (own_zl sq))])) _
        refine XS.lcmp X48.here hx rfl (hb hby at_153) rfl ?_
        exact k
      obtain ⟨z1, hm13, pre13⟩ : ∃ (z1 : Int32), (z1 = own_zl sq) ∧ ∀ t, Steps p.tables e below (T48.setTop (mkF m 162 #[.val (.long q0), .second, .val (.long q2), .second, .val (.long q4), .second, .val (.int p6), .val (.int p7), .val (.long sq), .second, .val (.ref b1), .val (.ref b5), .val (.ref sv9), .val .null, .val (.ref b32), .val (.ref b40), .val (.ref b44), .unset, .unset, .unset] [(.int z1), (.int (own_zl sq))])) t → Steps p.tables e below (s₁.setTop (entryFrame m #[(.long q0), (.long q2), (.long q4), (.int p6), (.int p7)] maxLocals)) t := by
        by_cases c154 : lcmpW sq (0 : Int64) = 0
        · refine ⟨((1 : Int32)), (by unfold own_zl; rw [if_pos c154]), fun t k => pre12 t ?_⟩
          show Steps p.tables e below (T48.setTop (mkF m 154 #[.val (.long q0), .second, .val (.long q2), .second, .val (.long q4), .second, .val (.int p6), .val (.int p7), .val (.long sq), .second, .val (.ref b1), .val (.ref b5), .val (.ref sv9), .val .null, .val (.ref b32), .val (.ref b40), .val (.ref b44), .unset, .unset, .unset] [(.int (lcmpW sq (0 : Int64))), (.int (own_zl sq))])) _
          refine XS.ifNo X48.here hx rfl (hb hby at_154) rfl ((if0 _ _).trans (teq c154).2) ?_
          show Steps p.tables e below (T48.setTop (mkF m 157 #[.val (.long q0), .second, .val (.long q2), .second, .val (.long q4), .second, .val (.int p6), .val (.int p7), .val (.long sq), .second, .val (.ref b1), .val (.ref b5), .val (.ref sv9), .val .null, .val (.ref b32), .val (.ref b40), .val (.ref b44), .unset, .unset, .unset] [(.int (own_zl sq))])) _
          refine XS.iconst X48.here hx rfl (hb hby at_157) ?_
          show Steps p.tables e below (T48.setTop (mkF m 158 #[.val (.long q0), .second, .val (.long q2), .second, .val (.long q4), .second, .val (.int p6), .val (.int p7), .val (.long sq), .second, .val (.ref b1), .val (.ref b5), .val (.ref sv9), .val .null, .val (.ref b32), .val (.ref b40), .val (.ref b44), .unset, .unset, .unset] [(.int (1 : Int32)), (.int (own_zl sq))])) _
          refine XS.goto X48.here hx rfl (pc0 := 158) (pc' := 162) rfl (hb hby at_158) (by decide) (by decide) ?_
          exact k
        · refine ⟨((0 : Int32)), (by unfold own_zl; rw [if_neg c154]), fun t k => pre12 t ?_⟩
          show Steps p.tables e below (T48.setTop (mkF m 154 #[.val (.long q0), .second, .val (.long q2), .second, .val (.long q4), .second, .val (.int p6), .val (.int p7), .val (.long sq), .second, .val (.ref b1), .val (.ref b5), .val (.ref sv9), .val .null, .val (.ref b32), .val (.ref b40), .val (.ref b44), .unset, .unset, .unset] [(.int (lcmpW sq (0 : Int64))), (.int (own_zl sq))])) _
          refine XS.ifYes X48.here hx rfl (pc0 := 154) (pc' := 161) rfl (hb hby at_154) rfl ((if0 _ _).trans (feq c154).2) (by decide) (by decide) ?_
          show Steps p.tables e below (T48.setTop (mkF m 161 #[.val (.long q0), .second, .val (.long q2), .second, .val (.long q4), .second, .val (.int p6), .val (.int p7), .val (.long sq), .second, .val (.ref b1), .val (.ref b5), .val (.ref sv9), .val .null, .val (.ref b32), .val (.ref b40), .val (.ref b44), .unset, .unset, .unset] [(.int (own_zl sq))])) _
          refine XS.iconst X48.here hx rfl (hb hby at_161) ?_
          exact k
      subst hm13
      obtain ⟨cq49, kq49, q49a, q49b, q49c⟩ := isOf hZ e48q E_b40_46
      obtain ⟨_, _, ⟨T49, L49, k49, n49⟩, -, X49, ⟨Lc49, hQ49, l49, y49, z49⟩, st49⟩ := X48.virtualBack hx (y := (⟨"com/example/governor/governor/core/UsageLine", "marksPaused", "()Z"⟩ : MethodName)) (z := (⟨"com/example/governor/governor/core/UsageLine", "marksPaused", "()Z"⟩ : MethodName)) hown (mvT hZ (hw _ (List.mem_of_getElem? (i := 81) rfl))) (mvT hZ (hw _ (List.mem_of_getElem? (i := 82) rfl))) (notFace_of_selects (args := #[]) (mvT hZ (hw _ (List.mem_of_getElem? (i := 84) rfl)))) (mvT hZ (hw _ (List.mem_of_getElem? (i := 84) rfl))) (mvT hZ (hw _ (List.mem_of_getElem? (i := 83) rfl))) (by decide) (backOf (W := 0) (rm14r l Z a0 hw [] b40 (0 : Int64) b32 T46.heap n0 Zs47 F_b40_seconds_46 F_b40_settingChange_46) hZ (hw _ (List.mem_of_getElem? (i := 85) rfl)) (hw _ (List.mem_of_getElem? (i := 2) rfl)) (by decide) (by decide)) q49a q49c (g := (mkF m 174 #[.val (.long q0), .second, .val (.long q2), .second, .val (.long q4), .second, .val (.int p6), .val (.int p7), .val (.long sq), .second, .val (.ref b1), .val (.ref b5), .val (.ref sv9), .val .null, .val (.ref b32), .val (.ref b40), .val (.ref b44), .val (.int (1 : Int32)), .unset, .unset] [(.ref b40)])) rfl (by rw [hml]; rfl) (Steps.refl _) (argsL := []) (rest := []) (lenOf pd_8 rfl) rfl (by show 2 * 0 + _ ≤ _; exact Nat.le_of_eq rfl) (hb hby at_174) (fun _ _ => ⟨rfl, e48q, (by decide : 9 + 0 ≤ _), (by decide : 32 + 0 ≤ _)⟩)
      dsimp only [Pt.U, Pt.locs, Pt.cells, Pt.slots] at X49 l49 y49 z49 st49 hQ49
      subst l49 y49 z49
      obtain ⟨rfl, N49q, e49q⟩ := hQ49
      have N49 := Fr.app N48 N49q
      have pre14 : ∀ t, Steps p.tables e below (T49.setTop (mkF m 187 #[.val (.long q0), .second, .val (.long q2), .second, .val (.long q4), .second, .val (.int p6), .val (.int p7), .val (.long sq), .second, .val (.ref b1), .val (.ref b5), .val (.ref sv9), .val .null, .val (.ref b32), .val (.ref b40), .val (.ref b44), .val (.int (1 : Int32)), .val (.int (1 : Int32)), .unset] [])) t → Steps p.tables e below (s₁.setTop (entryFrame m #[(.long q0), (.long q2), (.long q4), (.int p6), (.int p7)] maxLocals)) t := by
        intro t k
        refine pre13 t ?_
        show Steps p.tables e below (T48.setTop (mkF m 162 #[.val (.long q0), .second, .val (.long q2), .second, .val (.long q4), .second, .val (.int p6), .val (.int p7), .val (.long sq), .second, .val (.ref b1), .val (.ref b5), .val (.ref sv9), .val .null, .val (.ref b32), .val (.ref b40), .val (.ref b44), .unset, .unset, .unset] [(.int (own_zl sq)), (.int (own_zl sq))])) _
        refine XS.icmpNo X48.here hx rfl (hb hby at_162) rfl (teq (rfl : own_zl sq = own_zl sq)).2 ?_
        show Steps p.tables e below (T48.setTop (mkF m 165 #[.val (.long q0), .second, .val (.long q2), .second, .val (.long q4), .second, .val (.int p6), .val (.int p7), .val (.long sq), .second, .val (.ref b1), .val (.ref b5), .val (.ref sv9), .val .null, .val (.ref b32), .val (.ref b40), .val (.ref b44), .unset, .unset, .unset] [])) _
        refine XS.iconst X48.here hx rfl (hb hby at_165) ?_
        show Steps p.tables e below (T48.setTop (mkF m 166 #[.val (.long q0), .second, .val (.long q2), .second, .val (.long q4), .second, .val (.int p6), .val (.int p7), .val (.long sq), .second, .val (.ref b1), .val (.ref b5), .val (.ref sv9), .val .null, .val (.ref b32), .val (.ref b40), .val (.ref b44), .unset, .unset, .unset] [(.int (1 : Int32))])) _
        refine XS.goto X48.here hx rfl (pc0 := 166) (pc' := 170) rfl (hb hby at_166) (by decide) (by decide) ?_
        show Steps p.tables e below (T48.setTop (mkF m 170 #[.val (.long q0), .second, .val (.long q2), .second, .val (.long q4), .second, .val (.int p6), .val (.int p7), .val (.long sq), .second, .val (.ref b1), .val (.ref b5), .val (.ref sv9), .val .null, .val (.ref b32), .val (.ref b40), .val (.ref b44), .unset, .unset, .unset] [(.int (1 : Int32))])) _
        refine XS.istore X48.here hx rfl (hb hby at_170) rfl (l' := #[.val (.long q0), .second, .val (.long q2), .second, .val (.long q4), .second, .val (.int p6), .val (.int p7), .val (.long sq), .second, .val (.ref b1), .val (.ref b5), .val (.ref sv9), .val .null, .val (.ref b32), .val (.ref b40), .val (.ref b44), .val (.int (1 : Int32)), .unset, .unset]) rfl ?_
        show Steps p.tables e below (T48.setTop (mkF m 172 #[.val (.long q0), .second, .val (.long q2), .second, .val (.long q4), .second, .val (.int p6), .val (.int p7), .val (.long sq), .second, .val (.ref b1), .val (.ref b5), .val (.ref sv9), .val .null, .val (.ref b32), .val (.ref b40), .val (.ref b44), .val (.int (1 : Int32)), .unset, .unset] [])) _
        refine XS.aload X48.here hx rfl (hb hby at_172) rfl rfl ?_
        show Steps p.tables e below (T48.setTop (mkF m 174 #[.val (.long q0), .second, .val (.long q2), .second, .val (.long q4), .second, .val (.int p6), .val (.int p7), .val (.long sq), .second, .val (.ref b1), .val (.ref b5), .val (.ref sv9), .val .null, .val (.ref b32), .val (.ref b40), .val (.ref b44), .val (.int (1 : Int32)), .unset, .unset] [(.ref b40)])) _
        refine st49.trans ?_
        show Steps p.tables e below (T49.setTop (mkF m 177 #[.val (.long q0), .second, .val (.long q2), .second, .val (.long q4), .second, .val (.int p6), .val (.int p7), .val (.long sq), .second, .val (.ref b1), .val (.ref b5), .val (.ref sv9), .val .null, .val (.ref b32), .val (.ref b40), .val (.ref b44), .val (.int (1 : Int32)), .unset, .unset] [(.int (0 : Int32))])) _
        refine XS.ifNo X49.here hx rfl (hb hby at_177) rfl ((if0 _ _).trans (teq (rfl : (0 : Int32) = (0 : Int32))).2) ?_
        show Steps p.tables e below (T49.setTop (mkF m 180 #[.val (.long q0), .second, .val (.long q2), .second, .val (.long q4), .second, .val (.int p6), .val (.int p7), .val (.long sq), .second, .val (.ref b1), .val (.ref b5), .val (.ref sv9), .val .null, .val (.ref b32), .val (.ref b40), .val (.ref b44), .val (.int (1 : Int32)), .unset, .unset] [])) _
        refine XS.iconst X49.here hx rfl (hb hby at_180) ?_
        show Steps p.tables e below (T49.setTop (mkF m 181 #[.val (.long q0), .second, .val (.long q2), .second, .val (.long q4), .second, .val (.int p6), .val (.int p7), .val (.long sq), .second, .val (.ref b1), .val (.ref b5), .val (.ref sv9), .val .null, .val (.ref b32), .val (.ref b40), .val (.ref b44), .val (.int (1 : Int32)), .unset, .unset] [(.int (1 : Int32))])) _
        refine XS.goto X49.here hx rfl (pc0 := 181) (pc' := 185) rfl (hb hby at_181) (by decide) (by decide) ?_
        show Steps p.tables e below (T49.setTop (mkF m 185 #[.val (.long q0), .second, .val (.long q2), .second, .val (.long q4), .second, .val (.int p6), .val (.int p7), .val (.long sq), .second, .val (.ref b1), .val (.ref b5), .val (.ref sv9), .val .null, .val (.ref b32), .val (.ref b40), .val (.ref b44), .val (.int (1 : Int32)), .unset, .unset] [(.int (1 : Int32))])) _
        refine XS.istore X49.here hx rfl (hb hby at_185) rfl (l' := #[.val (.long q0), .second, .val (.long q2), .second, .val (.long q4), .second, .val (.int p6), .val (.int p7), .val (.long sq), .second, .val (.ref b1), .val (.ref b5), .val (.ref sv9), .val .null, .val (.ref b32), .val (.ref b40), .val (.ref b44), .val (.int (1 : Int32)), .val (.int (1 : Int32)), .unset]) rfl ?_
        exact k
      obtain ⟨cq50, kq50, q50a, q50b, q50c⟩ := isOf hZ e49q E46q
      obtain ⟨_, _, ⟨T50, L50, k50, n50⟩, -, X50, ⟨Lc50, hQ50, l50, y50, z50⟩, st50⟩ := X49.virtualBack hx (y := (⟨"com/example/governor/governor/core/UsageLine", "marksPaused", "()Z"⟩ : MethodName)) (z := (⟨"com/example/governor/governor/core/UsageLine", "marksPaused", "()Z"⟩ : MethodName)) hown (mvT hZ (hw _ (List.mem_of_getElem? (i := 81) rfl))) (mvT hZ (hw _ (List.mem_of_getElem? (i := 82) rfl))) (notFace_of_selects (args := #[]) (mvT hZ (hw _ (List.mem_of_getElem? (i := 84) rfl)))) (mvT hZ (hw _ (List.mem_of_getElem? (i := 84) rfl))) (mvT hZ (hw _ (List.mem_of_getElem? (i := 83) rfl))) (by decide) (backOf (W := 0) (rm14n l Z a0 hw [] b44 (0 : Int64) T46.heap n0 Zs47 Fs46q Fc46q) hZ (hw _ (List.mem_of_getElem? (i := 85) rfl)) (hw _ (List.mem_of_getElem? (i := 2) rfl)) (by decide) (by decide)) q50a q50c (g := (mkF m 189 #[.val (.long q0), .second, .val (.long q2), .second, .val (.long q4), .second, .val (.int p6), .val (.int p7), .val (.long sq), .second, .val (.ref b1), .val (.ref b5), .val (.ref sv9), .val .null, .val (.ref b32), .val (.ref b40), .val (.ref b44), .val (.int (1 : Int32)), .val (.int (1 : Int32)), .unset] [(.ref b44)])) rfl (by rw [hml]; rfl) (Steps.refl _) (argsL := []) (rest := []) (lenOf pd_8 rfl) rfl (by show 2 * 0 + _ ≤ _; exact Nat.le_of_eq rfl) (hb hby at_189) (fun _ _ => ⟨rfl, e49q, (by decide : 9 + 0 ≤ _), (by decide : 32 + 0 ≤ _)⟩)
      dsimp only [Pt.U, Pt.locs, Pt.cells, Pt.slots] at X50 l50 y50 z50 st50 hQ50
      subst l50 y50 z50
      obtain ⟨rfl, N50q, e50q⟩ := hQ50
      have N50 := Fr.app N49 N50q
      have pre15 : ∀ t, Steps p.tables e below (T50.setTop (mkF m 194 #[.val (.long q0), .second, .val (.long q2), .second, .val (.long q4), .second, .val (.int p6), .val (.int p7), .val (.long sq), .second, .val (.ref b1), .val (.ref b5), .val (.ref sv9), .val .null, .val (.ref b32), .val (.ref b40), .val (.ref b44), .val (.int (1 : Int32)), .val (.int (1 : Int32)), .val (.int (own_zl (0 : Int64)))] [])) t → Steps p.tables e below (s₁.setTop (entryFrame m #[(.long q0), (.long q2), (.long q4), (.int p6), (.int p7)] maxLocals)) t := by
        intro t k
        refine pre14 t ?_
        show Steps p.tables e below (T49.setTop (mkF m 187 #[.val (.long q0), .second, .val (.long q2), .second, .val (.long q4), .second, .val (.int p6), .val (.int p7), .val (.long sq), .second, .val (.ref b1), .val (.ref b5), .val (.ref sv9), .val .null, .val (.ref b32), .val (.ref b40), .val (.ref b44), .val (.int (1 : Int32)), .val (.int (1 : Int32)), .unset] [])) _
        refine XS.aload X49.here hx rfl (hb hby at_187) rfl rfl ?_
        show Steps p.tables e below (T49.setTop (mkF m 189 #[.val (.long q0), .second, .val (.long q2), .second, .val (.long q4), .second, .val (.int p6), .val (.int p7), .val (.long sq), .second, .val (.ref b1), .val (.ref b5), .val (.ref sv9), .val .null, .val (.ref b32), .val (.ref b40), .val (.ref b44), .val (.int (1 : Int32)), .val (.int (1 : Int32)), .unset] [(.ref b44)])) _
        refine st50.trans ?_
        show Steps p.tables e below (T50.setTop (mkF m 192 #[.val (.long q0), .second, .val (.long q2), .second, .val (.long q4), .second, .val (.int p6), .val (.int p7), .val (.long sq), .second, .val (.ref b1), .val (.ref b5), .val (.ref sv9), .val .null, .val (.ref b32), .val (.ref b40), .val (.ref b44), .val (.int (1 : Int32)), .val (.int (1 : Int32)), .unset] [(.int (own_zl (0 : Int64)))])) _
        refine XS.istore X50.here hx rfl (hb hby at_192) rfl (l' := #[.val (.long q0), .second, .val (.long q2), .second, .val (.long q4), .second, .val (.int p6), .val (.int p7), .val (.long sq), .second, .val (.ref b1), .val (.ref b5), .val (.ref sv9), .val .null, .val (.ref b32), .val (.ref b40), .val (.ref b44), .val (.int (1 : Int32)), .val (.int (1 : Int32)), .val (.int (own_zl (0 : Int64)))]) rfl ?_
        exact k
      obtain ⟨fs, hr, hrun, hended, hW, hsame⟩ := X50.leave (v := some (.int (1 : Int32))) (fun h => by rw [Bd.returns] at h; cases h)
      refine ⟨_, _, pre15 _ ?_, hrun, hended, _, _, rfl, ?_, ⟨_, rfl⟩, hW, hsame.mono (by decide) (by decide)⟩
      · show Steps p.tables e below (T50.setTop (mkF m 194 #[.val (.long q0), .second, .val (.long q2), .second, .val (.long q4), .second, .val (.int p6), .val (.int p7), .val (.long sq), .second, .val (.ref b1), .val (.ref b5), .val (.ref sv9), .val .null, .val (.ref b32), .val (.ref b40), .val (.ref b44), .val (.int (1 : Int32)), .val (.int (1 : Int32)), .val (.int (own_zl (0 : Int64)))] [])) _
        refine XS.iload X50.here hx rfl (hb hby at_194) rfl ?_
        show Steps p.tables e below (T50.setTop (mkF m 196 #[.val (.long q0), .second, .val (.long q2), .second, .val (.long q4), .second, .val (.int p6), .val (.int p7), .val (.long sq), .second, .val (.ref b1), .val (.ref b5), .val (.ref sv9), .val .null, .val (.ref b32), .val (.ref b40), .val (.ref b44), .val (.int (1 : Int32)), .val (.int (1 : Int32)), .val (.int (own_zl (0 : Int64)))] [(.int (1 : Int32))])) _
        refine XS.ifNo X50.here hx rfl (hb hby at_196) rfl ((if0 _ _).trans (feq (by decide : ¬ ((1 : Int32) = (0 : Int32)))).1) ?_
        show Steps p.tables e below (T50.setTop (mkF m 199 #[.val (.long q0), .second, .val (.long q2), .second, .val (.long q4), .second, .val (.int p6), .val (.int p7), .val (.long sq), .second, .val (.ref b1), .val (.ref b5), .val (.ref sv9), .val .null, .val (.ref b32), .val (.ref b40), .val (.ref b44), .val (.int (1 : Int32)), .val (.int (1 : Int32)), .val (.int (own_zl (0 : Int64)))] [])) _
        refine XS.iload X50.here hx rfl (hb hby at_199) rfl ?_
        show Steps p.tables e below (T50.setTop (mkF m 201 #[.val (.long q0), .second, .val (.long q2), .second, .val (.long q4), .second, .val (.int p6), .val (.int p7), .val (.long sq), .second, .val (.ref b1), .val (.ref b5), .val (.ref sv9), .val .null, .val (.ref b32), .val (.ref b40), .val (.ref b44), .val (.int (1 : Int32)), .val (.int (1 : Int32)), .val (.int (own_zl (0 : Int64)))] [(.int (1 : Int32))])) _
        refine XS.ifNo X50.here hx rfl (hb hby at_201) rfl ((if0 _ _).trans (feq (by decide : ¬ ((1 : Int32) = (0 : Int32)))).1) ?_
        show Steps p.tables e below (T50.setTop (mkF m 204 #[.val (.long q0), .second, .val (.long q2), .second, .val (.long q4), .second, .val (.int p6), .val (.int p7), .val (.long sq), .second, .val (.ref b1), .val (.ref b5), .val (.ref sv9), .val .null, .val (.ref b32), .val (.ref b40), .val (.ref b44), .val (.int (1 : Int32)), .val (.int (1 : Int32)), .val (.int (own_zl (0 : Int64)))] [])) _
        refine XS.iload X50.here hx rfl (hb hby at_204) rfl ?_
        show Steps p.tables e below (T50.setTop (mkF m 206 #[.val (.long q0), .second, .val (.long q2), .second, .val (.long q4), .second, .val (.int p6), .val (.int p7), .val (.long sq), .second, .val (.ref b1), .val (.ref b5), .val (.ref sv9), .val .null, .val (.ref b32), .val (.ref b40), .val (.ref b44), .val (.int (1 : Int32)), .val (.int (1 : Int32)), .val (.int (own_zl (0 : Int64)))] [(.int (own_zl (0 : Int64)))])) _
        refine XS.ifNo X50.here hx rfl (hb hby at_206) rfl ((if0 _ _).trans (feq (by decide : ¬ (own_zl (0 : Int64) = 0))).1) ?_
        show Steps p.tables e below (T50.setTop (mkF m 209 #[.val (.long q0), .second, .val (.long q2), .second, .val (.long q4), .second, .val (.int p6), .val (.int p7), .val (.long sq), .second, .val (.ref b1), .val (.ref b5), .val (.ref sv9), .val .null, .val (.ref b32), .val (.ref b40), .val (.ref b44), .val (.int (1 : Int32)), .val (.int (1 : Int32)), .val (.int (own_zl (0 : Int64)))] [])) _
        refine XS.iconst X50.here hx rfl (hb hby at_209) ?_
        show Steps p.tables e below (T50.setTop (mkF m 210 #[.val (.long q0), .second, .val (.long q2), .second, .val (.long q4), .second, .val (.int p6), .val (.int p7), .val (.long sq), .second, .val (.ref b1), .val (.ref b5), .val (.ref sv9), .val .null, .val (.ref b32), .val (.ref b40), .val (.ref b44), .val (.int (1 : Int32)), .val (.int (1 : Int32)), .val (.int (own_zl (0 : Int64)))] [(.int (1 : Int32))])) _
        refine XS.goto X50.here hx rfl (pc0 := 210) (pc' := 214) rfl (hb hby at_210) (by decide) (by decide) ?_
        show Steps p.tables e below (T50.setTop (mkF m 214 #[.val (.long q0), .second, .val (.long q2), .second, .val (.long q4), .second, .val (.int p6), .val (.int p7), .val (.long sq), .second, .val (.ref b1), .val (.ref b5), .val (.ref sv9), .val .null, .val (.ref b32), .val (.ref b40), .val (.ref b44), .val (.int (1 : Int32)), .val (.int (1 : Int32)), .val (.int (own_zl (0 : Int64)))] [(.int (1 : Int32))])) _
        exact retN X50 hx (t := .boolean) Bd.returns (by simp) (hb hby at_214) hr
      · show Q0 Z q0 q2 q4 p6 p7 G1 zz h0 n0 _ T50.heap _
        rw [e50q]
        exact ⟨rfl, N50⟩
  · skip
    have pre16 : ∀ t, Steps p.tables e below (T7.setTop (mkF m 71 #[.val (.long q0), .second, .val (.long q2), .second, .val (.long q4), .second, .val (.int p6), .val (.int p7), .val (.long sq), .second, .val (.ref b1), .val (.ref b5), .val .null, .unset, .unset, .unset, .unset, .unset, .unset, .unset] [])) t → Steps p.tables e below (s₁.setTop (entryFrame m #[(.long q0), (.long q2), (.long q4), (.int p6), (.int p7)] maxLocals)) t := by
      intro t k
      refine pre2 t ?_
      show Steps p.tables e below (T7.setTop (mkF m 45 #[.val (.long q0), .second, .val (.long q2), .second, .val (.long q4), .second, .val (.int p6), .val (.int p7), .val (.long sq), .second, .val (.ref b1), .val (.ref b5), .unset, .unset, .unset, .unset, .unset, .unset, .unset, .unset] [])) _
      refine XS.iload X7.here hx rfl (hb hby at_45) rfl ?_
      show Steps p.tables e below (T7.setTop (mkF m 47 #[.val (.long q0), .second, .val (.long q2), .second, .val (.long q4), .second, .val (.int p6), .val (.int p7), .val (.long sq), .second, .val (.ref b1), .val (.ref b5), .unset, .unset, .unset, .unset, .unset, .unset, .unset, .unset] [(.int p6)])) _
      refine XS.iconst X7.here hx rfl (hb hby at_47) ?_
      show Steps p.tables e below (T7.setTop (mkF m 48 #[.val (.long q0), .second, .val (.long q2), .second, .val (.long q4), .second, .val (.int p6), .val (.int p7), .val (.long sq), .second, .val (.ref b1), .val (.ref b5), .unset, .unset, .unset, .unset, .unset, .unset, .unset, .unset] [(.int (2 : Int32)), (.int p6)])) _
      refine XS.iand X7.here hx rfl (hb hby at_48) rfl ?_
      show Steps p.tables e below (T7.setTop (mkF m 49 #[.val (.long q0), .second, .val (.long q2), .second, .val (.long q4), .second, .val (.int p6), .val (.int p7), .val (.long sq), .second, .val (.ref b1), .val (.ref b5), .unset, .unset, .unset, .unset, .unset, .unset, .unset, .unset] [(.int (p6 &&& (2 : Int32)))])) _
      refine XS.ifNo X7.here hx rfl (hb hby at_49) rfl ((if0 _ _).trans (feq c49).1) ?_
      show Steps p.tables e below (T7.setTop (mkF m 52 #[.val (.long q0), .second, .val (.long q2), .second, .val (.long q4), .second, .val (.int p6), .val (.int p7), .val (.long sq), .second, .val (.ref b1), .val (.ref b5), .unset, .unset, .unset, .unset, .unset, .unset, .unset, .unset] [])) _
      refine XS.aconstNull X7.here hx rfl (hb hby at_52) ?_
      show Steps p.tables e below (T7.setTop (mkF m 53 #[.val (.long q0), .second, .val (.long q2), .second, .val (.long q4), .second, .val (.int p6), .val (.int p7), .val (.long sq), .second, .val (.ref b1), .val (.ref b5), .unset, .unset, .unset, .unset, .unset, .unset, .unset, .unset] [.null])) _
      refine XS.goto X7.here hx rfl (pc0 := 53) (pc' := 69) rfl (hb hby at_53) (by decide) (by decide) ?_
      show Steps p.tables e below (T7.setTop (mkF m 69 #[.val (.long q0), .second, .val (.long q2), .second, .val (.long q4), .second, .val (.int p6), .val (.int p7), .val (.long sq), .second, .val (.ref b1), .val (.ref b5), .unset, .unset, .unset, .unset, .unset, .unset, .unset, .unset] [.null])) _
      refine XS.astore X7.here hx rfl (hb hby at_69) rfl rfl (l' := #[.val (.long q0), .second, .val (.long q2), .second, .val (.long q4), .second, .val (.int p6), .val (.int p7), .val (.long sq), .second, .val (.ref b1), .val (.ref b5), .val .null, .unset, .unset, .unset, .unset, .unset, .unset, .unset]) rfl ?_
      exact k
    by_cases c75 : (p6 &&& (4 : Int32)) = 0
    · skip
      obtain ⟨_, _, ⟨T51, L51, k51, n51⟩, -, X51, ⟨Lc51, hQ51, l51, y51, z51⟩, st51⟩ := Jvm.LawKit.callS X7 hx (y := (⟨"java/lang/String", "valueOf", "(C)Ljava/lang/String;"⟩ : MethodName)) hown (mvT hZ (hw _ (List.mem_of_getElem? (i := 22) rfl))) (mvT hZ (hw _ (List.mem_of_getElem? (i := 23) rfl))) (mvT hZ (hw _ (List.mem_of_getElem? (i := 24) rfl))) (mvT hZ (hw _ (List.mem_of_getElem? (i := 25) rfl))) (by decide) (backOf (W := 0) (rm3 l Z a0 hw [] ((((p7.toUInt32 >>> ((16 : Int32) &&& 31).toUInt32).toInt32) &&& (255 : Int32)).toUInt32.toUInt16.toUInt32.toInt32) G1 h7 n0 Zs8 (O2.ext O_7.2) P5 (own_chars2 _)) hZ (hw _ (List.mem_of_getElem? (i := 25) rfl)) (hw _ (List.mem_of_getElem? (i := 24) rfl)) (by decide) (by decide)) (g := (mkF m 92 #[.val (.long q0), .second, .val (.long q2), .second, .val (.long q4), .second, .val (.int p6), .val (.int p7), .val (.long sq), .second, .val (.ref b1), .val (.ref b5), .val .null, .unset, .unset, .unset, .unset, .unset, .unset, .unset] [(.int ((((p7.toUInt32 >>> ((16 : Int32) &&& 31).toUInt32).toInt32) &&& (255 : Int32)).toUInt32.toUInt16.toUInt32.toInt32))])) rfl (by rw [hml]; rfl) (argsL := [(.int ((((p7.toUInt32 >>> ((16 : Int32) &&& 31).toUInt32).toInt32) &&& (255 : Int32)).toUInt32.toUInt16.toUInt32.toInt32))]) (rest := []) (lenOf pd_4 rfl) rfl (by show 2 * 0 + _ ≤ _; exact Nat.le_of_eq rfl) (hb hby at_92) (fun _ _ => ⟨rfl, e7, (by decide : 2 + 2 ≤ _), (by decide : 7 + 5 ≤ _)⟩)
      dsimp only [Pt.U, Pt.locs, Pt.cells, Pt.slots] at X51 l51 y51 z51 st51 hQ51
      subst l51 y51 z51
      obtain ⟨sv51, rfl, N51q, K51q⟩ := hQ51
      have N51 := Fr.app N7 N51q
      have O_51 := O_7.keep K51q all0
      have E_b1_51 := E_b1_7.keep K51q
      have F_b1_seconds_51 := F_b1_seconds_7.keep K51q nin0
      have F_b1_settingChange_51 := F_b1_settingChange_7.keep K51q nin0
      have V_b5_51 := V7_b5.keep K51q nin0
      have Zs52 := Nat.le_trans Zs8 K51q.1
      have pre17 : ∀ t, Steps p.tables e below (T51.setTop (mkF m 97 #[.val (.long q0), .second, .val (.long q2), .second, .val (.long q4), .second, .val (.int p6), .val (.int p7), .val (.long sq), .second, .val (.ref b1), .val (.ref b5), .val .null, .val (.ref sv51), .unset, .unset, .unset, .unset, .unset, .unset] [])) t → Steps p.tables e below (s₁.setTop (entryFrame m #[(.long q0), (.long q2), (.long q4), (.int p6), (.int p7)] maxLocals)) t := by
        intro t k
        refine pre16 t ?_
        show Steps p.tables e below (T7.setTop (mkF m 71 #[.val (.long q0), .second, .val (.long q2), .second, .val (.long q4), .second, .val (.int p6), .val (.int p7), .val (.long sq), .second, .val (.ref b1), .val (.ref b5), .val .null, .unset, .unset, .unset, .unset, .unset, .unset, .unset] [])) _
        refine XS.iload X7.here hx rfl (hb hby at_71) rfl ?_
        show Steps p.tables e below (T7.setTop (mkF m 73 #[.val (.long q0), .second, .val (.long q2), .second, .val (.long q4), .second, .val (.int p6), .val (.int p7), .val (.long sq), .second, .val (.ref b1), .val (.ref b5), .val .null, .unset, .unset, .unset, .unset, .unset, .unset, .unset] [(.int p6)])) _
        refine XS.iconst X7.here hx rfl (hb hby at_73) ?_
        show Steps p.tables e below (T7.setTop (mkF m 74 #[.val (.long q0), .second, .val (.long q2), .second, .val (.long q4), .second, .val (.int p6), .val (.int p7), .val (.long sq), .second, .val (.ref b1), .val (.ref b5), .val .null, .unset, .unset, .unset, .unset, .unset, .unset, .unset] [(.int (4 : Int32)), (.int p6)])) _
        refine XS.iand X7.here hx rfl (hb hby at_74) rfl ?_
        show Steps p.tables e below (T7.setTop (mkF m 75 #[.val (.long q0), .second, .val (.long q2), .second, .val (.long q4), .second, .val (.int p6), .val (.int p7), .val (.long sq), .second, .val (.ref b1), .val (.ref b5), .val .null, .unset, .unset, .unset, .unset, .unset, .unset, .unset] [(.int (p6 &&& (4 : Int32)))])) _
        refine XS.ifYes X7.here hx rfl (pc0 := 75) (pc' := 82) rfl (hb hby at_75) rfl ((if0 _ _).trans (teq c75).1) (by decide) (by decide) ?_
        show Steps p.tables e below (T7.setTop (mkF m 82 #[.val (.long q0), .second, .val (.long q2), .second, .val (.long q4), .second, .val (.int p6), .val (.int p7), .val (.long sq), .second, .val (.ref b1), .val (.ref b5), .val .null, .unset, .unset, .unset, .unset, .unset, .unset, .unset] [])) _
        refine XS.iload X7.here hx rfl (hb hby at_82) rfl ?_
        show Steps p.tables e below (T7.setTop (mkF m 84 #[.val (.long q0), .second, .val (.long q2), .second, .val (.long q4), .second, .val (.int p6), .val (.int p7), .val (.long sq), .second, .val (.ref b1), .val (.ref b5), .val .null, .unset, .unset, .unset, .unset, .unset, .unset, .unset] [(.int p7)])) _
        refine XS.bipush X7.here hx rfl (hb hby at_84) ?_
        show Steps p.tables e below (T7.setTop (mkF m 86 #[.val (.long q0), .second, .val (.long q2), .second, .val (.long q4), .second, .val (.int p6), .val (.int p7), .val (.long sq), .second, .val (.ref b1), .val (.ref b5), .val .null, .unset, .unset, .unset, .unset, .unset, .unset, .unset] [(.int (16 : Int32)), (.int p7)])) _
        refine XS.iushr X7.here hx rfl (hb hby at_86) rfl ?_
        show Steps p.tables e below (T7.setTop (mkF m 87 #[.val (.long q0), .second, .val (.long q2), .second, .val (.long q4), .second, .val (.int p6), .val (.int p7), .val (.long sq), .second, .val (.ref b1), .val (.ref b5), .val .null, .unset, .unset, .unset, .unset, .unset, .unset, .unset] [(.int ((p7.toUInt32 >>> ((16 : Int32) &&& 31).toUInt32).toInt32))])) _
        refine XS.sipush X7.here hx rfl (hb hby at_87) ?_
        show Steps p.tables e below (T7.setTop (mkF m 90 #[.val (.long q0), .second, .val (.long q2), .second, .val (.long q4), .second, .val (.int p6), .val (.int p7), .val (.long sq), .second, .val (.ref b1), .val (.ref b5), .val .null, .unset, .unset, .unset, .unset, .unset, .unset, .unset] [(.int (255 : Int32)), (.int ((p7.toUInt32 >>> ((16 : Int32) &&& 31).toUInt32).toInt32))])) _
        refine XS.iand X7.here hx rfl (hb hby at_90) rfl ?_
        show Steps p.tables e below (T7.setTop (mkF m 91 #[.val (.long q0), .second, .val (.long q2), .second, .val (.long q4), .second, .val (.int p6), .val (.int p7), .val (.long sq), .second, .val (.ref b1), .val (.ref b5), .val .null, .unset, .unset, .unset, .unset, .unset, .unset, .unset] [(.int (((p7.toUInt32 >>> ((16 : Int32) &&& 31).toUInt32).toInt32) &&& (255 : Int32)))])) _
        refine XS.i2c X7.here hx rfl (hb hby at_91) rfl ?_
        show Steps p.tables e below (T7.setTop (mkF m 92 #[.val (.long q0), .second, .val (.long q2), .second, .val (.long q4), .second, .val (.int p6), .val (.int p7), .val (.long sq), .second, .val (.ref b1), .val (.ref b5), .val .null, .unset, .unset, .unset, .unset, .unset, .unset, .unset] [(.int ((((p7.toUInt32 >>> ((16 : Int32) &&& 31).toUInt32).toInt32) &&& (255 : Int32)).toUInt32.toUInt16.toUInt32.toInt32))])) _
        refine st51 _ ?_
        show Steps p.tables e below (T51.setTop (mkF m 95 #[.val (.long q0), .second, .val (.long q2), .second, .val (.long q4), .second, .val (.int p6), .val (.int p7), .val (.long sq), .second, .val (.ref b1), .val (.ref b5), .val .null, .unset, .unset, .unset, .unset, .unset, .unset, .unset] [(.ref sv51)])) _
        refine XS.astore X51.here hx rfl (hb hby at_95) rfl rfl (l' := #[.val (.long q0), .second, .val (.long q2), .second, .val (.long q4), .second, .val (.int p6), .val (.int p7), .val (.long sq), .second, .val (.ref b1), .val (.ref b5), .val .null, .val (.ref sv51), .unset, .unset, .unset, .unset, .unset, .unset]) rfl ?_
        exact k
      obtain ⟨T53, h53, X53, e53, E53, A53, D53, -, st53⟩ := newO X51 hx hZ hown (hw _ (List.mem_of_getElem? (i := 46) rfl)) (hw _ (List.mem_of_getElem? (i := 47) rfl)) (hw _ (List.mem_of_getElem? (i := 48) rfl)) rfl (g := (mkF m 97 #[.val (.long q0), .second, .val (.long q2), .second, .val (.long q4), .second, .val (.int p6), .val (.int p7), .val (.long sq), .second, .val (.ref b1), .val (.ref b5), .val .null, .val (.ref sv51), .unset, .unset, .unset, .unset, .unset, .unset] [])) rfl (hb hby at_97) (by decide) (by decide)
      obtain ⟨b53, g53⟩ : ∃ z, z = T51.heap.size := ⟨_, rfl⟩
      rw [← g53] at A53 D53 st53
      have ne_b1_b53 : b1 ≠ b53 := Nat.ne_of_lt (Nat.lt_of_lt_of_le E_b1_51.lt (Nat.le_of_eq g53.symm))
      have ne_b5_b53 : b5 ≠ b53 := Nat.ne_of_lt (Nat.lt_of_lt_of_le V_b5_51.lt (Nat.le_of_eq g53.symm))
      have g_b53 : n0 ≤ b53 := Nat.le_trans Zs52 (Nat.le_of_eq g53.symm)
      have O_53 := O_51.ext E53
      have E_b1_53 := E_b1_51.ext E53
      have F_b1_seconds_53 := F_b1_seconds_51.ext E53
      have F_b1_settingChange_53 := F_b1_settingChange_51.ext E53
      have V_b5_53 := V_b5_51.ext E53
      have Zs54 := Nat.le_trans Zs52 E53.1
      have F_field_b53 : Fld Z h53 b53 "com/example/governor/governor/core/FieldChange" "field" "Ljava/lang/String;" .null := D53 (Or.inr (hw _ (List.mem_of_getElem? (i := 71) rfl))) (ty := (.object "java/lang/String")) (by decide)
      have F_before_b53 : Fld Z h53 b53 "com/example/governor/governor/core/FieldChange" "before" "Ljava/lang/String;" .null := D53 (Or.inr (hw _ (List.mem_of_getElem? (i := 73) rfl))) (ty := (.object "java/lang/String")) (by decide)
      have F_after_b53 : Fld Z h53 b53 "com/example/governor/governor/core/FieldChange" "after" "Ljava/lang/String;" .null := D53 (Or.inr (hw _ (List.mem_of_getElem? (i := 75) rfl))) (ty := (.object "java/lang/String")) (by decide)
      obtain ⟨T55, h55, X55, e55, E55, A55, D55, -, st55⟩ := newO X53 hx hZ hown (hw _ (List.mem_of_getElem? (i := 49) rfl)) (hw _ (List.mem_of_getElem? (i := 32) rfl)) (hw _ (List.mem_of_getElem? (i := 24) rfl)) e53 (g := (mkF m 101 #[.val (.long q0), .second, .val (.long q2), .second, .val (.long q4), .second, .val (.int p6), .val (.int p7), .val (.long sq), .second, .val (.ref b1), .val (.ref b5), .val .null, .val (.ref sv51), .unset, .unset, .unset, .unset, .unset, .unset] [(.ref b53), (.ref b53)])) rfl (hb hby at_101) (by decide) (by decide)
      obtain ⟨b55, g55⟩ : ∃ z, z = h53.size := ⟨_, rfl⟩
      rw [← g55] at A55 D55 st55
      have ne_b1_b55 : b1 ≠ b55 := Nat.ne_of_lt (Nat.lt_of_lt_of_le E_b1_53.lt (Nat.le_of_eq g55.symm))
      have ne_b5_b55 : b5 ≠ b55 := Nat.ne_of_lt (Nat.lt_of_lt_of_le V_b5_53.lt (Nat.le_of_eq g55.symm))
      have ne_b53_b55 : b53 ≠ b55 := Nat.ne_of_lt (Nat.lt_of_lt_of_le F_field_b53.lt (Nat.le_of_eq g55.symm))
      have g_b55 : n0 ≤ b55 := Nat.le_trans Zs54 (Nat.le_of_eq g55.symm)
      have O_55 := O_53.ext E55
      have E_b1_55 := E_b1_53.ext E55
      have F_b1_seconds_55 := F_b1_seconds_53.ext E55
      have F_b1_settingChange_55 := F_b1_settingChange_53.ext E55
      have V_b5_55 := V_b5_53.ext E55
      have F_b53_field_55 := F_field_b53.ext E55
      have F_b53_before_55 := F_before_b53.ext E55
      have F_b53_after_55 := F_after_b53.ext E55
      have E_b53_55 := A53.ext E55
      have Zs56 := Nat.le_trans Zs54 E55.1
      have F_value_b55 : Fld Z h55 b55 "java/lang/String" "value" "[B" .null := D55 (Or.inr (hw _ (List.mem_of_getElem? (i := 43) rfl))) (ty := (.array .byte)) (by decide)
      have F_coder_b55 : Fld Z h55 b55 "java/lang/String" "coder" "B" (.int (0 : Int32)) := D55 (Or.inr (hw _ (List.mem_of_getElem? (i := 45) rfl))) (ty := .byte) (by decide)
      obtain ⟨_, _, ⟨T57, L57, k57, n57⟩, -, X57, ⟨Lc57, hQ57, l57, y57, z57⟩, st57⟩ := X55.specialBack hx (y := (⟨"java/lang/String", "<init>", "([C)V"⟩ : MethodName)) rfl hown (mvT hZ (hw _ (List.mem_of_getElem? (i := 50) rfl))) (mvT hZ (hw _ (List.mem_of_getElem? (i := 51) rfl))) (mvT hZ (hw _ (List.mem_of_getElem? (i := 52) rfl))) (by decide) (StrChars.Road.backV (W := 3) hZ hws (kI := 4) (hw _ (List.mem_of_getElem? (i := 32) rfl)) (cs := ([nar .char ((p7 &&& (255 : Int32)).toUInt32.toUInt16.toUInt32.toInt32)] : List Int32)) (bs := (([nar .char ((p7 &&& (255 : Int32)).toUInt32.toUInt16.toUInt32.toInt32)] : List Int32)).map (fun c => c.toInt8.toInt32)) (n := 1) g_b55 Zs56 A55 F_value_b55 F_coder_b55 V_b5_55 (O2.ext O_55.2) P5 rfl rfl (by decide) (by decide) hp rfl (by decide) (by decide)) (g := (mkF m 107 #[.val (.long q0), .second, .val (.long q2), .second, .val (.long q4), .second, .val (.int p6), .val (.int p7), .val (.long sq), .second, .val (.ref b1), .val (.ref b5), .val .null, .val (.ref sv51), .unset, .unset, .unset, .unset, .unset, .unset] [(.ref b5), (.ref b55), (.ref b55), (.ref b53), (.ref b53)])) rfl (by rw [hml]; rfl) (Steps.refl _) (a := b55) (argsL := [(.ref b5)]) (rest := [(.ref b55), (.ref b53), (.ref b53)]) (lenOf pd_5 rfl) rfl (by show 2 * 0 + _ ≤ _; exact Nat.le_of_eq rfl) (hb hby at_107) (fun _ _ => ⟨rfl, e55, (by decide : 6 + 1 ≤ _), (by decide : 19 + 1 ≤ _)⟩)
      dsimp only [Pt.U, Pt.locs, Pt.cells, Pt.slots] at X57 l57 y57 z57 st57 hQ57
      subst l57 y57 z57
      obtain ⟨rfl, N57q, K57q, E57q, Fc57q, ta57, kb57, u157, u257, u357, Fv57q, Vv57q⟩ := hQ57
      have N57 := Fr.app N51 N57q
      have O_57 := O_55.keep K57q (allS g_b55 all0)
      have E_b1_57 := E_b1_55.keep K57q
      have F_b1_seconds_57 := F_b1_seconds_55.keep K57q (ninS ne_b1_b55 nin0)
      have F_b1_settingChange_57 := F_b1_settingChange_55.keep K57q (ninS ne_b1_b55 nin0)
      have V_b5_57 := V_b5_55.keep K57q (ninS ne_b5_b55 nin0)
      have F_b53_field_57 := F_b53_field_55.keep K57q (ninS ne_b53_b55 nin0)
      have F_b53_before_57 := F_b53_before_55.keep K57q (ninS ne_b53_b55 nin0)
      have F_b53_after_57 := F_b53_after_55.keep K57q (ninS ne_b53_b55 nin0)
      have E_b53_57 := E_b53_55.keep K57q
      have E_b55_57 := A55.keep K57q
      have Zs58 := Nat.le_trans Zs56 K57q.1
      obtain ⟨_, _, ⟨T59, L59, k59, n59⟩, -, X59, ⟨Lc59, hQ59, l59, y59, z59⟩, st59⟩ := X57.specialBack hx (y := (⟨"com/example/governor/governor/core/FieldChange", "<init>", "(Ljava/lang/String;Ljava/lang/String;Ljava/lang/String;)V"⟩ : MethodName)) rfl hown (mvT hZ (hw _ (List.mem_of_getElem? (i := 66) rfl))) (mvT hZ (hw _ (List.mem_of_getElem? (i := 67) rfl))) (mvT hZ (hw _ (List.mem_of_getElem? (i := 68) rfl))) (by decide) (backOf (W := 1) (rm12nr l Z a0 hw [] b53 b55 sv51 T57.heap n0 Zs58 F_b53_field_57 F_b53_before_57 F_b53_after_57 E_b53_57 g_b53) hZ (hw _ (List.mem_of_getElem? (i := 68) rfl)) (hw _ (List.mem_of_getElem? (i := 48) rfl)) (by decide) (by decide)) (g := (mkF m 114 #[.val (.long q0), .second, .val (.long q2), .second, .val (.long q4), .second, .val (.int p6), .val (.int p7), .val (.long sq), .second, .val (.ref b1), .val (.ref b5), .val .null, .val (.ref sv51), .unset, .unset, .unset, .unset, .unset, .unset] [(.ref sv51), .null, (.ref b55), (.ref b53), (.ref b53)])) rfl (by rw [hml]; rfl) (Steps.refl _) (a := b53) (argsL := [(.ref b55), .null, (.ref sv51)]) (rest := [(.ref b53)]) (lenOf pd_6 rfl) rfl (by show 2 * 0 + _ ≤ _; exact Nat.le_of_eq rfl) (hb hby at_114) (fun _ _ => ⟨rfl, rfl, (by decide : 7 + 0 ≤ _), (by decide : 20 + 0 ≤ _)⟩)
      dsimp only [Pt.U, Pt.locs, Pt.cells, Pt.slots] at X59 l59 y59 z59 st59 hQ59
      subst l59 y59 z59
      obtain ⟨rfl, N59q, K59q⟩ := hQ59
      have N59 := Fr.app N57 N59q
      have O_59 := O_57.keep K59q (allS g_b53 all0)
      have E_b1_59 := E_b1_57.keep K59q
      have F_b1_seconds_59 := F_b1_seconds_57.keep K59q (ninS ne_b1_b53 nin0)
      have F_b1_settingChange_59 := F_b1_settingChange_57.keep K59q (ninS ne_b1_b53 nin0)
      have V_b5_59 := V_b5_57.keep K59q (ninS ne_b5_b53 nin0)
      have E_b53_59 := E_b53_57.keep K59q
      have E_b55_59 := E57q.keep K59q
      have Zs60 := Nat.le_trans Zs58 K59q.1
      obtain ⟨T61, h61, X61, e61, E61, A61, D61, -, st61⟩ := newO X59 hx hZ hown (hw _ (List.mem_of_getElem? (i := 0) rfl)) (hw _ (List.mem_of_getElem? (i := 1) rfl)) (hw _ (List.mem_of_getElem? (i := 2) rfl)) rfl (g := (mkF m 119 #[.val (.long q0), .second, .val (.long q2), .second, .val (.long q4), .second, .val (.int p6), .val (.int p7), .val (.long sq), .second, .val (.ref b1), .val (.ref b5), .val .null, .val (.ref sv51), .val (.ref b53), .unset, .unset, .unset, .unset, .unset] [])) rfl (hb hby at_119) (by decide) (by decide)
      obtain ⟨b61, g61⟩ : ∃ z, z = T59.heap.size := ⟨_, rfl⟩
      rw [← g61] at A61 D61 st61
      have ne_b1_b61 : b1 ≠ b61 := Nat.ne_of_lt (Nat.lt_of_lt_of_le E_b1_59.lt (Nat.le_of_eq g61.symm))
      have ne_b5_b61 : b5 ≠ b61 := Nat.ne_of_lt (Nat.lt_of_lt_of_le V_b5_59.lt (Nat.le_of_eq g61.symm))
      have ne_b53_b61 : b53 ≠ b61 := Nat.ne_of_lt (Nat.lt_of_lt_of_le E_b53_59.lt (Nat.le_of_eq g61.symm))
      have ne_b55_b61 : b55 ≠ b61 := Nat.ne_of_lt (Nat.lt_of_lt_of_le E_b55_59.lt (Nat.le_of_eq g61.symm))
      have g_b61 : n0 ≤ b61 := Nat.le_trans Zs60 (Nat.le_of_eq g61.symm)
      have O_61 := O_59.ext E61
      have E_b1_61 := E_b1_59.ext E61
      have F_b1_seconds_61 := F_b1_seconds_59.ext E61
      have F_b1_settingChange_61 := F_b1_settingChange_59.ext E61
      have V_b5_61 := V_b5_59.ext E61
      have E_b53_61 := E_b53_59.ext E61
      have E_b55_61 := E_b55_59.ext E61
      have Zs62 := Nat.le_trans Zs60 E61.1
      have F_number_b61 : Fld Z h61 b61 "com/example/governor/governor/core/UsageLine" "number" "J" (.long (0 : Int64)) := D61 (Or.inr (hw _ (List.mem_of_getElem? (i := 10) rfl))) (ty := .long) (by decide)
      have F_seconds_b61 : Fld Z h61 b61 "com/example/governor/governor/core/UsageLine" "seconds" "J" (.long (0 : Int64)) := D61 (Or.inr (hw _ (List.mem_of_getElem? (i := 12) rfl))) (ty := .long) (by decide)
      have F_sessions_b61 : Fld Z h61 b61 "com/example/governor/governor/core/UsageLine" "sessions" "J" (.long (0 : Int64)) := D61 (Or.inr (hw _ (List.mem_of_getElem? (i := 14) rfl))) (ty := .long) (by decide)
      have F_vcoresUsed_b61 : Fld Z h61 b61 "com/example/governor/governor/core/UsageLine" "vcoresUsed" "Ljava/math/BigDecimal;" .null := D61 (Or.inr (hw _ (List.mem_of_getElem? (i := 16) rfl))) (ty := (.object "java/math/BigDecimal")) (by decide)
      have F_memoryGbUsed_b61 : Fld Z h61 b61 "com/example/governor/governor/core/UsageLine" "memoryGbUsed" "Ljava/math/BigDecimal;" .null := D61 (Or.inr (hw _ (List.mem_of_getElem? (i := 18) rfl))) (ty := (.object "java/math/BigDecimal")) (by decide)
      have F_settingChange_b61 : Fld Z h61 b61 "com/example/governor/governor/core/UsageLine" "settingChange" "Lcom/example/governor/governor/core/FieldChange;" .null := D61 (Or.inr (hw _ (List.mem_of_getElem? (i := 20) rfl))) (ty := (.object "com/example/governor/governor/core/FieldChange")) (by decide)
      obtain ⟨_, _, ⟨T63, L63, k63, n63⟩, -, X63, ⟨Lc63, hQ63, l63, y63, z63⟩, st63⟩ := X61.specialBack hx (y := (⟨"com/example/governor/governor/core/UsageLine", "<init>", "(JLcom/example/governor/governor/core/FieldChange;)V"⟩ : MethodName)) rfl hown (mvT hZ (hw _ (List.mem_of_getElem? (i := 76) rfl))) (mvT hZ (hw _ (List.mem_of_getElem? (i := 77) rfl))) (mvT hZ (hw _ (List.mem_of_getElem? (i := 78) rfl))) (by decide) (backOf (W := 1) (rm13r l Z a0 hw [] b61 q0 b53 zz h61 n0 Zs62 F_number_b61 F_seconds_b61 F_sessions_b61 F_vcoresUsed_b61 F_memoryGbUsed_b61 F_settingChange_b61 A61 g_b61 (O3.ext O_61.2)) hZ (hw _ (List.mem_of_getElem? (i := 78) rfl)) (hw _ (List.mem_of_getElem? (i := 2) rfl)) (by decide) (by decide)) (g := (mkF m 126 #[.val (.long q0), .second, .val (.long q2), .second, .val (.long q4), .second, .val (.int p6), .val (.int p7), .val (.long sq), .second, .val (.ref b1), .val (.ref b5), .val .null, .val (.ref sv51), .val (.ref b53), .unset, .unset, .unset, .unset, .unset] [(.ref b53), (.long q0), (.ref b61), (.ref b61)])) rfl (by rw [hml]; rfl) (Steps.refl _) (a := b61) (argsL := [(.long q0), (.ref b53)]) (rest := [(.ref b61)]) (lenOf pd_7 rfl) rfl (by show 2 * 0 + _ ≤ _; exact Nat.le_of_eq rfl) (hb hby at_126) (fun _ _ => ⟨rfl, e61, (by decide : 8 + 0 ≤ _), (by decide : 26 + 0 ≤ _)⟩)
      dsimp only [Pt.U, Pt.locs, Pt.cells, Pt.slots] at X63 l63 y63 z63 st63 hQ63
      subst l63 y63 z63
      obtain ⟨rfl, N63q, K63q, E63q, Fs63q, Fc63q⟩ := hQ63
      have N63 := Fr.app N59 N63q
      have O_63 := O_61.keep K63q (allS g_b61 all0)
      have E_b1_63 := E_b1_61.keep K63q
      have F_b1_seconds_63 := F_b1_seconds_61.keep K63q (ninS ne_b1_b61 nin0)
      have F_b1_settingChange_63 := F_b1_settingChange_61.keep K63q (ninS ne_b1_b61 nin0)
      have V_b5_63 := V_b5_61.keep K63q (ninS ne_b5_b61 nin0)
      have E_b53_63 := E_b53_61.keep K63q
      have E_b55_63 := E_b55_61.keep K63q
      have E_b61_63 := A61.keep K63q
      have Zs64 := Nat.le_trans Zs62 K63q.1
      obtain ⟨T65, h65, X65, e65, E65, A65, D65, -, st65⟩ := newO X63 hx hZ hown (hw _ (List.mem_of_getElem? (i := 0) rfl)) (hw _ (List.mem_of_getElem? (i := 1) rfl)) (hw _ (List.mem_of_getElem? (i := 2) rfl)) rfl (g := (mkF m 131 #[.val (.long q0), .second, .val (.long q2), .second, .val (.long q4), .second, .val (.int p6), .val (.int p7), .val (.long sq), .second, .val (.ref b1), .val (.ref b5), .val .null, .val (.ref sv51), .val (.ref b53), .val (.ref b61), .unset, .unset, .unset, .unset] [])) rfl (hb hby at_131) (by decide) (by decide)
      obtain ⟨b65, g65⟩ : ∃ z, z = T63.heap.size := ⟨_, rfl⟩
      rw [← g65] at A65 D65 st65
      have ne_b1_b65 : b1 ≠ b65 := Nat.ne_of_lt (Nat.lt_of_lt_of_le E_b1_63.lt (Nat.le_of_eq g65.symm))
      have ne_b5_b65 : b5 ≠ b65 := Nat.ne_of_lt (Nat.lt_of_lt_of_le V_b5_63.lt (Nat.le_of_eq g65.symm))
      have ne_b53_b65 : b53 ≠ b65 := Nat.ne_of_lt (Nat.lt_of_lt_of_le E_b53_63.lt (Nat.le_of_eq g65.symm))
      have ne_b55_b65 : b55 ≠ b65 := Nat.ne_of_lt (Nat.lt_of_lt_of_le E_b55_63.lt (Nat.le_of_eq g65.symm))
      have ne_b61_b65 : b61 ≠ b65 := Nat.ne_of_lt (Nat.lt_of_lt_of_le E63q.lt (Nat.le_of_eq g65.symm))
      have g_b65 : n0 ≤ b65 := Nat.le_trans Zs64 (Nat.le_of_eq g65.symm)
      have O_65 := O_63.ext E65
      have E_b1_65 := E_b1_63.ext E65
      have F_b1_seconds_65 := F_b1_seconds_63.ext E65
      have F_b1_settingChange_65 := F_b1_settingChange_63.ext E65
      have V_b5_65 := V_b5_63.ext E65
      have E_b53_65 := E_b53_63.ext E65
      have E_b55_65 := E_b55_63.ext E65
      have E_b61_65 := E63q.ext E65
      have F_b61_seconds_65 := Fs63q.ext E65
      have F_b61_settingChange_65 := Fc63q.ext E65
      have Zs66 := Nat.le_trans Zs64 E65.1
      have F_number_b65 : Fld Z h65 b65 "com/example/governor/governor/core/UsageLine" "number" "J" (.long (0 : Int64)) := D65 (Or.inr (hw _ (List.mem_of_getElem? (i := 10) rfl))) (ty := .long) (by decide)
      have F_seconds_b65 : Fld Z h65 b65 "com/example/governor/governor/core/UsageLine" "seconds" "J" (.long (0 : Int64)) := D65 (Or.inr (hw _ (List.mem_of_getElem? (i := 12) rfl))) (ty := .long) (by decide)
      have F_sessions_b65 : Fld Z h65 b65 "com/example/governor/governor/core/UsageLine" "sessions" "J" (.long (0 : Int64)) := D65 (Or.inr (hw _ (List.mem_of_getElem? (i := 14) rfl))) (ty := .long) (by decide)
      have F_vcoresUsed_b65 : Fld Z h65 b65 "com/example/governor/governor/core/UsageLine" "vcoresUsed" "Ljava/math/BigDecimal;" .null := D65 (Or.inr (hw _ (List.mem_of_getElem? (i := 16) rfl))) (ty := (.object "java/math/BigDecimal")) (by decide)
      have F_memoryGbUsed_b65 : Fld Z h65 b65 "com/example/governor/governor/core/UsageLine" "memoryGbUsed" "Ljava/math/BigDecimal;" .null := D65 (Or.inr (hw _ (List.mem_of_getElem? (i := 18) rfl))) (ty := (.object "java/math/BigDecimal")) (by decide)
      have F_settingChange_b65 : Fld Z h65 b65 "com/example/governor/governor/core/UsageLine" "settingChange" "Lcom/example/governor/governor/core/FieldChange;" .null := D65 (Or.inr (hw _ (List.mem_of_getElem? (i := 20) rfl))) (ty := (.object "com/example/governor/governor/core/FieldChange")) (by decide)
      obtain ⟨_, _, ⟨T67, L67, k67, n67⟩, -, X67, ⟨Lc67, hQ67, l67, y67, z67⟩, st67⟩ := X65.specialBack hx (y := (⟨"com/example/governor/governor/core/UsageLine", "<init>", "(JLcom/example/governor/governor/core/FieldChange;)V"⟩ : MethodName)) rfl hown (mvT hZ (hw _ (List.mem_of_getElem? (i := 76) rfl))) (mvT hZ (hw _ (List.mem_of_getElem? (i := 77) rfl))) (mvT hZ (hw _ (List.mem_of_getElem? (i := 78) rfl))) (by decide) (backOf (W := 1) (rm13n l Z a0 hw [] b65 q0  zz h65 n0 Zs66 F_number_b65 F_seconds_b65 F_sessions_b65 F_vcoresUsed_b65 F_memoryGbUsed_b65 F_settingChange_b65 A65 g_b65 (O3.ext O_65.2)) hZ (hw _ (List.mem_of_getElem? (i := 78) rfl)) (hw _ (List.mem_of_getElem? (i := 2) rfl)) (by decide) (by decide)) (g := (mkF m 140 #[.val (.long q0), .second, .val (.long q2), .second, .val (.long q4), .second, .val (.int p6), .val (.int p7), .val (.long sq), .second, .val (.ref b1), .val (.ref b5), .val .null, .val (.ref sv51), .val (.ref b53), .val (.ref b61), .unset, .unset, .unset, .unset] [.null, (.long q0), (.ref b65), (.ref b65)])) rfl (by rw [hml]; rfl) (Steps.refl _) (a := b65) (argsL := [(.long q0), .null]) (rest := [(.ref b65)]) (lenOf pd_7 rfl) rfl (by show 2 * 0 + _ ≤ _; exact Nat.le_of_eq rfl) (hb hby at_140) (fun _ _ => ⟨rfl, e65, (by decide : 9 + 0 ≤ _), (by decide : 32 + 0 ≤ _)⟩)
      dsimp only [Pt.U, Pt.locs, Pt.cells, Pt.slots] at X67 l67 y67 z67 st67 hQ67
      subst l67 y67 z67
      obtain ⟨rfl, N67q, K67q, E67q, Fs67q, Fc67q⟩ := hQ67
      have N67 := Fr.app N63 N67q
      have O_67 := O_65.keep K67q (allS g_b65 all0)
      have E_b1_67 := E_b1_65.keep K67q
      have F_b1_seconds_67 := F_b1_seconds_65.keep K67q (ninS ne_b1_b65 nin0)
      have F_b1_settingChange_67 := F_b1_settingChange_65.keep K67q (ninS ne_b1_b65 nin0)
      have V_b5_67 := V_b5_65.keep K67q (ninS ne_b5_b65 nin0)
      have E_b53_67 := E_b53_65.keep K67q
      have E_b55_67 := E_b55_65.keep K67q
      have E_b61_67 := E_b61_65.keep K67q
      have F_b61_seconds_67 := F_b61_seconds_65.keep K67q (ninS ne_b61_b65 nin0)
      have F_b61_settingChange_67 := F_b61_settingChange_65.keep K67q (ninS ne_b61_b65 nin0)
      have E_b65_67 := A65.keep K67q
      have Zs68 := Nat.le_trans Zs66 K67q.1
      have pre18 : ∀ t, Steps p.tables e below (T67.setTop (mkF m 145 #[.val (.long q0), .second, .val (.long q2), .second, .val (.long q4), .second, .val (.int p6), .val (.int p7), .val (.long sq), .second, .val (.ref b1), .val (.ref b5), .val .null, .val (.ref sv51), .val (.ref b53), .val (.ref b61), .val (.ref b65), .unset, .unset, .unset] [])) t → Steps p.tables e below (s₁.setTop (entryFrame m #[(.long q0), (.long q2), (.long q4), (.int p6), (.int p7)] maxLocals)) t := by
        intro t k
        refine pre17 t ?_
        show Steps p.tables e below (T51.setTop (mkF m 97 #[.val (.long q0), .second, .val (.long q2), .second, .val (.long q4), .second, .val (.int p6), .val (.int p7), .val (.long sq), .second, .val (.ref b1), .val (.ref b5), .val .null, .val (.ref sv51), .unset, .unset, .unset, .unset, .unset, .unset] [])) _
        refine st53 _ ?_
        show Steps p.tables e below (T53.setTop (mkF m 100 #[.val (.long q0), .second, .val (.long q2), .second, .val (.long q4), .second, .val (.int p6), .val (.int p7), .val (.long sq), .second, .val (.ref b1), .val (.ref b5), .val .null, .val (.ref sv51), .unset, .unset, .unset, .unset, .unset, .unset] [(.ref b53)])) _
        refine XS.dup X53.here hx rfl (hb hby at_100) rfl rfl ?_
        show Steps p.tables e below (T53.setTop (mkF m 101 #[.val (.long q0), .second, .val (.long q2), .second, .val (.long q4), .second, .val (.int p6), .val (.int p7), .val (.long sq), .second, .val (.ref b1), .val (.ref b5), .val .null, .val (.ref sv51), .unset, .unset, .unset, .unset, .unset, .unset] [(.ref b53), (.ref b53)])) _
        refine st55 _ ?_
        show Steps p.tables e below (T55.setTop (mkF m 104 #[.val (.long q0), .second, .val (.long q2), .second, .val (.long q4), .second, .val (.int p6), .val (.int p7), .val (.long sq), .second, .val (.ref b1), .val (.ref b5), .val .null, .val (.ref sv51), .unset, .unset, .unset, .unset, .unset, .unset] [(.ref b55), (.ref b53), (.ref b53)])) _
        refine XS.dup X55.here hx rfl (hb hby at_104) rfl rfl ?_
        show Steps p.tables e below (T55.setTop (mkF m 105 #[.val (.long q0), .second, .val (.long q2), .second, .val (.long q4), .second, .val (.int p6), .val (.int p7), .val (.long sq), .second, .val (.ref b1), .val (.ref b5), .val .null, .val (.ref sv51), .unset, .unset, .unset, .unset, .unset, .unset] [(.ref b55), (.ref b55), (.ref b53), (.ref b53)])) _
        refine XS.aload X55.here hx rfl (hb hby at_105) rfl rfl ?_
        show Steps p.tables e below (T55.setTop (mkF m 107 #[.val (.long q0), .second, .val (.long q2), .second, .val (.long q4), .second, .val (.int p6), .val (.int p7), .val (.long sq), .second, .val (.ref b1), .val (.ref b5), .val .null, .val (.ref sv51), .unset, .unset, .unset, .unset, .unset, .unset] [(.ref b5), (.ref b55), (.ref b55), (.ref b53), (.ref b53)])) _
        refine st57.trans ?_
        show Steps p.tables e below (T57.setTop (mkF m 110 #[.val (.long q0), .second, .val (.long q2), .second, .val (.long q4), .second, .val (.int p6), .val (.int p7), .val (.long sq), .second, .val (.ref b1), .val (.ref b5), .val .null, .val (.ref sv51), .unset, .unset, .unset, .unset, .unset, .unset] [(.ref b55), (.ref b53), (.ref b53)])) _
        refine XS.aload X57.here hx rfl (hb hby at_110) rfl rfl ?_
        show Steps p.tables e below (T57.setTop (mkF m 112 #[.val (.long q0), .second, .val (.long q2), .second, .val (.long q4), .second, .val (.int p6), .val (.int p7), .val (.long sq), .second, .val (.ref b1), .val (.ref b5), .val .null, .val (.ref sv51), .unset, .unset, .unset, .unset, .unset, .unset] [.null, (.ref b55), (.ref b53), (.ref b53)])) _
        refine XS.aload X57.here hx rfl (hb hby at_112) rfl rfl ?_
        show Steps p.tables e below (T57.setTop (mkF m 114 #[.val (.long q0), .second, .val (.long q2), .second, .val (.long q4), .second, .val (.int p6), .val (.int p7), .val (.long sq), .second, .val (.ref b1), .val (.ref b5), .val .null, .val (.ref sv51), .unset, .unset, .unset, .unset, .unset, .unset] [(.ref sv51), .null, (.ref b55), (.ref b53), (.ref b53)])) _
        refine st59.trans ?_
        show Steps p.tables e below (T59.setTop (mkF m 117 #[.val (.long q0), .second, .val (.long q2), .second, .val (.long q4), .second, .val (.int p6), .val (.int p7), .val (.long sq), .second, .val (.ref b1), .val (.ref b5), .val .null, .val (.ref sv51), .unset, .unset, .unset, .unset, .unset, .unset] [(.ref b53)])) _
        refine XS.astore X59.here hx rfl (hb hby at_117) rfl rfl (l' := #[.val (.long q0), .second, .val (.long q2), .second, .val (.long q4), .second, .val (.int p6), .val (.int p7), .val (.long sq), .second, .val (.ref b1), .val (.ref b5), .val .null, .val (.ref sv51), .val (.ref b53), .unset, .unset, .unset, .unset, .unset]) rfl ?_
        show Steps p.tables e below (T59.setTop (mkF m 119 #[.val (.long q0), .second, .val (.long q2), .second, .val (.long q4), .second, .val (.int p6), .val (.int p7), .val (.long sq), .second, .val (.ref b1), .val (.ref b5), .val .null, .val (.ref sv51), .val (.ref b53), .unset, .unset, .unset, .unset, .unset] [])) _
        refine st61 _ ?_
        show Steps p.tables e below (T61.setTop (mkF m 122 #[.val (.long q0), .second, .val (.long q2), .second, .val (.long q4), .second, .val (.int p6), .val (.int p7), .val (.long sq), .second, .val (.ref b1), .val (.ref b5), .val .null, .val (.ref sv51), .val (.ref b53), .unset, .unset, .unset, .unset, .unset] [(.ref b61)])) _
        refine XS.dup X61.here hx rfl (hb hby at_122) rfl rfl ?_
        show Steps p.tables e below (T61.setTop (mkF m 123 #[.val (.long q0), .second, .val (.long q2), .second, .val (.long q4), .second, .val (.int p6), .val (.int p7), .val (.long sq), .second, .val (.ref b1), .val (.ref b5), .val .null, .val (.ref sv51), .val (.ref b53), .unset, .unset, .unset, .unset, .unset] [(.ref b61), (.ref b61)])) _
        refine XS.lloadN X61.here hx rfl (hb hby at_123) rfl ?_
        show Steps p.tables e below (T61.setTop (mkF m 124 #[.val (.long q0), .second, .val (.long q2), .second, .val (.long q4), .second, .val (.int p6), .val (.int p7), .val (.long sq), .second, .val (.ref b1), .val (.ref b5), .val .null, .val (.ref sv51), .val (.ref b53), .unset, .unset, .unset, .unset, .unset] [(.long q0), (.ref b61), (.ref b61)])) _
        refine XS.aload X61.here hx rfl (hb hby at_124) rfl rfl ?_
        show Steps p.tables e below (T61.setTop (mkF m 126 #[.val (.long q0), .second, .val (.long q2), .second, .val (.long q4), .second, .val (.int p6), .val (.int p7), .val (.long sq), .second, .val (.ref b1), .val (.ref b5), .val .null, .val (.ref sv51), .val (.ref b53), .unset, .unset, .unset, .unset, .unset] [(.ref b53), (.long q0), (.ref b61), (.ref b61)])) _
        refine st63.trans ?_
        show Steps p.tables e below (T63.setTop (mkF m 129 #[.val (.long q0), .second, .val (.long q2), .second, .val (.long q4), .second, .val (.int p6), .val (.int p7), .val (.long sq), .second, .val (.ref b1), .val (.ref b5), .val .null, .val (.ref sv51), .val (.ref b53), .unset, .unset, .unset, .unset, .unset] [(.ref b61)])) _
        refine XS.astore X63.here hx rfl (hb hby at_129) rfl rfl (l' := #[.val (.long q0), .second, .val (.long q2), .second, .val (.long q4), .second, .val (.int p6), .val (.int p7), .val (.long sq), .second, .val (.ref b1), .val (.ref b5), .val .null, .val (.ref sv51), .val (.ref b53), .val (.ref b61), .unset, .unset, .unset, .unset]) rfl ?_
        show Steps p.tables e below (T63.setTop (mkF m 131 #[.val (.long q0), .second, .val (.long q2), .second, .val (.long q4), .second, .val (.int p6), .val (.int p7), .val (.long sq), .second, .val (.ref b1), .val (.ref b5), .val .null, .val (.ref sv51), .val (.ref b53), .val (.ref b61), .unset, .unset, .unset, .unset] [])) _
        refine st65 _ ?_
        show Steps p.tables e below (T65.setTop (mkF m 134 #[.val (.long q0), .second, .val (.long q2), .second, .val (.long q4), .second, .val (.int p6), .val (.int p7), .val (.long sq), .second, .val (.ref b1), .val (.ref b5), .val .null, .val (.ref sv51), .val (.ref b53), .val (.ref b61), .unset, .unset, .unset, .unset] [(.ref b65)])) _
        refine XS.dup X65.here hx rfl (hb hby at_134) rfl rfl ?_
        show Steps p.tables e below (T65.setTop (mkF m 135 #[.val (.long q0), .second, .val (.long q2), .second, .val (.long q4), .second, .val (.int p6), .val (.int p7), .val (.long sq), .second, .val (.ref b1), .val (.ref b5), .val .null, .val (.ref sv51), .val (.ref b53), .val (.ref b61), .unset, .unset, .unset, .unset] [(.ref b65), (.ref b65)])) _
        refine XS.lloadN X65.here hx rfl (hb hby at_135) rfl ?_
        show Steps p.tables e below (T65.setTop (mkF m 136 #[.val (.long q0), .second, .val (.long q2), .second, .val (.long q4), .second, .val (.int p6), .val (.int p7), .val (.long sq), .second, .val (.ref b1), .val (.ref b5), .val .null, .val (.ref sv51), .val (.ref b53), .val (.ref b61), .unset, .unset, .unset, .unset] [(.long q0), (.ref b65), (.ref b65)])) _
        refine XS.aconstNull X65.here hx rfl (hb hby at_136) ?_
        show Steps p.tables e below (T65.setTop (mkF m 137 #[.val (.long q0), .second, .val (.long q2), .second, .val (.long q4), .second, .val (.int p6), .val (.int p7), .val (.long sq), .second, .val (.ref b1), .val (.ref b5), .val .null, .val (.ref sv51), .val (.ref b53), .val (.ref b61), .unset, .unset, .unset, .unset] [.null, (.long q0), (.ref b65), (.ref b65)])) _
        refine X65.checkcastNull hx (g := (mkF m 137 #[.val (.long q0), .second, .val (.long q2), .second, .val (.long q4), .second, .val (.int p6), .val (.int p7), .val (.long sq), .second, .val (.ref b1), .val (.ref b5), .val .null, .val (.ref sv51), .val (.ref b53), .val (.ref b61), .unset, .unset, .unset, .unset] [.null, (.long q0), (.ref b65), (.ref b65)])) rfl rfl (hb hby at_137) _ ?_
        show Steps p.tables e below (T65.setTop (mkF m 140 #[.val (.long q0), .second, .val (.long q2), .second, .val (.long q4), .second, .val (.int p6), .val (.int p7), .val (.long sq), .second, .val (.ref b1), .val (.ref b5), .val .null, .val (.ref sv51), .val (.ref b53), .val (.ref b61), .unset, .unset, .unset, .unset] [.null, (.long q0), (.ref b65), (.ref b65)])) _
        refine st67.trans ?_
        show Steps p.tables e below (T67.setTop (mkF m 143 #[.val (.long q0), .second, .val (.long q2), .second, .val (.long q4), .second, .val (.int p6), .val (.int p7), .val (.long sq), .second, .val (.ref b1), .val (.ref b5), .val .null, .val (.ref sv51), .val (.ref b53), .val (.ref b61), .unset, .unset, .unset, .unset] [(.ref b65)])) _
        refine XS.astore X67.here hx rfl (hb hby at_143) rfl rfl (l' := #[.val (.long q0), .second, .val (.long q2), .second, .val (.long q4), .second, .val (.int p6), .val (.int p7), .val (.long sq), .second, .val (.ref b1), .val (.ref b5), .val .null, .val (.ref sv51), .val (.ref b53), .val (.ref b61), .val (.ref b65), .unset, .unset, .unset]) rfl ?_
        exact k
      obtain ⟨cq69, kq69, q69a, q69b, q69c⟩ := isOf hZ rfl E_b1_67
      obtain ⟨_, _, ⟨T69, L69, k69, n69⟩, -, X69, ⟨Lc69, hQ69, l69, y69, z69⟩, st69⟩ := X67.virtualBack hx (y := (⟨"com/example/governor/governor/core/UsageLine", "marksPaused", "()Z"⟩ : MethodName)) (z := (⟨"com/example/governor/governor/core/UsageLine", "marksPaused", "()Z"⟩ : MethodName)) hown (mvT hZ (hw _ (List.mem_of_getElem? (i := 81) rfl))) (mvT hZ (hw _ (List.mem_of_getElem? (i := 82) rfl))) (notFace_of_selects (args := #[]) (mvT hZ (hw _ (List.mem_of_getElem? (i := 84) rfl)))) (mvT hZ (hw _ (List.mem_of_getElem? (i := 84) rfl))) (mvT hZ (hw _ (List.mem_of_getElem? (i := 83) rfl))) (by decide) (backOf (W := 0) (rm14n l Z a0 hw [] b1 sq T67.heap n0 Zs68 F_b1_seconds_67 F_b1_settingChange_67) hZ (hw _ (List.mem_of_getElem? (i := 85) rfl)) (hw _ (List.mem_of_getElem? (i := 2) rfl)) (by decide) (by decide)) q69a q69c (g := (mkF m 147 #[.val (.long q0), .second, .val (.long q2), .second, .val (.long q4), .second, .val (.int p6), .val (.int p7), .val (.long sq), .second, .val (.ref b1), .val (.ref b5), .val .null, .val (.ref sv51), .val (.ref b53), .val (.ref b61), .val (.ref b65), .unset, .unset, .unset] [(.ref b1)])) rfl (by rw [hml]; rfl) (Steps.refl _) (argsL := []) (rest := []) (lenOf pd_8 rfl) rfl (by show 2 * 0 + _ ≤ _; exact Nat.le_of_eq rfl) (hb hby at_147) (fun _ _ => ⟨rfl, rfl, (by decide : 9 + 0 ≤ _), (by decide : 32 + 0 ≤ _)⟩)
      dsimp only [Pt.U, Pt.locs, Pt.cells, Pt.slots] at X69 l69 y69 z69 st69 hQ69
      subst l69 y69 z69
      obtain ⟨rfl, N69q, e69q⟩ := hQ69
      have N69 := Fr.app N67 N69q
      have pre19 : ∀ t, Steps p.tables e below (T69.setTop (mkF m 154 #[.val (.long q0), .second, .val (.long q2), .second, .val (.long q4), .second, .val (.int p6), .val (.int p7), .val (.long sq), .second, .val (.ref b1), .val (.ref b5), .val .null, .val (.ref sv51), .val (.ref b53), .val (.ref b61), .val (.ref b65), .unset, .unset, .unset] [(.int (lcmpW sq (0 : Int64))), (.int (own_zl sq))])) t → Steps p.tables e below (s₁.setTop (entryFrame m #[(.long q0), (.long q2), (.long q4), (.int p6), (.int p7)] maxLocals)) t := by
        intro t k
        refine pre18 t ?_
        show Steps p.tables e below (T67.setTop (mkF m 145 #[.val (.long q0), .second, .val (.long q2), .second, .val (.long q4), .second, .val (.int p6), .val (.int p7), .val (.long sq), .second, .val (.ref b1), .val (.ref b5), .val .null, .val (.ref sv51), .val (.ref b53), .val (.ref b61), .val (.ref b65), .unset, .unset, .unset] [])) _
        refine XS.aload X67.here hx rfl (hb hby at_145) rfl rfl ?_
        show Steps p.tables e below (T67.setTop (mkF m 147 #[.val (.long q0), .second, .val (.long q2), .second, .val (.long q4), .second, .val (.int p6), .val (.int p7), .val (.long sq), .second, .val (.ref b1), .val (.ref b5), .val .null, .val (.ref sv51), .val (.ref b53), .val (.ref b61), .val (.ref b65), .unset, .unset, .unset] [(.ref b1)])) _
        refine st69.trans ?_
        show Steps p.tables e below (T69.setTop (mkF m 150 #[.val (.long q0), .second, .val (.long q2), .second, .val (.long q4), .second, .val (.int p6), .val (.int p7), .val (.long sq), .second, .val (.ref b1), .val (.ref b5), .val .null, .val (.ref sv51), .val (.ref b53), .val (.ref b61), .val (.ref b65), .unset, .unset, .unset] [(.int (own_zl sq))])) _
        refine XS.lload X69.here hx rfl (hb hby at_150) rfl ?_
        show Steps p.tables e below (T69.setTop (mkF m 152 #[.val (.long q0), .second, .val (.long q2), .second, .val (.long q4), .second, .val (.int p6), .val (.int p7), .val (.long sq), .second, .val (.ref b1), .val (.ref b5), .val .null, .val (.ref sv51), .val (.ref b53), .val (.ref b61), .val (.ref b65), .unset, .unset, .unset] [(.long sq), (.int (own_zl sq))])) _
        refine XS.lconst X69.here hx rfl (hb hby at_152) ?_
        show Steps p.tables e below (T69.setTop (mkF m 153 #[.val (.long q0), .second, .val (.long q2), .second, .val (.long q4), .second, .val (.int p6), .val (.int p7), .val (.long sq), .second, .val (.ref b1), .val (.ref b5), .val .null, .val (.ref sv51), .val (.ref b53), .val (.ref b61), .val (.ref b65), .unset, .unset, .unset] [(.long (0 : Int64)), (.long sq), (.int (own_zl sq))])) _
        refine XS.lcmp X69.here hx rfl (hb hby at_153) rfl ?_
        exact k
      obtain ⟨z1, hm20, pre20⟩ : ∃ (z1 : Int32), (z1 = own_zl sq) ∧ ∀ t, Steps p.tables e below (T69.setTop (mkF m 162 #[.val (.long q0), .second, .val (.long q2), .second, .val (.long q4), .second, .val (.int p6), .val (.int p7), .val (.long sq), .second, .val (.ref b1), .val (.ref b5), .val .null, .val (.ref sv51), .val (.ref b53), .val (.ref b61), .val (.ref b65), .unset, .unset, .unset] [(.int z1), (.int (own_zl sq))])) t → Steps p.tables e below (s₁.setTop (entryFrame m #[(.long q0), (.long q2), (.long q4), (.int p6), (.int p7)] maxLocals)) t := by
        by_cases c154 : lcmpW sq (0 : Int64) = 0
        · refine ⟨((1 : Int32)), (by unfold own_zl; rw [if_pos c154]), fun t k => pre19 t ?_⟩
          show Steps p.tables e below (T69.setTop (mkF m 154 #[.val (.long q0), .second, .val (.long q2), .second, .val (.long q4), .second, .val (.int p6), .val (.int p7), .val (.long sq), .second, .val (.ref b1), .val (.ref b5), .val .null, .val (.ref sv51), .val (.ref b53), .val (.ref b61), .val (.ref b65), .unset, .unset, .unset] [(.int (lcmpW sq (0 : Int64))), (.int (own_zl sq))])) _
          refine XS.ifNo X69.here hx rfl (hb hby at_154) rfl ((if0 _ _).trans (teq c154).2) ?_
          show Steps p.tables e below (T69.setTop (mkF m 157 #[.val (.long q0), .second, .val (.long q2), .second, .val (.long q4), .second, .val (.int p6), .val (.int p7), .val (.long sq), .second, .val (.ref b1), .val (.ref b5), .val .null, .val (.ref sv51), .val (.ref b53), .val (.ref b61), .val (.ref b65), .unset, .unset, .unset] [(.int (own_zl sq))])) _
          refine XS.iconst X69.here hx rfl (hb hby at_157) ?_
          show Steps p.tables e below (T69.setTop (mkF m 158 #[.val (.long q0), .second, .val (.long q2), .second, .val (.long q4), .second, .val (.int p6), .val (.int p7), .val (.long sq), .second, .val (.ref b1), .val (.ref b5), .val .null, .val (.ref sv51), .val (.ref b53), .val (.ref b61), .val (.ref b65), .unset, .unset, .unset] [(.int (1 : Int32)), (.int (own_zl sq))])) _
          refine XS.goto X69.here hx rfl (pc0 := 158) (pc' := 162) rfl (hb hby at_158) (by decide) (by decide) ?_
          exact k
        · refine ⟨((0 : Int32)), (by unfold own_zl; rw [if_neg c154]), fun t k => pre19 t ?_⟩
          show Steps p.tables e below (T69.setTop (mkF m 154 #[.val (.long q0), .second, .val (.long q2), .second, .val (.long q4), .second, .val (.int p6), .val (.int p7), .val (.long sq), .second, .val (.ref b1), .val (.ref b5), .val .null, .val (.ref sv51), .val (.ref b53), .val (.ref b61), .val (.ref b65), .unset, .unset, .unset] [(.int (lcmpW sq (0 : Int64))), (.int (own_zl sq))])) _
          refine XS.ifYes X69.here hx rfl (pc0 := 154) (pc' := 161) rfl (hb hby at_154) rfl ((if0 _ _).trans (feq c154).2) (by decide) (by decide) ?_
          show Steps p.tables e below (T69.setTop (mkF m 161 #[.val (.long q0), .second, .val (.long q2), .second, .val (.long q4), .second, .val (.int p6), .val (.int p7), .val (.long sq), .second, .val (.ref b1), .val (.ref b5), .val .null, .val (.ref sv51), .val (.ref b53), .val (.ref b61), .val (.ref b65), .unset, .unset, .unset] [(.int (own_zl sq))])) _
          refine XS.iconst X69.here hx rfl (hb hby at_161) ?_
          exact k
      subst hm20
      obtain ⟨cq70, kq70, q70a, q70b, q70c⟩ := isOf hZ e69q E_b61_67
      obtain ⟨_, _, ⟨T70, L70, k70, n70⟩, -, X70, ⟨Lc70, hQ70, l70, y70, z70⟩, st70⟩ := X69.virtualBack hx (y := (⟨"com/example/governor/governor/core/UsageLine", "marksPaused", "()Z"⟩ : MethodName)) (z := (⟨"com/example/governor/governor/core/UsageLine", "marksPaused", "()Z"⟩ : MethodName)) hown (mvT hZ (hw _ (List.mem_of_getElem? (i := 81) rfl))) (mvT hZ (hw _ (List.mem_of_getElem? (i := 82) rfl))) (notFace_of_selects (args := #[]) (mvT hZ (hw _ (List.mem_of_getElem? (i := 84) rfl)))) (mvT hZ (hw _ (List.mem_of_getElem? (i := 84) rfl))) (mvT hZ (hw _ (List.mem_of_getElem? (i := 83) rfl))) (by decide) (backOf (W := 0) (rm14r l Z a0 hw [] b61 (0 : Int64) b53 T67.heap n0 Zs68 F_b61_seconds_67 F_b61_settingChange_67) hZ (hw _ (List.mem_of_getElem? (i := 85) rfl)) (hw _ (List.mem_of_getElem? (i := 2) rfl)) (by decide) (by decide)) q70a q70c (g := (mkF m 174 #[.val (.long q0), .second, .val (.long q2), .second, .val (.long q4), .second, .val (.int p6), .val (.int p7), .val (.long sq), .second, .val (.ref b1), .val (.ref b5), .val .null, .val (.ref sv51), .val (.ref b53), .val (.ref b61), .val (.ref b65), .val (.int (1 : Int32)), .unset, .unset] [(.ref b61)])) rfl (by rw [hml]; rfl) (Steps.refl _) (argsL := []) (rest := []) (lenOf pd_8 rfl) rfl (by show 2 * 0 + _ ≤ _; exact Nat.le_of_eq rfl) (hb hby at_174) (fun _ _ => ⟨rfl, e69q, (by decide : 9 + 0 ≤ _), (by decide : 32 + 0 ≤ _)⟩)
      dsimp only [Pt.U, Pt.locs, Pt.cells, Pt.slots] at X70 l70 y70 z70 st70 hQ70
      subst l70 y70 z70
      obtain ⟨rfl, N70q, e70q⟩ := hQ70
      have N70 := Fr.app N69 N70q
      have pre21 : ∀ t, Steps p.tables e below (T70.setTop (mkF m 187 #[.val (.long q0), .second, .val (.long q2), .second, .val (.long q4), .second, .val (.int p6), .val (.int p7), .val (.long sq), .second, .val (.ref b1), .val (.ref b5), .val .null, .val (.ref sv51), .val (.ref b53), .val (.ref b61), .val (.ref b65), .val (.int (1 : Int32)), .val (.int (1 : Int32)), .unset] [])) t → Steps p.tables e below (s₁.setTop (entryFrame m #[(.long q0), (.long q2), (.long q4), (.int p6), (.int p7)] maxLocals)) t := by
        intro t k
        refine pre20 t ?_
        show Steps p.tables e below (T69.setTop (mkF m 162 #[.val (.long q0), .second, .val (.long q2), .second, .val (.long q4), .second, .val (.int p6), .val (.int p7), .val (.long sq), .second, .val (.ref b1), .val (.ref b5), .val .null, .val (.ref sv51), .val (.ref b53), .val (.ref b61), .val (.ref b65), .unset, .unset, .unset] [(.int (own_zl sq)), (.int (own_zl sq))])) _
        refine XS.icmpNo X69.here hx rfl (hb hby at_162) rfl (teq (rfl : own_zl sq = own_zl sq)).2 ?_
        show Steps p.tables e below (T69.setTop (mkF m 165 #[.val (.long q0), .second, .val (.long q2), .second, .val (.long q4), .second, .val (.int p6), .val (.int p7), .val (.long sq), .second, .val (.ref b1), .val (.ref b5), .val .null, .val (.ref sv51), .val (.ref b53), .val (.ref b61), .val (.ref b65), .unset, .unset, .unset] [])) _
        refine XS.iconst X69.here hx rfl (hb hby at_165) ?_
        show Steps p.tables e below (T69.setTop (mkF m 166 #[.val (.long q0), .second, .val (.long q2), .second, .val (.long q4), .second, .val (.int p6), .val (.int p7), .val (.long sq), .second, .val (.ref b1), .val (.ref b5), .val .null, .val (.ref sv51), .val (.ref b53), .val (.ref b61), .val (.ref b65), .unset, .unset, .unset] [(.int (1 : Int32))])) _
        refine XS.goto X69.here hx rfl (pc0 := 166) (pc' := 170) rfl (hb hby at_166) (by decide) (by decide) ?_
        show Steps p.tables e below (T69.setTop (mkF m 170 #[.val (.long q0), .second, .val (.long q2), .second, .val (.long q4), .second, .val (.int p6), .val (.int p7), .val (.long sq), .second, .val (.ref b1), .val (.ref b5), .val .null, .val (.ref sv51), .val (.ref b53), .val (.ref b61), .val (.ref b65), .unset, .unset, .unset] [(.int (1 : Int32))])) _
        refine XS.istore X69.here hx rfl (hb hby at_170) rfl (l' := #[.val (.long q0), .second, .val (.long q2), .second, .val (.long q4), .second, .val (.int p6), .val (.int p7), .val (.long sq), .second, .val (.ref b1), .val (.ref b5), .val .null, .val (.ref sv51), .val (.ref b53), .val (.ref b61), .val (.ref b65), .val (.int (1 : Int32)), .unset, .unset]) rfl ?_
        show Steps p.tables e below (T69.setTop (mkF m 172 #[.val (.long q0), .second, .val (.long q2), .second, .val (.long q4), .second, .val (.int p6), .val (.int p7), .val (.long sq), .second, .val (.ref b1), .val (.ref b5), .val .null, .val (.ref sv51), .val (.ref b53), .val (.ref b61), .val (.ref b65), .val (.int (1 : Int32)), .unset, .unset] [])) _
        refine XS.aload X69.here hx rfl (hb hby at_172) rfl rfl ?_
        show Steps p.tables e below (T69.setTop (mkF m 174 #[.val (.long q0), .second, .val (.long q2), .second, .val (.long q4), .second, .val (.int p6), .val (.int p7), .val (.long sq), .second, .val (.ref b1), .val (.ref b5), .val .null, .val (.ref sv51), .val (.ref b53), .val (.ref b61), .val (.ref b65), .val (.int (1 : Int32)), .unset, .unset] [(.ref b61)])) _
        refine st70.trans ?_
        show Steps p.tables e below (T70.setTop (mkF m 177 #[.val (.long q0), .second, .val (.long q2), .second, .val (.long q4), .second, .val (.int p6), .val (.int p7), .val (.long sq), .second, .val (.ref b1), .val (.ref b5), .val .null, .val (.ref sv51), .val (.ref b53), .val (.ref b61), .val (.ref b65), .val (.int (1 : Int32)), .unset, .unset] [(.int (0 : Int32))])) _
        refine XS.ifNo X70.here hx rfl (hb hby at_177) rfl ((if0 _ _).trans (teq (rfl : (0 : Int32) = (0 : Int32))).2) ?_
        show Steps p.tables e below (T70.setTop (mkF m 180 #[.val (.long q0), .second, .val (.long q2), .second, .val (.long q4), .second, .val (.int p6), .val (.int p7), .val (.long sq), .second, .val (.ref b1), .val (.ref b5), .val .null, .val (.ref sv51), .val (.ref b53), .val (.ref b61), .val (.ref b65), .val (.int (1 : Int32)), .unset, .unset] [])) _
        refine XS.iconst X70.here hx rfl (hb hby at_180) ?_
        show Steps p.tables e below (T70.setTop (mkF m 181 #[.val (.long q0), .second, .val (.long q2), .second, .val (.long q4), .second, .val (.int p6), .val (.int p7), .val (.long sq), .second, .val (.ref b1), .val (.ref b5), .val .null, .val (.ref sv51), .val (.ref b53), .val (.ref b61), .val (.ref b65), .val (.int (1 : Int32)), .unset, .unset] [(.int (1 : Int32))])) _
        refine XS.goto X70.here hx rfl (pc0 := 181) (pc' := 185) rfl (hb hby at_181) (by decide) (by decide) ?_
        show Steps p.tables e below (T70.setTop (mkF m 185 #[.val (.long q0), .second, .val (.long q2), .second, .val (.long q4), .second, .val (.int p6), .val (.int p7), .val (.long sq), .second, .val (.ref b1), .val (.ref b5), .val .null, .val (.ref sv51), .val (.ref b53), .val (.ref b61), .val (.ref b65), .val (.int (1 : Int32)), .unset, .unset] [(.int (1 : Int32))])) _
        refine XS.istore X70.here hx rfl (hb hby at_185) rfl (l' := #[.val (.long q0), .second, .val (.long q2), .second, .val (.long q4), .second, .val (.int p6), .val (.int p7), .val (.long sq), .second, .val (.ref b1), .val (.ref b5), .val .null, .val (.ref sv51), .val (.ref b53), .val (.ref b61), .val (.ref b65), .val (.int (1 : Int32)), .val (.int (1 : Int32)), .unset]) rfl ?_
        exact k
      obtain ⟨cq71, kq71, q71a, q71b, q71c⟩ := isOf hZ e70q E67q
      obtain ⟨_, _, ⟨T71, L71, k71, n71⟩, -, X71, ⟨Lc71, hQ71, l71, y71, z71⟩, st71⟩ := X70.virtualBack hx (y := (⟨"com/example/governor/governor/core/UsageLine", "marksPaused", "()Z"⟩ : MethodName)) (z := (⟨"com/example/governor/governor/core/UsageLine", "marksPaused", "()Z"⟩ : MethodName)) hown (mvT hZ (hw _ (List.mem_of_getElem? (i := 81) rfl))) (mvT hZ (hw _ (List.mem_of_getElem? (i := 82) rfl))) (notFace_of_selects (args := #[]) (mvT hZ (hw _ (List.mem_of_getElem? (i := 84) rfl)))) (mvT hZ (hw _ (List.mem_of_getElem? (i := 84) rfl))) (mvT hZ (hw _ (List.mem_of_getElem? (i := 83) rfl))) (by decide) (backOf (W := 0) (rm14n l Z a0 hw [] b65 (0 : Int64) T67.heap n0 Zs68 Fs67q Fc67q) hZ (hw _ (List.mem_of_getElem? (i := 85) rfl)) (hw _ (List.mem_of_getElem? (i := 2) rfl)) (by decide) (by decide)) q71a q71c (g := (mkF m 189 #[.val (.long q0), .second, .val (.long q2), .second, .val (.long q4), .second, .val (.int p6), .val (.int p7), .val (.long sq), .second, .val (.ref b1), .val (.ref b5), .val .null, .val (.ref sv51), .val (.ref b53), .val (.ref b61), .val (.ref b65), .val (.int (1 : Int32)), .val (.int (1 : Int32)), .unset] [(.ref b65)])) rfl (by rw [hml]; rfl) (Steps.refl _) (argsL := []) (rest := []) (lenOf pd_8 rfl) rfl (by show 2 * 0 + _ ≤ _; exact Nat.le_of_eq rfl) (hb hby at_189) (fun _ _ => ⟨rfl, e70q, (by decide : 9 + 0 ≤ _), (by decide : 32 + 0 ≤ _)⟩)
      dsimp only [Pt.U, Pt.locs, Pt.cells, Pt.slots] at X71 l71 y71 z71 st71 hQ71
      subst l71 y71 z71
      obtain ⟨rfl, N71q, e71q⟩ := hQ71
      have N71 := Fr.app N70 N71q
      have pre22 : ∀ t, Steps p.tables e below (T71.setTop (mkF m 194 #[.val (.long q0), .second, .val (.long q2), .second, .val (.long q4), .second, .val (.int p6), .val (.int p7), .val (.long sq), .second, .val (.ref b1), .val (.ref b5), .val .null, .val (.ref sv51), .val (.ref b53), .val (.ref b61), .val (.ref b65), .val (.int (1 : Int32)), .val (.int (1 : Int32)), .val (.int (own_zl (0 : Int64)))] [])) t → Steps p.tables e below (s₁.setTop (entryFrame m #[(.long q0), (.long q2), (.long q4), (.int p6), (.int p7)] maxLocals)) t := by
        intro t k
        refine pre21 t ?_
        show Steps p.tables e below (T70.setTop (mkF m 187 #[.val (.long q0), .second, .val (.long q2), .second, .val (.long q4), .second, .val (.int p6), .val (.int p7), .val (.long sq), .second, .val (.ref b1), .val (.ref b5), .val .null, .val (.ref sv51), .val (.ref b53), .val (.ref b61), .val (.ref b65), .val (.int (1 : Int32)), .val (.int (1 : Int32)), .unset] [])) _
        refine XS.aload X70.here hx rfl (hb hby at_187) rfl rfl ?_
        show Steps p.tables e below (T70.setTop (mkF m 189 #[.val (.long q0), .second, .val (.long q2), .second, .val (.long q4), .second, .val (.int p6), .val (.int p7), .val (.long sq), .second, .val (.ref b1), .val (.ref b5), .val .null, .val (.ref sv51), .val (.ref b53), .val (.ref b61), .val (.ref b65), .val (.int (1 : Int32)), .val (.int (1 : Int32)), .unset] [(.ref b65)])) _
        refine st71.trans ?_
        show Steps p.tables e below (T71.setTop (mkF m 192 #[.val (.long q0), .second, .val (.long q2), .second, .val (.long q4), .second, .val (.int p6), .val (.int p7), .val (.long sq), .second, .val (.ref b1), .val (.ref b5), .val .null, .val (.ref sv51), .val (.ref b53), .val (.ref b61), .val (.ref b65), .val (.int (1 : Int32)), .val (.int (1 : Int32)), .unset] [(.int (own_zl (0 : Int64)))])) _
        refine XS.istore X71.here hx rfl (hb hby at_192) rfl (l' := #[.val (.long q0), .second, .val (.long q2), .second, .val (.long q4), .second, .val (.int p6), .val (.int p7), .val (.long sq), .second, .val (.ref b1), .val (.ref b5), .val .null, .val (.ref sv51), .val (.ref b53), .val (.ref b61), .val (.ref b65), .val (.int (1 : Int32)), .val (.int (1 : Int32)), .val (.int (own_zl (0 : Int64)))]) rfl ?_
        exact k
      obtain ⟨fs, hr, hrun, hended, hW, hsame⟩ := X71.leave (v := some (.int (1 : Int32))) (fun h => by rw [Bd.returns] at h; cases h)
      refine ⟨_, _, pre22 _ ?_, hrun, hended, _, _, rfl, ?_, ⟨_, rfl⟩, hW, hsame.mono (by decide) (by decide)⟩
      · show Steps p.tables e below (T71.setTop (mkF m 194 #[.val (.long q0), .second, .val (.long q2), .second, .val (.long q4), .second, .val (.int p6), .val (.int p7), .val (.long sq), .second, .val (.ref b1), .val (.ref b5), .val .null, .val (.ref sv51), .val (.ref b53), .val (.ref b61), .val (.ref b65), .val (.int (1 : Int32)), .val (.int (1 : Int32)), .val (.int (own_zl (0 : Int64)))] [])) _
        refine XS.iload X71.here hx rfl (hb hby at_194) rfl ?_
        show Steps p.tables e below (T71.setTop (mkF m 196 #[.val (.long q0), .second, .val (.long q2), .second, .val (.long q4), .second, .val (.int p6), .val (.int p7), .val (.long sq), .second, .val (.ref b1), .val (.ref b5), .val .null, .val (.ref sv51), .val (.ref b53), .val (.ref b61), .val (.ref b65), .val (.int (1 : Int32)), .val (.int (1 : Int32)), .val (.int (own_zl (0 : Int64)))] [(.int (1 : Int32))])) _
        refine XS.ifNo X71.here hx rfl (hb hby at_196) rfl ((if0 _ _).trans (feq (by decide : ¬ ((1 : Int32) = (0 : Int32)))).1) ?_
        show Steps p.tables e below (T71.setTop (mkF m 199 #[.val (.long q0), .second, .val (.long q2), .second, .val (.long q4), .second, .val (.int p6), .val (.int p7), .val (.long sq), .second, .val (.ref b1), .val (.ref b5), .val .null, .val (.ref sv51), .val (.ref b53), .val (.ref b61), .val (.ref b65), .val (.int (1 : Int32)), .val (.int (1 : Int32)), .val (.int (own_zl (0 : Int64)))] [])) _
        refine XS.iload X71.here hx rfl (hb hby at_199) rfl ?_
        show Steps p.tables e below (T71.setTop (mkF m 201 #[.val (.long q0), .second, .val (.long q2), .second, .val (.long q4), .second, .val (.int p6), .val (.int p7), .val (.long sq), .second, .val (.ref b1), .val (.ref b5), .val .null, .val (.ref sv51), .val (.ref b53), .val (.ref b61), .val (.ref b65), .val (.int (1 : Int32)), .val (.int (1 : Int32)), .val (.int (own_zl (0 : Int64)))] [(.int (1 : Int32))])) _
        refine XS.ifNo X71.here hx rfl (hb hby at_201) rfl ((if0 _ _).trans (feq (by decide : ¬ ((1 : Int32) = (0 : Int32)))).1) ?_
        show Steps p.tables e below (T71.setTop (mkF m 204 #[.val (.long q0), .second, .val (.long q2), .second, .val (.long q4), .second, .val (.int p6), .val (.int p7), .val (.long sq), .second, .val (.ref b1), .val (.ref b5), .val .null, .val (.ref sv51), .val (.ref b53), .val (.ref b61), .val (.ref b65), .val (.int (1 : Int32)), .val (.int (1 : Int32)), .val (.int (own_zl (0 : Int64)))] [])) _
        refine XS.iload X71.here hx rfl (hb hby at_204) rfl ?_
        show Steps p.tables e below (T71.setTop (mkF m 206 #[.val (.long q0), .second, .val (.long q2), .second, .val (.long q4), .second, .val (.int p6), .val (.int p7), .val (.long sq), .second, .val (.ref b1), .val (.ref b5), .val .null, .val (.ref sv51), .val (.ref b53), .val (.ref b61), .val (.ref b65), .val (.int (1 : Int32)), .val (.int (1 : Int32)), .val (.int (own_zl (0 : Int64)))] [(.int (own_zl (0 : Int64)))])) _
        refine XS.ifNo X71.here hx rfl (hb hby at_206) rfl ((if0 _ _).trans (feq (by decide : ¬ (own_zl (0 : Int64) = 0))).1) ?_
        show Steps p.tables e below (T71.setTop (mkF m 209 #[.val (.long q0), .second, .val (.long q2), .second, .val (.long q4), .second, .val (.int p6), .val (.int p7), .val (.long sq), .second, .val (.ref b1), .val (.ref b5), .val .null, .val (.ref sv51), .val (.ref b53), .val (.ref b61), .val (.ref b65), .val (.int (1 : Int32)), .val (.int (1 : Int32)), .val (.int (own_zl (0 : Int64)))] [])) _
        refine XS.iconst X71.here hx rfl (hb hby at_209) ?_
        show Steps p.tables e below (T71.setTop (mkF m 210 #[.val (.long q0), .second, .val (.long q2), .second, .val (.long q4), .second, .val (.int p6), .val (.int p7), .val (.long sq), .second, .val (.ref b1), .val (.ref b5), .val .null, .val (.ref sv51), .val (.ref b53), .val (.ref b61), .val (.ref b65), .val (.int (1 : Int32)), .val (.int (1 : Int32)), .val (.int (own_zl (0 : Int64)))] [(.int (1 : Int32))])) _
        refine XS.goto X71.here hx rfl (pc0 := 210) (pc' := 214) rfl (hb hby at_210) (by decide) (by decide) ?_
        show Steps p.tables e below (T71.setTop (mkF m 214 #[.val (.long q0), .second, .val (.long q2), .second, .val (.long q4), .second, .val (.int p6), .val (.int p7), .val (.long sq), .second, .val (.ref b1), .val (.ref b5), .val .null, .val (.ref sv51), .val (.ref b53), .val (.ref b61), .val (.ref b65), .val (.int (1 : Int32)), .val (.int (1 : Int32)), .val (.int (own_zl (0 : Int64)))] [(.int (1 : Int32))])) _
        exact retN X71 hx (t := .boolean) Bd.returns (by simp) (hb hby at_214) hr
      · show Q0 Z q0 q2 q4 p6 p7 G1 zz h0 n0 _ T71.heap _
        rw [e71q]
        exact ⟨rfl, N71⟩
    · skip
      have pre23 : ∀ t, Steps p.tables e below (T7.setTop (mkF m 97 #[.val (.long q0), .second, .val (.long q2), .second, .val (.long q4), .second, .val (.int p6), .val (.int p7), .val (.long sq), .second, .val (.ref b1), .val (.ref b5), .val .null, .val .null, .unset, .unset, .unset, .unset, .unset, .unset] [])) t → Steps p.tables e below (s₁.setTop (entryFrame m #[(.long q0), (.long q2), (.long q4), (.int p6), (.int p7)] maxLocals)) t := by
        intro t k
        refine pre16 t ?_
        show Steps p.tables e below (T7.setTop (mkF m 71 #[.val (.long q0), .second, .val (.long q2), .second, .val (.long q4), .second, .val (.int p6), .val (.int p7), .val (.long sq), .second, .val (.ref b1), .val (.ref b5), .val .null, .unset, .unset, .unset, .unset, .unset, .unset, .unset] [])) _
        refine XS.iload X7.here hx rfl (hb hby at_71) rfl ?_
        show Steps p.tables e below (T7.setTop (mkF m 73 #[.val (.long q0), .second, .val (.long q2), .second, .val (.long q4), .second, .val (.int p6), .val (.int p7), .val (.long sq), .second, .val (.ref b1), .val (.ref b5), .val .null, .unset, .unset, .unset, .unset, .unset, .unset, .unset] [(.int p6)])) _
        refine XS.iconst X7.here hx rfl (hb hby at_73) ?_
        show Steps p.tables e below (T7.setTop (mkF m 74 #[.val (.long q0), .second, .val (.long q2), .second, .val (.long q4), .second, .val (.int p6), .val (.int p7), .val (.long sq), .second, .val (.ref b1), .val (.ref b5), .val .null, .unset, .unset, .unset, .unset, .unset, .unset, .unset] [(.int (4 : Int32)), (.int p6)])) _
        refine XS.iand X7.here hx rfl (hb hby at_74) rfl ?_
        show Steps p.tables e below (T7.setTop (mkF m 75 #[.val (.long q0), .second, .val (.long q2), .second, .val (.long q4), .second, .val (.int p6), .val (.int p7), .val (.long sq), .second, .val (.ref b1), .val (.ref b5), .val .null, .unset, .unset, .unset, .unset, .unset, .unset, .unset] [(.int (p6 &&& (4 : Int32)))])) _
        refine XS.ifNo X7.here hx rfl (hb hby at_75) rfl ((if0 _ _).trans (feq c75).1) ?_
        show Steps p.tables e below (T7.setTop (mkF m 78 #[.val (.long q0), .second, .val (.long q2), .second, .val (.long q4), .second, .val (.int p6), .val (.int p7), .val (.long sq), .second, .val (.ref b1), .val (.ref b5), .val .null, .unset, .unset, .unset, .unset, .unset, .unset, .unset] [])) _
        refine XS.aconstNull X7.here hx rfl (hb hby at_78) ?_
        show Steps p.tables e below (T7.setTop (mkF m 79 #[.val (.long q0), .second, .val (.long q2), .second, .val (.long q4), .second, .val (.int p6), .val (.int p7), .val (.long sq), .second, .val (.ref b1), .val (.ref b5), .val .null, .unset, .unset, .unset, .unset, .unset, .unset, .unset] [.null])) _
        refine XS.goto X7.here hx rfl (pc0 := 79) (pc' := 95) rfl (hb hby at_79) (by decide) (by decide) ?_
        show Steps p.tables e below (T7.setTop (mkF m 95 #[.val (.long q0), .second, .val (.long q2), .second, .val (.long q4), .second, .val (.int p6), .val (.int p7), .val (.long sq), .second, .val (.ref b1), .val (.ref b5), .val .null, .unset, .unset, .unset, .unset, .unset, .unset, .unset] [.null])) _
        refine XS.astore X7.here hx rfl (hb hby at_95) rfl rfl (l' := #[.val (.long q0), .second, .val (.long q2), .second, .val (.long q4), .second, .val (.int p6), .val (.int p7), .val (.long sq), .second, .val (.ref b1), .val (.ref b5), .val .null, .val .null, .unset, .unset, .unset, .unset, .unset, .unset]) rfl ?_
        exact k
      obtain ⟨T72, h72, X72, e72, E72, A72, D72, -, st72⟩ := newO X7 hx hZ hown (hw _ (List.mem_of_getElem? (i := 46) rfl)) (hw _ (List.mem_of_getElem? (i := 47) rfl)) (hw _ (List.mem_of_getElem? (i := 48) rfl)) e7 (g := (mkF m 97 #[.val (.long q0), .second, .val (.long q2), .second, .val (.long q4), .second, .val (.int p6), .val (.int p7), .val (.long sq), .second, .val (.ref b1), .val (.ref b5), .val .null, .val .null, .unset, .unset, .unset, .unset, .unset, .unset] [])) rfl (hb hby at_97) (by decide) (by decide)
      obtain ⟨b72, g72⟩ : ∃ z, z = h7.size := ⟨_, rfl⟩
      rw [← g72] at A72 D72 st72
      have ne_b1_b72 : b1 ≠ b72 := Nat.ne_of_lt (Nat.lt_of_lt_of_le E_b1_7.lt (Nat.le_of_eq g72.symm))
      have ne_b5_b72 : b5 ≠ b72 := Nat.ne_of_lt (Nat.lt_of_lt_of_le V7_b5.lt (Nat.le_of_eq g72.symm))
      have g_b72 : n0 ≤ b72 := Nat.le_trans Zs8 (Nat.le_of_eq g72.symm)
      have O_72 := O_7.ext E72
      have E_b1_72 := E_b1_7.ext E72
      have F_b1_seconds_72 := F_b1_seconds_7.ext E72
      have F_b1_settingChange_72 := F_b1_settingChange_7.ext E72
      have V_b5_72 := V7_b5.ext E72
      have Zs73 := Nat.le_trans Zs8 E72.1
      have F_field_b72 : Fld Z h72 b72 "com/example/governor/governor/core/FieldChange" "field" "Ljava/lang/String;" .null := D72 (Or.inr (hw _ (List.mem_of_getElem? (i := 71) rfl))) (ty := (.object "java/lang/String")) (by decide)
      have F_before_b72 : Fld Z h72 b72 "com/example/governor/governor/core/FieldChange" "before" "Ljava/lang/String;" .null := D72 (Or.inr (hw _ (List.mem_of_getElem? (i := 73) rfl))) (ty := (.object "java/lang/String")) (by decide)
      have F_after_b72 : Fld Z h72 b72 "com/example/governor/governor/core/FieldChange" "after" "Ljava/lang/String;" .null := D72 (Or.inr (hw _ (List.mem_of_getElem? (i := 75) rfl))) (ty := (.object "java/lang/String")) (by decide)
      obtain ⟨T74, h74, X74, e74, E74, A74, D74, -, st74⟩ := newO X72 hx hZ hown (hw _ (List.mem_of_getElem? (i := 49) rfl)) (hw _ (List.mem_of_getElem? (i := 32) rfl)) (hw _ (List.mem_of_getElem? (i := 24) rfl)) e72 (g := (mkF m 101 #[.val (.long q0), .second, .val (.long q2), .second, .val (.long q4), .second, .val (.int p6), .val (.int p7), .val (.long sq), .second, .val (.ref b1), .val (.ref b5), .val .null, .val .null, .unset, .unset, .unset, .unset, .unset, .unset] [(.ref b72), (.ref b72)])) rfl (hb hby at_101) (by decide) (by decide)
      obtain ⟨b74, g74⟩ : ∃ z, z = h72.size := ⟨_, rfl⟩
      rw [← g74] at A74 D74 st74
      have ne_b1_b74 : b1 ≠ b74 := Nat.ne_of_lt (Nat.lt_of_lt_of_le E_b1_72.lt (Nat.le_of_eq g74.symm))
      have ne_b5_b74 : b5 ≠ b74 := Nat.ne_of_lt (Nat.lt_of_lt_of_le V_b5_72.lt (Nat.le_of_eq g74.symm))
      have ne_b72_b74 : b72 ≠ b74 := Nat.ne_of_lt (Nat.lt_of_lt_of_le F_field_b72.lt (Nat.le_of_eq g74.symm))
      have g_b74 : n0 ≤ b74 := Nat.le_trans Zs73 (Nat.le_of_eq g74.symm)
      have O_74 := O_72.ext E74
      have E_b1_74 := E_b1_72.ext E74
      have F_b1_seconds_74 := F_b1_seconds_72.ext E74
      have F_b1_settingChange_74 := F_b1_settingChange_72.ext E74
      have V_b5_74 := V_b5_72.ext E74
      have F_b72_field_74 := F_field_b72.ext E74
      have F_b72_before_74 := F_before_b72.ext E74
      have F_b72_after_74 := F_after_b72.ext E74
      have E_b72_74 := A72.ext E74
      have Zs75 := Nat.le_trans Zs73 E74.1
      have F_value_b74 : Fld Z h74 b74 "java/lang/String" "value" "[B" .null := D74 (Or.inr (hw _ (List.mem_of_getElem? (i := 43) rfl))) (ty := (.array .byte)) (by decide)
      have F_coder_b74 : Fld Z h74 b74 "java/lang/String" "coder" "B" (.int (0 : Int32)) := D74 (Or.inr (hw _ (List.mem_of_getElem? (i := 45) rfl))) (ty := .byte) (by decide)
      obtain ⟨_, _, ⟨T76, L76, k76, n76⟩, -, X76, ⟨Lc76, hQ76, l76, y76, z76⟩, st76⟩ := X74.specialBack hx (y := (⟨"java/lang/String", "<init>", "([C)V"⟩ : MethodName)) rfl hown (mvT hZ (hw _ (List.mem_of_getElem? (i := 50) rfl))) (mvT hZ (hw _ (List.mem_of_getElem? (i := 51) rfl))) (mvT hZ (hw _ (List.mem_of_getElem? (i := 52) rfl))) (by decide) (StrChars.Road.backV (W := 3) hZ hws (kI := 4) (hw _ (List.mem_of_getElem? (i := 32) rfl)) (cs := ([nar .char ((p7 &&& (255 : Int32)).toUInt32.toUInt16.toUInt32.toInt32)] : List Int32)) (bs := (([nar .char ((p7 &&& (255 : Int32)).toUInt32.toUInt16.toUInt32.toInt32)] : List Int32)).map (fun c => c.toInt8.toInt32)) (n := 1) g_b74 Zs75 A74 F_value_b74 F_coder_b74 V_b5_74 (O2.ext O_74.2) P5 rfl rfl (by decide) (by decide) hp rfl (by decide) (by decide)) (g := (mkF m 107 #[.val (.long q0), .second, .val (.long q2), .second, .val (.long q4), .second, .val (.int p6), .val (.int p7), .val (.long sq), .second, .val (.ref b1), .val (.ref b5), .val .null, .val .null, .unset, .unset, .unset, .unset, .unset, .unset] [(.ref b5), (.ref b74), (.ref b74), (.ref b72), (.ref b72)])) rfl (by rw [hml]; rfl) (Steps.refl _) (a := b74) (argsL := [(.ref b5)]) (rest := [(.ref b74), (.ref b72), (.ref b72)]) (lenOf pd_5 rfl) rfl (by show 2 * 0 + _ ≤ _; exact Nat.le_of_eq rfl) (hb hby at_107) (fun _ _ => ⟨rfl, e74, (by decide : 4 + 1 ≤ _), (by decide : 14 + 1 ≤ _)⟩)
      dsimp only [Pt.U, Pt.locs, Pt.cells, Pt.slots] at X76 l76 y76 z76 st76 hQ76
      subst l76 y76 z76
      obtain ⟨rfl, N76q, K76q, E76q, Fc76q, ta76, kb76, u176, u276, u376, Fv76q, Vv76q⟩ := hQ76
      have N76 := Fr.app N7 N76q
      have O_76 := O_74.keep K76q (allS g_b74 all0)
      have E_b1_76 := E_b1_74.keep K76q
      have F_b1_seconds_76 := F_b1_seconds_74.keep K76q (ninS ne_b1_b74 nin0)
      have F_b1_settingChange_76 := F_b1_settingChange_74.keep K76q (ninS ne_b1_b74 nin0)
      have V_b5_76 := V_b5_74.keep K76q (ninS ne_b5_b74 nin0)
      have F_b72_field_76 := F_b72_field_74.keep K76q (ninS ne_b72_b74 nin0)
      have F_b72_before_76 := F_b72_before_74.keep K76q (ninS ne_b72_b74 nin0)
      have F_b72_after_76 := F_b72_after_74.keep K76q (ninS ne_b72_b74 nin0)
      have E_b72_76 := E_b72_74.keep K76q
      have E_b74_76 := A74.keep K76q
      have Zs77 := Nat.le_trans Zs75 K76q.1
      obtain ⟨_, _, ⟨T78, L78, k78, n78⟩, -, X78, ⟨Lc78, hQ78, l78, y78, z78⟩, st78⟩ := X76.specialBack hx (y := (⟨"com/example/governor/governor/core/FieldChange", "<init>", "(Ljava/lang/String;Ljava/lang/String;Ljava/lang/String;)V"⟩ : MethodName)) rfl hown (mvT hZ (hw _ (List.mem_of_getElem? (i := 66) rfl))) (mvT hZ (hw _ (List.mem_of_getElem? (i := 67) rfl))) (mvT hZ (hw _ (List.mem_of_getElem? (i := 68) rfl))) (by decide) (backOf (W := 1) (rm12nn l Z a0 hw [] b72 b74 T76.heap n0 Zs77 F_b72_field_76 F_b72_before_76 F_b72_after_76 E_b72_76 g_b72) hZ (hw _ (List.mem_of_getElem? (i := 68) rfl)) (hw _ (List.mem_of_getElem? (i := 48) rfl)) (by decide) (by decide)) (g := (mkF m 114 #[.val (.long q0), .second, .val (.long q2), .second, .val (.long q4), .second, .val (.int p6), .val (.int p7), .val (.long sq), .second, .val (.ref b1), .val (.ref b5), .val .null, .val .null, .unset, .unset, .unset, .unset, .unset, .unset] [.null, .null, (.ref b74), (.ref b72), (.ref b72)])) rfl (by rw [hml]; rfl) (Steps.refl _) (a := b72) (argsL := [(.ref b74), .null, .null]) (rest := [(.ref b72)]) (lenOf pd_6 rfl) rfl (by show 2 * 0 + _ ≤ _; exact Nat.le_of_eq rfl) (hb hby at_114) (fun _ _ => ⟨rfl, rfl, (by decide : 5 + 0 ≤ _), (by decide : 15 + 0 ≤ _)⟩)
      dsimp only [Pt.U, Pt.locs, Pt.cells, Pt.slots] at X78 l78 y78 z78 st78 hQ78
      subst l78 y78 z78
      obtain ⟨rfl, N78q, K78q⟩ := hQ78
      have N78 := Fr.app N76 N78q
      have O_78 := O_76.keep K78q (allS g_b72 all0)
      have E_b1_78 := E_b1_76.keep K78q
      have F_b1_seconds_78 := F_b1_seconds_76.keep K78q (ninS ne_b1_b72 nin0)
      have F_b1_settingChange_78 := F_b1_settingChange_76.keep K78q (ninS ne_b1_b72 nin0)
      have V_b5_78 := V_b5_76.keep K78q (ninS ne_b5_b72 nin0)
      have E_b72_78 := E_b72_76.keep K78q
      have E_b74_78 := E76q.keep K78q
      have Zs79 := Nat.le_trans Zs77 K78q.1
      obtain ⟨T80, h80, X80, e80, E80, A80, D80, -, st80⟩ := newO X78 hx hZ hown (hw _ (List.mem_of_getElem? (i := 0) rfl)) (hw _ (List.mem_of_getElem? (i := 1) rfl)) (hw _ (List.mem_of_getElem? (i := 2) rfl)) rfl (g := (mkF m 119 #[.val (.long q0), .second, .val (.long q2), .second, .val (.long q4), .second, .val (.int p6), .val (.int p7), .val (.long sq), .second, .val (.ref b1), .val (.ref b5), .val .null, .val .null, .val (.ref b72), .unset, .unset, .unset, .unset, .unset] [])) rfl (hb hby at_119) (by decide) (by decide)
      obtain ⟨b80, g80⟩ : ∃ z, z = T78.heap.size := ⟨_, rfl⟩
      rw [← g80] at A80 D80 st80
      have ne_b1_b80 : b1 ≠ b80 := Nat.ne_of_lt (Nat.lt_of_lt_of_le E_b1_78.lt (Nat.le_of_eq g80.symm))
      have ne_b5_b80 : b5 ≠ b80 := Nat.ne_of_lt (Nat.lt_of_lt_of_le V_b5_78.lt (Nat.le_of_eq g80.symm))
      have ne_b72_b80 : b72 ≠ b80 := Nat.ne_of_lt (Nat.lt_of_lt_of_le E_b72_78.lt (Nat.le_of_eq g80.symm))
      have ne_b74_b80 : b74 ≠ b80 := Nat.ne_of_lt (Nat.lt_of_lt_of_le E_b74_78.lt (Nat.le_of_eq g80.symm))
      have g_b80 : n0 ≤ b80 := Nat.le_trans Zs79 (Nat.le_of_eq g80.symm)
      have O_80 := O_78.ext E80
      have E_b1_80 := E_b1_78.ext E80
      have F_b1_seconds_80 := F_b1_seconds_78.ext E80
      have F_b1_settingChange_80 := F_b1_settingChange_78.ext E80
      have V_b5_80 := V_b5_78.ext E80
      have E_b72_80 := E_b72_78.ext E80
      have E_b74_80 := E_b74_78.ext E80
      have Zs81 := Nat.le_trans Zs79 E80.1
      have F_number_b80 : Fld Z h80 b80 "com/example/governor/governor/core/UsageLine" "number" "J" (.long (0 : Int64)) := D80 (Or.inr (hw _ (List.mem_of_getElem? (i := 10) rfl))) (ty := .long) (by decide)
      have F_seconds_b80 : Fld Z h80 b80 "com/example/governor/governor/core/UsageLine" "seconds" "J" (.long (0 : Int64)) := D80 (Or.inr (hw _ (List.mem_of_getElem? (i := 12) rfl))) (ty := .long) (by decide)
      have F_sessions_b80 : Fld Z h80 b80 "com/example/governor/governor/core/UsageLine" "sessions" "J" (.long (0 : Int64)) := D80 (Or.inr (hw _ (List.mem_of_getElem? (i := 14) rfl))) (ty := .long) (by decide)
      have F_vcoresUsed_b80 : Fld Z h80 b80 "com/example/governor/governor/core/UsageLine" "vcoresUsed" "Ljava/math/BigDecimal;" .null := D80 (Or.inr (hw _ (List.mem_of_getElem? (i := 16) rfl))) (ty := (.object "java/math/BigDecimal")) (by decide)
      have F_memoryGbUsed_b80 : Fld Z h80 b80 "com/example/governor/governor/core/UsageLine" "memoryGbUsed" "Ljava/math/BigDecimal;" .null := D80 (Or.inr (hw _ (List.mem_of_getElem? (i := 18) rfl))) (ty := (.object "java/math/BigDecimal")) (by decide)
      have F_settingChange_b80 : Fld Z h80 b80 "com/example/governor/governor/core/UsageLine" "settingChange" "Lcom/example/governor/governor/core/FieldChange;" .null := D80 (Or.inr (hw _ (List.mem_of_getElem? (i := 20) rfl))) (ty := (.object "com/example/governor/governor/core/FieldChange")) (by decide)
      obtain ⟨_, _, ⟨T82, L82, k82, n82⟩, -, X82, ⟨Lc82, hQ82, l82, y82, z82⟩, st82⟩ := X80.specialBack hx (y := (⟨"com/example/governor/governor/core/UsageLine", "<init>", "(JLcom/example/governor/governor/core/FieldChange;)V"⟩ : MethodName)) rfl hown (mvT hZ (hw _ (List.mem_of_getElem? (i := 76) rfl))) (mvT hZ (hw _ (List.mem_of_getElem? (i := 77) rfl))) (mvT hZ (hw _ (List.mem_of_getElem? (i := 78) rfl))) (by decide) (backOf (W := 1) (rm13r l Z a0 hw [] b80 q0 b72 zz h80 n0 Zs81 F_number_b80 F_seconds_b80 F_sessions_b80 F_vcoresUsed_b80 F_memoryGbUsed_b80 F_settingChange_b80 A80 g_b80 (O3.ext O_80.2)) hZ (hw _ (List.mem_of_getElem? (i := 78) rfl)) (hw _ (List.mem_of_getElem? (i := 2) rfl)) (by decide) (by decide)) (g := (mkF m 126 #[.val (.long q0), .second, .val (.long q2), .second, .val (.long q4), .second, .val (.int p6), .val (.int p7), .val (.long sq), .second, .val (.ref b1), .val (.ref b5), .val .null, .val .null, .val (.ref b72), .unset, .unset, .unset, .unset, .unset] [(.ref b72), (.long q0), (.ref b80), (.ref b80)])) rfl (by rw [hml]; rfl) (Steps.refl _) (a := b80) (argsL := [(.long q0), (.ref b72)]) (rest := [(.ref b80)]) (lenOf pd_7 rfl) rfl (by show 2 * 0 + _ ≤ _; exact Nat.le_of_eq rfl) (hb hby at_126) (fun _ _ => ⟨rfl, e80, (by decide : 6 + 0 ≤ _), (by decide : 21 + 0 ≤ _)⟩)
      dsimp only [Pt.U, Pt.locs, Pt.cells, Pt.slots] at X82 l82 y82 z82 st82 hQ82
      subst l82 y82 z82
      obtain ⟨rfl, N82q, K82q, E82q, Fs82q, Fc82q⟩ := hQ82
      have N82 := Fr.app N78 N82q
      have O_82 := O_80.keep K82q (allS g_b80 all0)
      have E_b1_82 := E_b1_80.keep K82q
      have F_b1_seconds_82 := F_b1_seconds_80.keep K82q (ninS ne_b1_b80 nin0)
      have F_b1_settingChange_82 := F_b1_settingChange_80.keep K82q (ninS ne_b1_b80 nin0)
      have V_b5_82 := V_b5_80.keep K82q (ninS ne_b5_b80 nin0)
      have E_b72_82 := E_b72_80.keep K82q
      have E_b74_82 := E_b74_80.keep K82q
      have E_b80_82 := A80.keep K82q
      have Zs83 := Nat.le_trans Zs81 K82q.1
      obtain ⟨T84, h84, X84, e84, E84, A84, D84, -, st84⟩ := newO X82 hx hZ hown (hw _ (List.mem_of_getElem? (i := 0) rfl)) (hw _ (List.mem_of_getElem? (i := 1) rfl)) (hw _ (List.mem_of_getElem? (i := 2) rfl)) rfl (g := (mkF m 131 #[.val (.long q0), .second, .val (.long q2), .second, .val (.long q4), .second, .val (.int p6), .val (.int p7), .val (.long sq), .second, .val (.ref b1), .val (.ref b5), .val .null, .val .null, .val (.ref b72), .val (.ref b80), .unset, .unset, .unset, .unset] [])) rfl (hb hby at_131) (by decide) (by decide)
      obtain ⟨b84, g84⟩ : ∃ z, z = T82.heap.size := ⟨_, rfl⟩
      rw [← g84] at A84 D84 st84
      have ne_b1_b84 : b1 ≠ b84 := Nat.ne_of_lt (Nat.lt_of_lt_of_le E_b1_82.lt (Nat.le_of_eq g84.symm))
      have ne_b5_b84 : b5 ≠ b84 := Nat.ne_of_lt (Nat.lt_of_lt_of_le V_b5_82.lt (Nat.le_of_eq g84.symm))
      have ne_b72_b84 : b72 ≠ b84 := Nat.ne_of_lt (Nat.lt_of_lt_of_le E_b72_82.lt (Nat.le_of_eq g84.symm))
      have ne_b74_b84 : b74 ≠ b84 := Nat.ne_of_lt (Nat.lt_of_lt_of_le E_b74_82.lt (Nat.le_of_eq g84.symm))
      have ne_b80_b84 : b80 ≠ b84 := Nat.ne_of_lt (Nat.lt_of_lt_of_le E82q.lt (Nat.le_of_eq g84.symm))
      have g_b84 : n0 ≤ b84 := Nat.le_trans Zs83 (Nat.le_of_eq g84.symm)
      have O_84 := O_82.ext E84
      have E_b1_84 := E_b1_82.ext E84
      have F_b1_seconds_84 := F_b1_seconds_82.ext E84
      have F_b1_settingChange_84 := F_b1_settingChange_82.ext E84
      have V_b5_84 := V_b5_82.ext E84
      have E_b72_84 := E_b72_82.ext E84
      have E_b74_84 := E_b74_82.ext E84
      have E_b80_84 := E82q.ext E84
      have F_b80_seconds_84 := Fs82q.ext E84
      have F_b80_settingChange_84 := Fc82q.ext E84
      have Zs85 := Nat.le_trans Zs83 E84.1
      have F_number_b84 : Fld Z h84 b84 "com/example/governor/governor/core/UsageLine" "number" "J" (.long (0 : Int64)) := D84 (Or.inr (hw _ (List.mem_of_getElem? (i := 10) rfl))) (ty := .long) (by decide)
      have F_seconds_b84 : Fld Z h84 b84 "com/example/governor/governor/core/UsageLine" "seconds" "J" (.long (0 : Int64)) := D84 (Or.inr (hw _ (List.mem_of_getElem? (i := 12) rfl))) (ty := .long) (by decide)
      have F_sessions_b84 : Fld Z h84 b84 "com/example/governor/governor/core/UsageLine" "sessions" "J" (.long (0 : Int64)) := D84 (Or.inr (hw _ (List.mem_of_getElem? (i := 14) rfl))) (ty := .long) (by decide)
      have F_vcoresUsed_b84 : Fld Z h84 b84 "com/example/governor/governor/core/UsageLine" "vcoresUsed" "Ljava/math/BigDecimal;" .null := D84 (Or.inr (hw _ (List.mem_of_getElem? (i := 16) rfl))) (ty := (.object "java/math/BigDecimal")) (by decide)
      have F_memoryGbUsed_b84 : Fld Z h84 b84 "com/example/governor/governor/core/UsageLine" "memoryGbUsed" "Ljava/math/BigDecimal;" .null := D84 (Or.inr (hw _ (List.mem_of_getElem? (i := 18) rfl))) (ty := (.object "java/math/BigDecimal")) (by decide)
      have F_settingChange_b84 : Fld Z h84 b84 "com/example/governor/governor/core/UsageLine" "settingChange" "Lcom/example/governor/governor/core/FieldChange;" .null := D84 (Or.inr (hw _ (List.mem_of_getElem? (i := 20) rfl))) (ty := (.object "com/example/governor/governor/core/FieldChange")) (by decide)
      obtain ⟨_, _, ⟨T86, L86, k86, n86⟩, -, X86, ⟨Lc86, hQ86, l86, y86, z86⟩, st86⟩ := X84.specialBack hx (y := (⟨"com/example/governor/governor/core/UsageLine", "<init>", "(JLcom/example/governor/governor/core/FieldChange;)V"⟩ : MethodName)) rfl hown (mvT hZ (hw _ (List.mem_of_getElem? (i := 76) rfl))) (mvT hZ (hw _ (List.mem_of_getElem? (i := 77) rfl))) (mvT hZ (hw _ (List.mem_of_getElem? (i := 78) rfl))) (by decide) (backOf (W := 1) (rm13n l Z a0 hw [] b84 q0  zz h84 n0 Zs85 F_number_b84 F_seconds_b84 F_sessions_b84 F_vcoresUsed_b84 F_memoryGbUsed_b84 F_settingChange_b84 A84 g_b84 (O3.ext O_84.2)) hZ (hw _ (List.mem_of_getElem? (i := 78) rfl)) (hw _ (List.mem_of_getElem? (i := 2) rfl)) (by decide) (by decide)) (g := (mkF m 140 #[.val (.long q0), .second, .val (.long q2), .second, .val (.long q4), .second, .val (.int p6), .val (.int p7), .val (.long sq), .second, .val (.ref b1), .val (.ref b5), .val .null, .val .null, .val (.ref b72), .val (.ref b80), .unset, .unset, .unset, .unset] [.null, (.long q0), (.ref b84), (.ref b84)])) rfl (by rw [hml]; rfl) (Steps.refl _) (a := b84) (argsL := [(.long q0), .null]) (rest := [(.ref b84)]) (lenOf pd_7 rfl) rfl (by show 2 * 0 + _ ≤ _; exact Nat.le_of_eq rfl) (hb hby at_140) (fun _ _ => ⟨rfl, e84, (by decide : 7 + 0 ≤ _), (by decide : 27 + 0 ≤ _)⟩)
      dsimp only [Pt.U, Pt.locs, Pt.cells, Pt.slots] at X86 l86 y86 z86 st86 hQ86
      subst l86 y86 z86
      obtain ⟨rfl, N86q, K86q, E86q, Fs86q, Fc86q⟩ := hQ86
      have N86 := Fr.app N82 N86q
      have O_86 := O_84.keep K86q (allS g_b84 all0)
      have E_b1_86 := E_b1_84.keep K86q
      have F_b1_seconds_86 := F_b1_seconds_84.keep K86q (ninS ne_b1_b84 nin0)
      have F_b1_settingChange_86 := F_b1_settingChange_84.keep K86q (ninS ne_b1_b84 nin0)
      have V_b5_86 := V_b5_84.keep K86q (ninS ne_b5_b84 nin0)
      have E_b72_86 := E_b72_84.keep K86q
      have E_b74_86 := E_b74_84.keep K86q
      have E_b80_86 := E_b80_84.keep K86q
      have F_b80_seconds_86 := F_b80_seconds_84.keep K86q (ninS ne_b80_b84 nin0)
      have F_b80_settingChange_86 := F_b80_settingChange_84.keep K86q (ninS ne_b80_b84 nin0)
      have E_b84_86 := A84.keep K86q
      have Zs87 := Nat.le_trans Zs85 K86q.1
      have pre24 : ∀ t, Steps p.tables e below (T86.setTop (mkF m 145 #[.val (.long q0), .second, .val (.long q2), .second, .val (.long q4), .second, .val (.int p6), .val (.int p7), .val (.long sq), .second, .val (.ref b1), .val (.ref b5), .val .null, .val .null, .val (.ref b72), .val (.ref b80), .val (.ref b84), .unset, .unset, .unset] [])) t → Steps p.tables e below (s₁.setTop (entryFrame m #[(.long q0), (.long q2), (.long q4), (.int p6), (.int p7)] maxLocals)) t := by
        intro t k
        refine pre23 t ?_
        show Steps p.tables e below (T7.setTop (mkF m 97 #[.val (.long q0), .second, .val (.long q2), .second, .val (.long q4), .second, .val (.int p6), .val (.int p7), .val (.long sq), .second, .val (.ref b1), .val (.ref b5), .val .null, .val .null, .unset, .unset, .unset, .unset, .unset, .unset] [])) _
        refine st72 _ ?_
        show Steps p.tables e below (T72.setTop (mkF m 100 #[.val (.long q0), .second, .val (.long q2), .second, .val (.long q4), .second, .val (.int p6), .val (.int p7), .val (.long sq), .second, .val (.ref b1), .val (.ref b5), .val .null, .val .null, .unset, .unset, .unset, .unset, .unset, .unset] [(.ref b72)])) _
        refine XS.dup X72.here hx rfl (hb hby at_100) rfl rfl ?_
        show Steps p.tables e below (T72.setTop (mkF m 101 #[.val (.long q0), .second, .val (.long q2), .second, .val (.long q4), .second, .val (.int p6), .val (.int p7), .val (.long sq), .second, .val (.ref b1), .val (.ref b5), .val .null, .val .null, .unset, .unset, .unset, .unset, .unset, .unset] [(.ref b72), (.ref b72)])) _
        refine st74 _ ?_
        show Steps p.tables e below (T74.setTop (mkF m 104 #[.val (.long q0), .second, .val (.long q2), .second, .val (.long q4), .second, .val (.int p6), .val (.int p7), .val (.long sq), .second, .val (.ref b1), .val (.ref b5), .val .null, .val .null, .unset, .unset, .unset, .unset, .unset, .unset] [(.ref b74), (.ref b72), (.ref b72)])) _
        refine XS.dup X74.here hx rfl (hb hby at_104) rfl rfl ?_
        show Steps p.tables e below (T74.setTop (mkF m 105 #[.val (.long q0), .second, .val (.long q2), .second, .val (.long q4), .second, .val (.int p6), .val (.int p7), .val (.long sq), .second, .val (.ref b1), .val (.ref b5), .val .null, .val .null, .unset, .unset, .unset, .unset, .unset, .unset] [(.ref b74), (.ref b74), (.ref b72), (.ref b72)])) _
        refine XS.aload X74.here hx rfl (hb hby at_105) rfl rfl ?_
        show Steps p.tables e below (T74.setTop (mkF m 107 #[.val (.long q0), .second, .val (.long q2), .second, .val (.long q4), .second, .val (.int p6), .val (.int p7), .val (.long sq), .second, .val (.ref b1), .val (.ref b5), .val .null, .val .null, .unset, .unset, .unset, .unset, .unset, .unset] [(.ref b5), (.ref b74), (.ref b74), (.ref b72), (.ref b72)])) _
        refine st76.trans ?_
        show Steps p.tables e below (T76.setTop (mkF m 110 #[.val (.long q0), .second, .val (.long q2), .second, .val (.long q4), .second, .val (.int p6), .val (.int p7), .val (.long sq), .second, .val (.ref b1), .val (.ref b5), .val .null, .val .null, .unset, .unset, .unset, .unset, .unset, .unset] [(.ref b74), (.ref b72), (.ref b72)])) _
        refine XS.aload X76.here hx rfl (hb hby at_110) rfl rfl ?_
        show Steps p.tables e below (T76.setTop (mkF m 112 #[.val (.long q0), .second, .val (.long q2), .second, .val (.long q4), .second, .val (.int p6), .val (.int p7), .val (.long sq), .second, .val (.ref b1), .val (.ref b5), .val .null, .val .null, .unset, .unset, .unset, .unset, .unset, .unset] [.null, (.ref b74), (.ref b72), (.ref b72)])) _
        refine XS.aload X76.here hx rfl (hb hby at_112) rfl rfl ?_
        show Steps p.tables e below (T76.setTop (mkF m 114 #[.val (.long q0), .second, .val (.long q2), .second, .val (.long q4), .second, .val (.int p6), .val (.int p7), .val (.long sq), .second, .val (.ref b1), .val (.ref b5), .val .null, .val .null, .unset, .unset, .unset, .unset, .unset, .unset] [.null, .null, (.ref b74), (.ref b72), (.ref b72)])) _
        refine st78.trans ?_
        show Steps p.tables e below (T78.setTop (mkF m 117 #[.val (.long q0), .second, .val (.long q2), .second, .val (.long q4), .second, .val (.int p6), .val (.int p7), .val (.long sq), .second, .val (.ref b1), .val (.ref b5), .val .null, .val .null, .unset, .unset, .unset, .unset, .unset, .unset] [(.ref b72)])) _
        refine XS.astore X78.here hx rfl (hb hby at_117) rfl rfl (l' := #[.val (.long q0), .second, .val (.long q2), .second, .val (.long q4), .second, .val (.int p6), .val (.int p7), .val (.long sq), .second, .val (.ref b1), .val (.ref b5), .val .null, .val .null, .val (.ref b72), .unset, .unset, .unset, .unset, .unset]) rfl ?_
        show Steps p.tables e below (T78.setTop (mkF m 119 #[.val (.long q0), .second, .val (.long q2), .second, .val (.long q4), .second, .val (.int p6), .val (.int p7), .val (.long sq), .second, .val (.ref b1), .val (.ref b5), .val .null, .val .null, .val (.ref b72), .unset, .unset, .unset, .unset, .unset] [])) _
        refine st80 _ ?_
        show Steps p.tables e below (T80.setTop (mkF m 122 #[.val (.long q0), .second, .val (.long q2), .second, .val (.long q4), .second, .val (.int p6), .val (.int p7), .val (.long sq), .second, .val (.ref b1), .val (.ref b5), .val .null, .val .null, .val (.ref b72), .unset, .unset, .unset, .unset, .unset] [(.ref b80)])) _
        refine XS.dup X80.here hx rfl (hb hby at_122) rfl rfl ?_
        show Steps p.tables e below (T80.setTop (mkF m 123 #[.val (.long q0), .second, .val (.long q2), .second, .val (.long q4), .second, .val (.int p6), .val (.int p7), .val (.long sq), .second, .val (.ref b1), .val (.ref b5), .val .null, .val .null, .val (.ref b72), .unset, .unset, .unset, .unset, .unset] [(.ref b80), (.ref b80)])) _
        refine XS.lloadN X80.here hx rfl (hb hby at_123) rfl ?_
        show Steps p.tables e below (T80.setTop (mkF m 124 #[.val (.long q0), .second, .val (.long q2), .second, .val (.long q4), .second, .val (.int p6), .val (.int p7), .val (.long sq), .second, .val (.ref b1), .val (.ref b5), .val .null, .val .null, .val (.ref b72), .unset, .unset, .unset, .unset, .unset] [(.long q0), (.ref b80), (.ref b80)])) _
        refine XS.aload X80.here hx rfl (hb hby at_124) rfl rfl ?_
        show Steps p.tables e below (T80.setTop (mkF m 126 #[.val (.long q0), .second, .val (.long q2), .second, .val (.long q4), .second, .val (.int p6), .val (.int p7), .val (.long sq), .second, .val (.ref b1), .val (.ref b5), .val .null, .val .null, .val (.ref b72), .unset, .unset, .unset, .unset, .unset] [(.ref b72), (.long q0), (.ref b80), (.ref b80)])) _
        refine st82.trans ?_
        show Steps p.tables e below (T82.setTop (mkF m 129 #[.val (.long q0), .second, .val (.long q2), .second, .val (.long q4), .second, .val (.int p6), .val (.int p7), .val (.long sq), .second, .val (.ref b1), .val (.ref b5), .val .null, .val .null, .val (.ref b72), .unset, .unset, .unset, .unset, .unset] [(.ref b80)])) _
        refine XS.astore X82.here hx rfl (hb hby at_129) rfl rfl (l' := #[.val (.long q0), .second, .val (.long q2), .second, .val (.long q4), .second, .val (.int p6), .val (.int p7), .val (.long sq), .second, .val (.ref b1), .val (.ref b5), .val .null, .val .null, .val (.ref b72), .val (.ref b80), .unset, .unset, .unset, .unset]) rfl ?_
        show Steps p.tables e below (T82.setTop (mkF m 131 #[.val (.long q0), .second, .val (.long q2), .second, .val (.long q4), .second, .val (.int p6), .val (.int p7), .val (.long sq), .second, .val (.ref b1), .val (.ref b5), .val .null, .val .null, .val (.ref b72), .val (.ref b80), .unset, .unset, .unset, .unset] [])) _
        refine st84 _ ?_
        show Steps p.tables e below (T84.setTop (mkF m 134 #[.val (.long q0), .second, .val (.long q2), .second, .val (.long q4), .second, .val (.int p6), .val (.int p7), .val (.long sq), .second, .val (.ref b1), .val (.ref b5), .val .null, .val .null, .val (.ref b72), .val (.ref b80), .unset, .unset, .unset, .unset] [(.ref b84)])) _
        refine XS.dup X84.here hx rfl (hb hby at_134) rfl rfl ?_
        show Steps p.tables e below (T84.setTop (mkF m 135 #[.val (.long q0), .second, .val (.long q2), .second, .val (.long q4), .second, .val (.int p6), .val (.int p7), .val (.long sq), .second, .val (.ref b1), .val (.ref b5), .val .null, .val .null, .val (.ref b72), .val (.ref b80), .unset, .unset, .unset, .unset] [(.ref b84), (.ref b84)])) _
        refine XS.lloadN X84.here hx rfl (hb hby at_135) rfl ?_
        show Steps p.tables e below (T84.setTop (mkF m 136 #[.val (.long q0), .second, .val (.long q2), .second, .val (.long q4), .second, .val (.int p6), .val (.int p7), .val (.long sq), .second, .val (.ref b1), .val (.ref b5), .val .null, .val .null, .val (.ref b72), .val (.ref b80), .unset, .unset, .unset, .unset] [(.long q0), (.ref b84), (.ref b84)])) _
        refine XS.aconstNull X84.here hx rfl (hb hby at_136) ?_
        show Steps p.tables e below (T84.setTop (mkF m 137 #[.val (.long q0), .second, .val (.long q2), .second, .val (.long q4), .second, .val (.int p6), .val (.int p7), .val (.long sq), .second, .val (.ref b1), .val (.ref b5), .val .null, .val .null, .val (.ref b72), .val (.ref b80), .unset, .unset, .unset, .unset] [.null, (.long q0), (.ref b84), (.ref b84)])) _
        refine X84.checkcastNull hx (g := (mkF m 137 #[.val (.long q0), .second, .val (.long q2), .second, .val (.long q4), .second, .val (.int p6), .val (.int p7), .val (.long sq), .second, .val (.ref b1), .val (.ref b5), .val .null, .val .null, .val (.ref b72), .val (.ref b80), .unset, .unset, .unset, .unset] [.null, (.long q0), (.ref b84), (.ref b84)])) rfl rfl (hb hby at_137) _ ?_
        show Steps p.tables e below (T84.setTop (mkF m 140 #[.val (.long q0), .second, .val (.long q2), .second, .val (.long q4), .second, .val (.int p6), .val (.int p7), .val (.long sq), .second, .val (.ref b1), .val (.ref b5), .val .null, .val .null, .val (.ref b72), .val (.ref b80), .unset, .unset, .unset, .unset] [.null, (.long q0), (.ref b84), (.ref b84)])) _
        refine st86.trans ?_
        show Steps p.tables e below (T86.setTop (mkF m 143 #[.val (.long q0), .second, .val (.long q2), .second, .val (.long q4), .second, .val (.int p6), .val (.int p7), .val (.long sq), .second, .val (.ref b1), .val (.ref b5), .val .null, .val .null, .val (.ref b72), .val (.ref b80), .unset, .unset, .unset, .unset] [(.ref b84)])) _
        refine XS.astore X86.here hx rfl (hb hby at_143) rfl rfl (l' := #[.val (.long q0), .second, .val (.long q2), .second, .val (.long q4), .second, .val (.int p6), .val (.int p7), .val (.long sq), .second, .val (.ref b1), .val (.ref b5), .val .null, .val .null, .val (.ref b72), .val (.ref b80), .val (.ref b84), .unset, .unset, .unset]) rfl ?_
        exact k
      obtain ⟨cq88, kq88, q88a, q88b, q88c⟩ := isOf hZ rfl E_b1_86
      obtain ⟨_, _, ⟨T88, L88, k88, n88⟩, -, X88, ⟨Lc88, hQ88, l88, y88, z88⟩, st88⟩ := X86.virtualBack hx (y := (⟨"com/example/governor/governor/core/UsageLine", "marksPaused", "()Z"⟩ : MethodName)) (z := (⟨"com/example/governor/governor/core/UsageLine", "marksPaused", "()Z"⟩ : MethodName)) hown (mvT hZ (hw _ (List.mem_of_getElem? (i := 81) rfl))) (mvT hZ (hw _ (List.mem_of_getElem? (i := 82) rfl))) (notFace_of_selects (args := #[]) (mvT hZ (hw _ (List.mem_of_getElem? (i := 84) rfl)))) (mvT hZ (hw _ (List.mem_of_getElem? (i := 84) rfl))) (mvT hZ (hw _ (List.mem_of_getElem? (i := 83) rfl))) (by decide) (backOf (W := 0) (rm14n l Z a0 hw [] b1 sq T86.heap n0 Zs87 F_b1_seconds_86 F_b1_settingChange_86) hZ (hw _ (List.mem_of_getElem? (i := 85) rfl)) (hw _ (List.mem_of_getElem? (i := 2) rfl)) (by decide) (by decide)) q88a q88c (g := (mkF m 147 #[.val (.long q0), .second, .val (.long q2), .second, .val (.long q4), .second, .val (.int p6), .val (.int p7), .val (.long sq), .second, .val (.ref b1), .val (.ref b5), .val .null, .val .null, .val (.ref b72), .val (.ref b80), .val (.ref b84), .unset, .unset, .unset] [(.ref b1)])) rfl (by rw [hml]; rfl) (Steps.refl _) (argsL := []) (rest := []) (lenOf pd_8 rfl) rfl (by show 2 * 0 + _ ≤ _; exact Nat.le_of_eq rfl) (hb hby at_147) (fun _ _ => ⟨rfl, rfl, (by decide : 7 + 0 ≤ _), (by decide : 27 + 0 ≤ _)⟩)
      dsimp only [Pt.U, Pt.locs, Pt.cells, Pt.slots] at X88 l88 y88 z88 st88 hQ88
      subst l88 y88 z88
      obtain ⟨rfl, N88q, e88q⟩ := hQ88
      have N88 := Fr.app N86 N88q
      have pre25 : ∀ t, Steps p.tables e below (T88.setTop (mkF m 154 #[.val (.long q0), .second, .val (.long q2), .second, .val (.long q4), .second, .val (.int p6), .val (.int p7), .val (.long sq), .second, .val (.ref b1), .val (.ref b5), .val .null, .val .null, .val (.ref b72), .val (.ref b80), .val (.ref b84), .unset, .unset, .unset] [(.int (lcmpW sq (0 : Int64))), (.int (own_zl sq))])) t → Steps p.tables e below (s₁.setTop (entryFrame m #[(.long q0), (.long q2), (.long q4), (.int p6), (.int p7)] maxLocals)) t := by
        intro t k
        refine pre24 t ?_
        show Steps p.tables e below (T86.setTop (mkF m 145 #[.val (.long q0), .second, .val (.long q2), .second, .val (.long q4), .second, .val (.int p6), .val (.int p7), .val (.long sq), .second, .val (.ref b1), .val (.ref b5), .val .null, .val .null, .val (.ref b72), .val (.ref b80), .val (.ref b84), .unset, .unset, .unset] [])) _
        refine XS.aload X86.here hx rfl (hb hby at_145) rfl rfl ?_
        show Steps p.tables e below (T86.setTop (mkF m 147 #[.val (.long q0), .second, .val (.long q2), .second, .val (.long q4), .second, .val (.int p6), .val (.int p7), .val (.long sq), .second, .val (.ref b1), .val (.ref b5), .val .null, .val .null, .val (.ref b72), .val (.ref b80), .val (.ref b84), .unset, .unset, .unset] [(.ref b1)])) _
        refine st88.trans ?_
        show Steps p.tables e below (T88.setTop (mkF m 150 #[.val (.long q0), .second, .val (.long q2), .second, .val (.long q4), .second, .val (.int p6), .val (.int p7), .val (.long sq), .second, .val (.ref b1), .val (.ref b5), .val .null, .val .null, .val (.ref b72), .val (.ref b80), .val (.ref b84), .unset, .unset, .unset] [(.int (own_zl sq))])) _
        refine XS.lload X88.here hx rfl (hb hby at_150) rfl ?_
        show Steps p.tables e below (T88.setTop (mkF m 152 #[.val (.long q0), .second, .val (.long q2), .second, .val (.long q4), .second, .val (.int p6), .val (.int p7), .val (.long sq), .second, .val (.ref b1), .val (.ref b5), .val .null, .val .null, .val (.ref b72), .val (.ref b80), .val (.ref b84), .unset, .unset, .unset] [(.long sq), (.int (own_zl sq))])) _
        refine XS.lconst X88.here hx rfl (hb hby at_152) ?_
        show Steps p.tables e below (T88.setTop (mkF m 153 #[.val (.long q0), .second, .val (.long q2), .second, .val (.long q4), .second, .val (.int p6), .val (.int p7), .val (.long sq), .second, .val (.ref b1), .val (.ref b5), .val .null, .val .null, .val (.ref b72), .val (.ref b80), .val (.ref b84), .unset, .unset, .unset] [(.long (0 : Int64)), (.long sq), (.int (own_zl sq))])) _
        refine XS.lcmp X88.here hx rfl (hb hby at_153) rfl ?_
        exact k
      obtain ⟨z1, hm26, pre26⟩ : ∃ (z1 : Int32), (z1 = own_zl sq) ∧ ∀ t, Steps p.tables e below (T88.setTop (mkF m 162 #[.val (.long q0), .second, .val (.long q2), .second, .val (.long q4), .second, .val (.int p6), .val (.int p7), .val (.long sq), .second, .val (.ref b1), .val (.ref b5), .val .null, .val .null, .val (.ref b72), .val (.ref b80), .val (.ref b84), .unset, .unset, .unset] [(.int z1), (.int (own_zl sq))])) t → Steps p.tables e below (s₁.setTop (entryFrame m #[(.long q0), (.long q2), (.long q4), (.int p6), (.int p7)] maxLocals)) t := by
        by_cases c154 : lcmpW sq (0 : Int64) = 0
        · refine ⟨((1 : Int32)), (by unfold own_zl; rw [if_pos c154]), fun t k => pre25 t ?_⟩
          show Steps p.tables e below (T88.setTop (mkF m 154 #[.val (.long q0), .second, .val (.long q2), .second, .val (.long q4), .second, .val (.int p6), .val (.int p7), .val (.long sq), .second, .val (.ref b1), .val (.ref b5), .val .null, .val .null, .val (.ref b72), .val (.ref b80), .val (.ref b84), .unset, .unset, .unset] [(.int (lcmpW sq (0 : Int64))), (.int (own_zl sq))])) _
          refine XS.ifNo X88.here hx rfl (hb hby at_154) rfl ((if0 _ _).trans (teq c154).2) ?_
          show Steps p.tables e below (T88.setTop (mkF m 157 #[.val (.long q0), .second, .val (.long q2), .second, .val (.long q4), .second, .val (.int p6), .val (.int p7), .val (.long sq), .second, .val (.ref b1), .val (.ref b5), .val .null, .val .null, .val (.ref b72), .val (.ref b80), .val (.ref b84), .unset, .unset, .unset] [(.int (own_zl sq))])) _
          refine XS.iconst X88.here hx rfl (hb hby at_157) ?_
          show Steps p.tables e below (T88.setTop (mkF m 158 #[.val (.long q0), .second, .val (.long q2), .second, .val (.long q4), .second, .val (.int p6), .val (.int p7), .val (.long sq), .second, .val (.ref b1), .val (.ref b5), .val .null, .val .null, .val (.ref b72), .val (.ref b80), .val (.ref b84), .unset, .unset, .unset] [(.int (1 : Int32)), (.int (own_zl sq))])) _
          refine XS.goto X88.here hx rfl (pc0 := 158) (pc' := 162) rfl (hb hby at_158) (by decide) (by decide) ?_
          exact k
        · refine ⟨((0 : Int32)), (by unfold own_zl; rw [if_neg c154]), fun t k => pre25 t ?_⟩
          show Steps p.tables e below (T88.setTop (mkF m 154 #[.val (.long q0), .second, .val (.long q2), .second, .val (.long q4), .second, .val (.int p6), .val (.int p7), .val (.long sq), .second, .val (.ref b1), .val (.ref b5), .val .null, .val .null, .val (.ref b72), .val (.ref b80), .val (.ref b84), .unset, .unset, .unset] [(.int (lcmpW sq (0 : Int64))), (.int (own_zl sq))])) _
          refine XS.ifYes X88.here hx rfl (pc0 := 154) (pc' := 161) rfl (hb hby at_154) rfl ((if0 _ _).trans (feq c154).2) (by decide) (by decide) ?_
          show Steps p.tables e below (T88.setTop (mkF m 161 #[.val (.long q0), .second, .val (.long q2), .second, .val (.long q4), .second, .val (.int p6), .val (.int p7), .val (.long sq), .second, .val (.ref b1), .val (.ref b5), .val .null, .val .null, .val (.ref b72), .val (.ref b80), .val (.ref b84), .unset, .unset, .unset] [(.int (own_zl sq))])) _
          refine XS.iconst X88.here hx rfl (hb hby at_161) ?_
          exact k
      subst hm26
      obtain ⟨cq89, kq89, q89a, q89b, q89c⟩ := isOf hZ e88q E_b80_86
      obtain ⟨_, _, ⟨T89, L89, k89, n89⟩, -, X89, ⟨Lc89, hQ89, l89, y89, z89⟩, st89⟩ := X88.virtualBack hx (y := (⟨"com/example/governor/governor/core/UsageLine", "marksPaused", "()Z"⟩ : MethodName)) (z := (⟨"com/example/governor/governor/core/UsageLine", "marksPaused", "()Z"⟩ : MethodName)) hown (mvT hZ (hw _ (List.mem_of_getElem? (i := 81) rfl))) (mvT hZ (hw _ (List.mem_of_getElem? (i := 82) rfl))) (notFace_of_selects (args := #[]) (mvT hZ (hw _ (List.mem_of_getElem? (i := 84) rfl)))) (mvT hZ (hw _ (List.mem_of_getElem? (i := 84) rfl))) (mvT hZ (hw _ (List.mem_of_getElem? (i := 83) rfl))) (by decide) (backOf (W := 0) (rm14r l Z a0 hw [] b80 (0 : Int64) b72 T86.heap n0 Zs87 F_b80_seconds_86 F_b80_settingChange_86) hZ (hw _ (List.mem_of_getElem? (i := 85) rfl)) (hw _ (List.mem_of_getElem? (i := 2) rfl)) (by decide) (by decide)) q89a q89c (g := (mkF m 174 #[.val (.long q0), .second, .val (.long q2), .second, .val (.long q4), .second, .val (.int p6), .val (.int p7), .val (.long sq), .second, .val (.ref b1), .val (.ref b5), .val .null, .val .null, .val (.ref b72), .val (.ref b80), .val (.ref b84), .val (.int (1 : Int32)), .unset, .unset] [(.ref b80)])) rfl (by rw [hml]; rfl) (Steps.refl _) (argsL := []) (rest := []) (lenOf pd_8 rfl) rfl (by show 2 * 0 + _ ≤ _; exact Nat.le_of_eq rfl) (hb hby at_174) (fun _ _ => ⟨rfl, e88q, (by decide : 7 + 0 ≤ _), (by decide : 27 + 0 ≤ _)⟩)
      dsimp only [Pt.U, Pt.locs, Pt.cells, Pt.slots] at X89 l89 y89 z89 st89 hQ89
      subst l89 y89 z89
      obtain ⟨rfl, N89q, e89q⟩ := hQ89
      have N89 := Fr.app N88 N89q
      have pre27 : ∀ t, Steps p.tables e below (T89.setTop (mkF m 187 #[.val (.long q0), .second, .val (.long q2), .second, .val (.long q4), .second, .val (.int p6), .val (.int p7), .val (.long sq), .second, .val (.ref b1), .val (.ref b5), .val .null, .val .null, .val (.ref b72), .val (.ref b80), .val (.ref b84), .val (.int (1 : Int32)), .val (.int (1 : Int32)), .unset] [])) t → Steps p.tables e below (s₁.setTop (entryFrame m #[(.long q0), (.long q2), (.long q4), (.int p6), (.int p7)] maxLocals)) t := by
        intro t k
        refine pre26 t ?_
        show Steps p.tables e below (T88.setTop (mkF m 162 #[.val (.long q0), .second, .val (.long q2), .second, .val (.long q4), .second, .val (.int p6), .val (.int p7), .val (.long sq), .second, .val (.ref b1), .val (.ref b5), .val .null, .val .null, .val (.ref b72), .val (.ref b80), .val (.ref b84), .unset, .unset, .unset] [(.int (own_zl sq)), (.int (own_zl sq))])) _
        refine XS.icmpNo X88.here hx rfl (hb hby at_162) rfl (teq (rfl : own_zl sq = own_zl sq)).2 ?_
        show Steps p.tables e below (T88.setTop (mkF m 165 #[.val (.long q0), .second, .val (.long q2), .second, .val (.long q4), .second, .val (.int p6), .val (.int p7), .val (.long sq), .second, .val (.ref b1), .val (.ref b5), .val .null, .val .null, .val (.ref b72), .val (.ref b80), .val (.ref b84), .unset, .unset, .unset] [])) _
        refine XS.iconst X88.here hx rfl (hb hby at_165) ?_
        show Steps p.tables e below (T88.setTop (mkF m 166 #[.val (.long q0), .second, .val (.long q2), .second, .val (.long q4), .second, .val (.int p6), .val (.int p7), .val (.long sq), .second, .val (.ref b1), .val (.ref b5), .val .null, .val .null, .val (.ref b72), .val (.ref b80), .val (.ref b84), .unset, .unset, .unset] [(.int (1 : Int32))])) _
        refine XS.goto X88.here hx rfl (pc0 := 166) (pc' := 170) rfl (hb hby at_166) (by decide) (by decide) ?_
        show Steps p.tables e below (T88.setTop (mkF m 170 #[.val (.long q0), .second, .val (.long q2), .second, .val (.long q4), .second, .val (.int p6), .val (.int p7), .val (.long sq), .second, .val (.ref b1), .val (.ref b5), .val .null, .val .null, .val (.ref b72), .val (.ref b80), .val (.ref b84), .unset, .unset, .unset] [(.int (1 : Int32))])) _
        refine XS.istore X88.here hx rfl (hb hby at_170) rfl (l' := #[.val (.long q0), .second, .val (.long q2), .second, .val (.long q4), .second, .val (.int p6), .val (.int p7), .val (.long sq), .second, .val (.ref b1), .val (.ref b5), .val .null, .val .null, .val (.ref b72), .val (.ref b80), .val (.ref b84), .val (.int (1 : Int32)), .unset, .unset]) rfl ?_
        show Steps p.tables e below (T88.setTop (mkF m 172 #[.val (.long q0), .second, .val (.long q2), .second, .val (.long q4), .second, .val (.int p6), .val (.int p7), .val (.long sq), .second, .val (.ref b1), .val (.ref b5), .val .null, .val .null, .val (.ref b72), .val (.ref b80), .val (.ref b84), .val (.int (1 : Int32)), .unset, .unset] [])) _
        refine XS.aload X88.here hx rfl (hb hby at_172) rfl rfl ?_
        show Steps p.tables e below (T88.setTop (mkF m 174 #[.val (.long q0), .second, .val (.long q2), .second, .val (.long q4), .second, .val (.int p6), .val (.int p7), .val (.long sq), .second, .val (.ref b1), .val (.ref b5), .val .null, .val .null, .val (.ref b72), .val (.ref b80), .val (.ref b84), .val (.int (1 : Int32)), .unset, .unset] [(.ref b80)])) _
        refine st89.trans ?_
        show Steps p.tables e below (T89.setTop (mkF m 177 #[.val (.long q0), .second, .val (.long q2), .second, .val (.long q4), .second, .val (.int p6), .val (.int p7), .val (.long sq), .second, .val (.ref b1), .val (.ref b5), .val .null, .val .null, .val (.ref b72), .val (.ref b80), .val (.ref b84), .val (.int (1 : Int32)), .unset, .unset] [(.int (0 : Int32))])) _
        refine XS.ifNo X89.here hx rfl (hb hby at_177) rfl ((if0 _ _).trans (teq (rfl : (0 : Int32) = (0 : Int32))).2) ?_
        show Steps p.tables e below (T89.setTop (mkF m 180 #[.val (.long q0), .second, .val (.long q2), .second, .val (.long q4), .second, .val (.int p6), .val (.int p7), .val (.long sq), .second, .val (.ref b1), .val (.ref b5), .val .null, .val .null, .val (.ref b72), .val (.ref b80), .val (.ref b84), .val (.int (1 : Int32)), .unset, .unset] [])) _
        refine XS.iconst X89.here hx rfl (hb hby at_180) ?_
        show Steps p.tables e below (T89.setTop (mkF m 181 #[.val (.long q0), .second, .val (.long q2), .second, .val (.long q4), .second, .val (.int p6), .val (.int p7), .val (.long sq), .second, .val (.ref b1), .val (.ref b5), .val .null, .val .null, .val (.ref b72), .val (.ref b80), .val (.ref b84), .val (.int (1 : Int32)), .unset, .unset] [(.int (1 : Int32))])) _
        refine XS.goto X89.here hx rfl (pc0 := 181) (pc' := 185) rfl (hb hby at_181) (by decide) (by decide) ?_
        show Steps p.tables e below (T89.setTop (mkF m 185 #[.val (.long q0), .second, .val (.long q2), .second, .val (.long q4), .second, .val (.int p6), .val (.int p7), .val (.long sq), .second, .val (.ref b1), .val (.ref b5), .val .null, .val .null, .val (.ref b72), .val (.ref b80), .val (.ref b84), .val (.int (1 : Int32)), .unset, .unset] [(.int (1 : Int32))])) _
        refine XS.istore X89.here hx rfl (hb hby at_185) rfl (l' := #[.val (.long q0), .second, .val (.long q2), .second, .val (.long q4), .second, .val (.int p6), .val (.int p7), .val (.long sq), .second, .val (.ref b1), .val (.ref b5), .val .null, .val .null, .val (.ref b72), .val (.ref b80), .val (.ref b84), .val (.int (1 : Int32)), .val (.int (1 : Int32)), .unset]) rfl ?_
        exact k
      obtain ⟨cq90, kq90, q90a, q90b, q90c⟩ := isOf hZ e89q E86q
      obtain ⟨_, _, ⟨T90, L90, k90, n90⟩, -, X90, ⟨Lc90, hQ90, l90, y90, z90⟩, st90⟩ := X89.virtualBack hx (y := (⟨"com/example/governor/governor/core/UsageLine", "marksPaused", "()Z"⟩ : MethodName)) (z := (⟨"com/example/governor/governor/core/UsageLine", "marksPaused", "()Z"⟩ : MethodName)) hown (mvT hZ (hw _ (List.mem_of_getElem? (i := 81) rfl))) (mvT hZ (hw _ (List.mem_of_getElem? (i := 82) rfl))) (notFace_of_selects (args := #[]) (mvT hZ (hw _ (List.mem_of_getElem? (i := 84) rfl)))) (mvT hZ (hw _ (List.mem_of_getElem? (i := 84) rfl))) (mvT hZ (hw _ (List.mem_of_getElem? (i := 83) rfl))) (by decide) (backOf (W := 0) (rm14n l Z a0 hw [] b84 (0 : Int64) T86.heap n0 Zs87 Fs86q Fc86q) hZ (hw _ (List.mem_of_getElem? (i := 85) rfl)) (hw _ (List.mem_of_getElem? (i := 2) rfl)) (by decide) (by decide)) q90a q90c (g := (mkF m 189 #[.val (.long q0), .second, .val (.long q2), .second, .val (.long q4), .second, .val (.int p6), .val (.int p7), .val (.long sq), .second, .val (.ref b1), .val (.ref b5), .val .null, .val .null, .val (.ref b72), .val (.ref b80), .val (.ref b84), .val (.int (1 : Int32)), .val (.int (1 : Int32)), .unset] [(.ref b84)])) rfl (by rw [hml]; rfl) (Steps.refl _) (argsL := []) (rest := []) (lenOf pd_8 rfl) rfl (by show 2 * 0 + _ ≤ _; exact Nat.le_of_eq rfl) (hb hby at_189) (fun _ _ => ⟨rfl, e89q, (by decide : 7 + 0 ≤ _), (by decide : 27 + 0 ≤ _)⟩)
      dsimp only [Pt.U, Pt.locs, Pt.cells, Pt.slots] at X90 l90 y90 z90 st90 hQ90
      subst l90 y90 z90
      obtain ⟨rfl, N90q, e90q⟩ := hQ90
      have N90 := Fr.app N89 N90q
      have pre28 : ∀ t, Steps p.tables e below (T90.setTop (mkF m 194 #[.val (.long q0), .second, .val (.long q2), .second, .val (.long q4), .second, .val (.int p6), .val (.int p7), .val (.long sq), .second, .val (.ref b1), .val (.ref b5), .val .null, .val .null, .val (.ref b72), .val (.ref b80), .val (.ref b84), .val (.int (1 : Int32)), .val (.int (1 : Int32)), .val (.int (own_zl (0 : Int64)))] [])) t → Steps p.tables e below (s₁.setTop (entryFrame m #[(.long q0), (.long q2), (.long q4), (.int p6), (.int p7)] maxLocals)) t := by
        intro t k
        refine pre27 t ?_
        show Steps p.tables e below (T89.setTop (mkF m 187 #[.val (.long q0), .second, .val (.long q2), .second, .val (.long q4), .second, .val (.int p6), .val (.int p7), .val (.long sq), .second, .val (.ref b1), .val (.ref b5), .val .null, .val .null, .val (.ref b72), .val (.ref b80), .val (.ref b84), .val (.int (1 : Int32)), .val (.int (1 : Int32)), .unset] [])) _
        refine XS.aload X89.here hx rfl (hb hby at_187) rfl rfl ?_
        show Steps p.tables e below (T89.setTop (mkF m 189 #[.val (.long q0), .second, .val (.long q2), .second, .val (.long q4), .second, .val (.int p6), .val (.int p7), .val (.long sq), .second, .val (.ref b1), .val (.ref b5), .val .null, .val .null, .val (.ref b72), .val (.ref b80), .val (.ref b84), .val (.int (1 : Int32)), .val (.int (1 : Int32)), .unset] [(.ref b84)])) _
        refine st90.trans ?_
        show Steps p.tables e below (T90.setTop (mkF m 192 #[.val (.long q0), .second, .val (.long q2), .second, .val (.long q4), .second, .val (.int p6), .val (.int p7), .val (.long sq), .second, .val (.ref b1), .val (.ref b5), .val .null, .val .null, .val (.ref b72), .val (.ref b80), .val (.ref b84), .val (.int (1 : Int32)), .val (.int (1 : Int32)), .unset] [(.int (own_zl (0 : Int64)))])) _
        refine XS.istore X90.here hx rfl (hb hby at_192) rfl (l' := #[.val (.long q0), .second, .val (.long q2), .second, .val (.long q4), .second, .val (.int p6), .val (.int p7), .val (.long sq), .second, .val (.ref b1), .val (.ref b5), .val .null, .val .null, .val (.ref b72), .val (.ref b80), .val (.ref b84), .val (.int (1 : Int32)), .val (.int (1 : Int32)), .val (.int (own_zl (0 : Int64)))]) rfl ?_
        exact k
      obtain ⟨fs, hr, hrun, hended, hW, hsame⟩ := X90.leave (v := some (.int (1 : Int32))) (fun h => by rw [Bd.returns] at h; cases h)
      refine ⟨_, _, pre28 _ ?_, hrun, hended, _, _, rfl, ?_, ⟨_, rfl⟩, hW, hsame.mono (by decide) (by decide)⟩
      · show Steps p.tables e below (T90.setTop (mkF m 194 #[.val (.long q0), .second, .val (.long q2), .second, .val (.long q4), .second, .val (.int p6), .val (.int p7), .val (.long sq), .second, .val (.ref b1), .val (.ref b5), .val .null, .val .null, .val (.ref b72), .val (.ref b80), .val (.ref b84), .val (.int (1 : Int32)), .val (.int (1 : Int32)), .val (.int (own_zl (0 : Int64)))] [])) _
        refine XS.iload X90.here hx rfl (hb hby at_194) rfl ?_
        show Steps p.tables e below (T90.setTop (mkF m 196 #[.val (.long q0), .second, .val (.long q2), .second, .val (.long q4), .second, .val (.int p6), .val (.int p7), .val (.long sq), .second, .val (.ref b1), .val (.ref b5), .val .null, .val .null, .val (.ref b72), .val (.ref b80), .val (.ref b84), .val (.int (1 : Int32)), .val (.int (1 : Int32)), .val (.int (own_zl (0 : Int64)))] [(.int (1 : Int32))])) _
        refine XS.ifNo X90.here hx rfl (hb hby at_196) rfl ((if0 _ _).trans (feq (by decide : ¬ ((1 : Int32) = (0 : Int32)))).1) ?_
        show Steps p.tables e below (T90.setTop (mkF m 199 #[.val (.long q0), .second, .val (.long q2), .second, .val (.long q4), .second, .val (.int p6), .val (.int p7), .val (.long sq), .second, .val (.ref b1), .val (.ref b5), .val .null, .val .null, .val (.ref b72), .val (.ref b80), .val (.ref b84), .val (.int (1 : Int32)), .val (.int (1 : Int32)), .val (.int (own_zl (0 : Int64)))] [])) _
        refine XS.iload X90.here hx rfl (hb hby at_199) rfl ?_
        show Steps p.tables e below (T90.setTop (mkF m 201 #[.val (.long q0), .second, .val (.long q2), .second, .val (.long q4), .second, .val (.int p6), .val (.int p7), .val (.long sq), .second, .val (.ref b1), .val (.ref b5), .val .null, .val .null, .val (.ref b72), .val (.ref b80), .val (.ref b84), .val (.int (1 : Int32)), .val (.int (1 : Int32)), .val (.int (own_zl (0 : Int64)))] [(.int (1 : Int32))])) _
        refine XS.ifNo X90.here hx rfl (hb hby at_201) rfl ((if0 _ _).trans (feq (by decide : ¬ ((1 : Int32) = (0 : Int32)))).1) ?_
        show Steps p.tables e below (T90.setTop (mkF m 204 #[.val (.long q0), .second, .val (.long q2), .second, .val (.long q4), .second, .val (.int p6), .val (.int p7), .val (.long sq), .second, .val (.ref b1), .val (.ref b5), .val .null, .val .null, .val (.ref b72), .val (.ref b80), .val (.ref b84), .val (.int (1 : Int32)), .val (.int (1 : Int32)), .val (.int (own_zl (0 : Int64)))] [])) _
        refine XS.iload X90.here hx rfl (hb hby at_204) rfl ?_
        show Steps p.tables e below (T90.setTop (mkF m 206 #[.val (.long q0), .second, .val (.long q2), .second, .val (.long q4), .second, .val (.int p6), .val (.int p7), .val (.long sq), .second, .val (.ref b1), .val (.ref b5), .val .null, .val .null, .val (.ref b72), .val (.ref b80), .val (.ref b84), .val (.int (1 : Int32)), .val (.int (1 : Int32)), .val (.int (own_zl (0 : Int64)))] [(.int (own_zl (0 : Int64)))])) _
        refine XS.ifNo X90.here hx rfl (hb hby at_206) rfl ((if0 _ _).trans (feq (by decide : ¬ (own_zl (0 : Int64) = 0))).1) ?_
        show Steps p.tables e below (T90.setTop (mkF m 209 #[.val (.long q0), .second, .val (.long q2), .second, .val (.long q4), .second, .val (.int p6), .val (.int p7), .val (.long sq), .second, .val (.ref b1), .val (.ref b5), .val .null, .val .null, .val (.ref b72), .val (.ref b80), .val (.ref b84), .val (.int (1 : Int32)), .val (.int (1 : Int32)), .val (.int (own_zl (0 : Int64)))] [])) _
        refine XS.iconst X90.here hx rfl (hb hby at_209) ?_
        show Steps p.tables e below (T90.setTop (mkF m 210 #[.val (.long q0), .second, .val (.long q2), .second, .val (.long q4), .second, .val (.int p6), .val (.int p7), .val (.long sq), .second, .val (.ref b1), .val (.ref b5), .val .null, .val .null, .val (.ref b72), .val (.ref b80), .val (.ref b84), .val (.int (1 : Int32)), .val (.int (1 : Int32)), .val (.int (own_zl (0 : Int64)))] [(.int (1 : Int32))])) _
        refine XS.goto X90.here hx rfl (pc0 := 210) (pc' := 214) rfl (hb hby at_210) (by decide) (by decide) ?_
        show Steps p.tables e below (T90.setTop (mkF m 214 #[.val (.long q0), .second, .val (.long q2), .second, .val (.long q4), .second, .val (.int p6), .val (.int p7), .val (.long sq), .second, .val (.ref b1), .val (.ref b5), .val .null, .val .null, .val (.ref b72), .val (.ref b80), .val (.ref b84), .val (.int (1 : Int32)), .val (.int (1 : Int32)), .val (.int (own_zl (0 : Int64)))] [(.int (1 : Int32))])) _
        exact retN X90 hx (t := .boolean) Bd.returns (by simp) (hb hby at_214) hr
      · show Q0 Z q0 q2 q4 p6 p7 G1 zz h0 n0 _ T90.heap _
        rw [e90q]
        exact ⟨rfl, N90⟩
set_option maxRecDepth 65536 in
set_option maxHeartbeats 40000000 in
theorem comes_1 {Post : Tables → Env → Array Value → State → Outcome → State → Prop} (hpost : ∀ tb e args s v u, (limb_1_1.after args s (.returned v) u = true ∧ limb_1_2.after args s (.returned v) u = true ∧ True) → FrameEnd s (.returned v) u (Jvm.fieldLocs frame_1_writes args s ++ Jvm.arrayLocs frame_1_arrays args s ++ Jvm.staticLocs frame_1_statics s) 32 192 → Post tb e args s (.returned v) u) :
    ArmFor flags0 classFile x code maxLocals ret World_1 tables_1 room_1 Calls_1 rest_1 Pre_1 Post := by
  intro l hfl _ _ p e ha hc hk s m args below hf hA hF happ hP
  obtain ⟨hcalls, hrest, hpre⟩ := hP
  obtain ⟨-, -, -, hnamed, -, -, -, hat⟩ := (Spec.applies_iff hf).mp happ
  obtain ⟨hg, hn⟩ := and_e (Cond.before_iff.mp (show (Jvm.Cond.and given_1 narrow_1).before args s = true from hpre))
  obtain ⟨gv1, gv2⟩ := and_e hg
  obtain ⟨gv3, gv4⟩ := and_e gv2
  obtain ⟨gv5, gv6⟩ := and_e gv4
  obtain ⟨gv7, gv8⟩ := and_e gv6
  obtain ⟨gv9, gv10⟩ := and_e gv8
  obtain ⟨w0, w1, w2, w3, w4, rfl⟩ : ∃ w0 w1 w2 w3 w4 : Value, args = #[w0, w1, w2, w3, w4] := by
    have hs : args.size = 5 := by simpa [Cond.value, given_1] using gv1
    obtain ⟨L⟩ := args
    match L, hs with
    | [w0, w1, w2, w3, w4], _ => exact ⟨w0, w1, w2, w3, w4, rfl⟩
  have hw := fun d (hd : d ∈ tables_1) => atoms_spec (ws := Jvm.Cond.code x code maxLocals ret :: tables_1) hat d (List.mem_cons_of_mem _ hd)
  have hfit : Fit s := fun {y c} hc i hi => by
    obtain ⟨ha, rfl⟩ := Array.getElem?_eq_some_iff.mp hc
    have q := List.all_eq_true.mp ((Array.all_eq_true_iff_forall_mem.mp hF) _ (Array.getElem_mem ha)) i (List.mem_range.mpr hi)
    simpa [Array.getElem?_eq_getElem hi] using q
  obtain ⟨hsets, hown0⟩ := atoms_of _ (rest_1_c_eq ▸ (show rest_1_c.before _ s = true from hrest))
  have hr0 := Cond.before_iff.mp hown0
  obtain ⟨i0, ei0⟩ := isL_v gv3
  obtain rfl : w0 = (.long i0) := Option.some.inj ei0
  obtain ⟨i1, ei1⟩ := isL_v gv5
  obtain rfl : w1 = (.long i1) := Option.some.inj ei1
  obtain ⟨i2, ei2⟩ := isL_v gv7
  obtain rfl : w2 = (.long i2) := Option.some.inj ei2
  obtain ⟨i3, ei3⟩ := is_v gv9
  obtain rfl : w3 = (.int i3) := Option.some.inj ei3
  obtain ⟨i4, ei4⟩ := is_v gv10
  obtain rfl : w4 = (.int i4) := Option.some.inj ei4
  have n3 := not_v (Cond.before_iff.mp (hsets _ (List.mem_of_getElem? (i := 2) rfl)))
  obtain ⟨G1, e6⟩ := is_v (Cond.before_iff.mp (hsets _ (List.mem_of_getElem? (i := 1) rfl)))
  have S8 : Sta s s.heap "java/lang/String" "COMPACT_STRINGS" "Z" (.int G1) := Sta.start e6 (Or.inl (hsets _ (List.mem_of_getElem? (i := 0) rfl)))
  have c13 : ¬ (G1 = (0 : Int32)) := gotF (Cond.eq_ints e6 (Term.int_eval (0))) n3
  obtain ⟨zz, ezz⟩ := exa_v (Cond.before_iff.mp (hsets _ (List.mem_of_getElem? (i := 13) rfl)))
  have S9 : Sta s s.heap "java/math/BigDecimal" "ZERO" "Ljava/math/BigDecimal;" (.ref zz) := Sta.start ezz (Or.inl (hsets _ (List.mem_of_getElem? (i := 10) rfl)))
  obtain ⟨n, o, h1, h2, h3, _, L, rfl, ⟨rfl, N⟩, hq⟩ := rm0 l s _ hw tables_1 i0 i1 i2 i3 i4 G1 zz s.heap s.heap.size (Nat.le_refl _) S8 c13 S9 (Old.start s) p e ha hc hk s m _ below hf ((Spec.applies_iff_loose hf).mp happ).1 ⟨rfl, State.Warmed39.refl s, rfl⟩ trivial
  refine ⟨n, _, h1, h2, h3, hpost _ _ _ _ _ _ ⟨Cond.after_iff.mpr rfl, Cond.after_iff.mpr (eq_i res_at (Term.int_eval (1)) rfl), trivial⟩ ⟨hq.1, hq.2.1, (hq.2.2.sift fun y hy => Or.inr (N y hy)).mono (by decide) (by decide)⟩⟩
theorem main_1_1 : Claimed_1_1 := comes_1 fun _ _ _ _ _ _ h hF => ⟨h.1, hF⟩
theorem main_1_2 : Claimed_1_2 := comes_1 fun _ _ _ _ _ _ h hF => ⟨h.2.1, hF⟩
end Jvm.Pilot.@@N@@
namespace Jvm.Pilot.@@N@@
open Jvm Jvm.ClassFile Sem Op Lib Jvm.Free Jvm.Stand Jvm.Pilot.@@N@@.Jvm.D
/-! MADE BY PROGRAM (witnessworld.py) out of the Statement's table words and the real class files: 24 classes; the members and pool entries that the words name. The judged class is class 1, her method 1. -/
namespace start1
open Jvm.ClassFile
def u (s : String) : CpInfo := .utf8 (stringToUtf16 s)
/-- a pool by its gaps: so many unusable entries, then the entry; so many at the end -/
def gap : Nat → List CpInfo → List CpInfo
  | 0, r => r
  | n + 1, r => .unusable :: gap n r
def poolList (es : List (Nat × CpInfo)) (last : Nat) : List CpInfo := es.foldr (fun e r => gap e.1 (e.2 :: r)) (gap last [])
def pool (es : List (Nat × CpInfo)) (last : Nat) : Array CpInfo := ⟨poolList es last⟩
def fileOf (pool : Array CpInfo) (this : Nat) (attrs : Array Attribute := #[]) (ms : Array MethodInfo := #[]) (fl : Nat := 33) (sup : Nat := 0) (ifs : Array Nat := #[]) (fds : Array FieldInfo := #[]) : ClassFile where
  minorVersion := 0
  majorVersion := 65
  constantPool := pool
  accessFlags := fl
  thisClass := this
  superClass := sup
  interfaces := ifs
  fields := fds
  methods := ms
  attributes := attrs
def plain (name : String) (sup : Option ClassId) : Class where
  name := name
  kind := .ordinary
  loader := none
  accessFlags := 33
  super := sup
  interfaces := #[]
  cf := none
  fields := #[]
  methods := #[]
  instanceTypes := #[]
  staticTypes := #[]
  resolved := #[]
  callSites := []
  init := .initialized
  statics := none
  mirror := none

def pool0 : Array CpInfo := pool [(5, u "<init>"), (0, u "()V"), (1, .class_ 10), (1, u "java/lang/Object")] 113

def k0c0 : Code := { maxStack := 0, maxLocals := 1, code := object_method_1_code, exceptionTable := #[], attributes := #[] }
def k0m0 : Method := { name := "<init>", desc := "()V", sig := { parameters := [], returnType := none }, accessFlags := 1, code := some k0c0 }
/-- java/lang/Object -/
def k0 : Class := { plain "java/lang/Object" none with
  accessFlags := 33
  interfaces := #[]
  cf := some (fileOf pool0 8 #[] #[{ accessFlags := 1, nameIndex := 5, descriptorIndex := 6, attributes := #[] }] 33 0 #[] #[])
  fields := #[]
  methods := #[k0m0]
  instanceTypes := #[]
  staticTypes := #[]
  resolved := Array.replicate 124 none
  statics := none }

def pool1 : Array CpInfo := pool [(2, .class_ 4), (1, u "java/lang/Object"), (0, u "<init>"), (0, u "()V"), (0, .class_ 8), (0, u "com/example/governor/governor/core/UsageLine"), (0, .methodref 7 10), (0, .nameAndType 5 11), (0, u "(JJJLjava/math/BigDecimal;Ljava/math/BigDecimal;)V"), (0, .methodref 13 14), (0, .class_ 15), (0, .nameAndType 16 17), (0, u "java/lang/String"), (0, u "valueOf"), (0, u "(C)Ljava/lang/String;"), (0, .class_ 19), (0, u "com/example/governor/governor/core/FieldChange"), (0, .methodref 13 21), (0, .nameAndType 5 22), (0, u "([C)V"), (0, .methodref 18 24), (0, .nameAndType 5 25), (0, u "(Ljava/lang/String;Ljava/lang/String;Ljava/lang/String;)V"), (0, .methodref 7 27), (0, .nameAndType 5 28), (0, u "(JLcom/example/governor/governor/core/FieldChange;)V"), (0, .methodref 7 30), (0, .nameAndType 31 32), (0, u "marksPaused"), (0, u "()Z"), (0, .class_ 34), (0, u "com/example/governor/governor/core/UsageLineMarksPausedPinLaw"), (2, u "law"), (0, u "(JJJII)Z")] 5

def k1m0 : Method := { name := "<init>", desc := "()V", sig := { parameters := [], returnType := none }, accessFlags := 1, code := none }
def k1c1 : Code := { maxStack := 10, maxLocals := 20, code := code, exceptionTable := #[], attributes := #[] }
def k1m1 : Method := { name := "law", desc := "(JJJII)Z", sig := { parameters := [.long, .long, .long, .int, .int], returnType := some .boolean }, accessFlags := 9, code := some k1c1 }
/-- com/example/governor/governor/core/UsageLineMarksPausedPinLaw -/
def k1 : Class := { plain "com/example/governor/governor/core/UsageLineMarksPausedPinLaw" (some 0) with
  accessFlags := 49
  interfaces := #[]
  cf := some (fileOf pool1 33 #[] #[{ accessFlags := 1, nameIndex := 5, descriptorIndex := 6, attributes := #[] }, { accessFlags := 9, nameIndex := 37, descriptorIndex := 38, attributes := #[] }] 49 2 #[] #[])
  fields := #[]
  methods := #[k1m0, k1m1]
  instanceTypes := #[]
  staticTypes := #[]
  resolved := Array.replicate 44 none
  statics := none }

def pool2 : Array CpInfo := pool [(1, .methodref 2 3), (0, .class_ 4), (0, .nameAndType 5 6), (0, u "java/lang/Object"), (0, u "<init>"), (0, u "()V"), (0, .fieldref 8 9), (0, .class_ 10), (0, .nameAndType 11 12), (0, u "com/example/governor/governor/core/UsageLine"), (0, u "number"), (0, u "J"), (0, .fieldref 8 14), (0, .nameAndType 15 12), (0, u "seconds"), (0, .fieldref 8 17), (0, .nameAndType 18 12), (0, u "sessions"), (0, .fieldref 8 20), (0, .nameAndType 21 22), (0, u "vcoresUsed"), (0, u "Ljava/math/BigDecimal;"), (0, .fieldref 8 24), (0, .nameAndType 25 22), (0, u "memoryGbUsed"), (0, .fieldref 8 27), (0, .nameAndType 28 29), (0, u "settingChange"), (0, u "Lcom/example/governor/governor/core/FieldChange;"), (0, .fieldref 31 32), (0, .class_ 33), (0, .nameAndType 34 22), (0, u "java/math/BigDecimal"), (0, u "ZERO"), (6, u "(JJJLjava/math/BigDecimal;Ljava/math/BigDecimal;)V"), (2, u "(JLcom/example/governor/governor/core/FieldChange;)V"), (1, u "marksPaused"), (0, u "()Z")] 7

def k2c0 : Code := { maxStack := 3, maxLocals := 9, code := prog_22_method_1_code, exceptionTable := #[], attributes := #[] }
def k2m0 : Method := { name := "<init>", desc := "(JJJLjava/math/BigDecimal;Ljava/math/BigDecimal;)V", sig := { parameters := [.long, .long, .long, (.object "java/math/BigDecimal"), (.object "java/math/BigDecimal")], returnType := none }, accessFlags := 0, code := some k2c0 }
def k2c1 : Code := { maxStack := 3, maxLocals := 4, code := prog_22_method_2_code, exceptionTable := #[], attributes := #[] }
def k2m1 : Method := { name := "<init>", desc := "(JLcom/example/governor/governor/core/FieldChange;)V", sig := { parameters := [.long, (.object "com/example/governor/governor/core/FieldChange")], returnType := none }, accessFlags := 0, code := some k2c1 }
def k2c2 : Code := { maxStack := 4, maxLocals := 1, code := prog_22_method_5_code, exceptionTable := #[], attributes := #[] }
def k2m2 : Method := { name := "marksPaused", desc := "()Z", sig := { parameters := [], returnType := some .boolean }, accessFlags := 0, code := some k2c2 }
/-- com/example/governor/governor/core/UsageLine -/
def k2 : Class := { plain "com/example/governor/governor/core/UsageLine" (some 0) with
  accessFlags := 32
  interfaces := #[]
  cf := some (fileOf pool2 8 #[] #[{ accessFlags := 0, nameIndex := 5, descriptorIndex := 41, attributes := #[] }, { accessFlags := 0, nameIndex := 5, descriptorIndex := 44, attributes := #[] }, { accessFlags := 0, nameIndex := 46, descriptorIndex := 47, attributes := #[] }] 32 2 #[] #[{ accessFlags := 18, nameIndex := 11, descriptorIndex := 12, attributes := #[] }, { accessFlags := 18, nameIndex := 15, descriptorIndex := 12, attributes := #[] }, { accessFlags := 18, nameIndex := 18, descriptorIndex := 12, attributes := #[] }, { accessFlags := 18, nameIndex := 21, descriptorIndex := 22, attributes := #[] }, { accessFlags := 18, nameIndex := 25, descriptorIndex := 22, attributes := #[] }, { accessFlags := 18, nameIndex := 28, descriptorIndex := 29, attributes := #[] }])
  fields := #[{ name := "number", type := .long, accessFlags := 18, slot := 0, constantValue := 0 }, { name := "seconds", type := .long, accessFlags := 18, slot := 1, constantValue := 0 }, { name := "sessions", type := .long, accessFlags := 18, slot := 2, constantValue := 0 }, { name := "vcoresUsed", type := (.object "java/math/BigDecimal"), accessFlags := 18, slot := 3, constantValue := 0 }, { name := "memoryGbUsed", type := (.object "java/math/BigDecimal"), accessFlags := 18, slot := 4, constantValue := 0 }, { name := "settingChange", type := (.object "com/example/governor/governor/core/FieldChange"), accessFlags := 18, slot := 5, constantValue := 0 }]
  methods := #[k2m0, k2m1, k2m2]
  instanceTypes := #[.long, .long, .long, (.object "java/math/BigDecimal"), (.object "java/math/BigDecimal"), (.object "com/example/governor/governor/core/FieldChange")]
  staticTypes := #[]
  resolved := Array.replicate 55 none
  statics := none }

def pool3 : Array CpInfo := pool [(1, .class_ 2), (0, u "java/io/Serializable"), (0, .class_ 4), (0, u "java/lang/Object")] 2

/-- java/io/Serializable -/
def k3 : Class := { plain "java/io/Serializable" (some 0) with
  accessFlags := 1537
  interfaces := #[]
  cf := some (fileOf pool3 1 #[] #[] 1537 3 #[] #[])
  fields := #[]
  methods := #[]
  instanceTypes := #[]
  staticTypes := #[]
  resolved := Array.replicate 7 none
  statics := none }

def pool4 : Array CpInfo := pool [(1, .class_ 2), (0, u "java/lang/Comparable"), (0, .class_ 4), (0, u "java/lang/Object")] 7

/-- java/lang/Comparable -/
def k4 : Class := { plain "java/lang/Comparable" (some 0) with
  accessFlags := 1537
  interfaces := #[]
  cf := some (fileOf pool4 1 #[] #[] 1537 3 #[] #[])
  fields := #[]
  methods := #[]
  instanceTypes := #[]
  staticTypes := #[]
  resolved := Array.replicate 12 none
  statics := none }

def pool5 : Array CpInfo := pool [(2, .class_ 4), (1, u "java/lang/CharSequence"), (42, .class_ 48), (0, u "java/lang/CharSequence$1CodePointIterator"), (10, .class_ 60), (0, u "java/lang/CharSequence$1CharIterator"), (5, .class_ 67), (0, u "java/lang/Object")] 63

/-- java/lang/CharSequence -/
def k5 : Class := { plain "java/lang/CharSequence" (some 0) with
  accessFlags := 1537
  interfaces := #[]
  cf := some (fileOf pool5 2 #[.nestMembers #[47, 59]] #[] 1537 66 #[] #[])
  fields := #[]
  methods := #[]
  instanceTypes := #[]
  staticTypes := #[]
  resolved := Array.replicate 131 none
  statics := none }

def pool6 : Array CpInfo := pool [(1, .class_ 2), (0, u "java/lang/constant/Constable"), (0, .class_ 4), (0, u "java/lang/Object")] 6

/-- java/lang/constant/Constable -/
def k6 : Class := { plain "java/lang/constant/Constable" (some 0) with
  accessFlags := 1537
  interfaces := #[]
  cf := some (fileOf pool6 1 #[] #[] 1537 3 #[] #[])
  fields := #[]
  methods := #[]
  instanceTypes := #[]
  staticTypes := #[]
  resolved := Array.replicate 11 none
  statics := none }

def pool7 : Array CpInfo := pool [(1, .class_ 2), (0, u "java/lang/constant/ConstantDesc"), (0, .class_ 4), (0, u "java/lang/Object")] 32

/-- java/lang/constant/ConstantDesc -/
def k7 : Class := { plain "java/lang/constant/ConstantDesc" (some 0) with
  accessFlags := 1537
  interfaces := #[]
  cf := some (fileOf pool7 1 #[] #[] 1537 3 #[] #[])
  fields := #[]
  methods := #[]
  instanceTypes := #[]
  staticTypes := #[]
  resolved := Array.replicate 37 none
  statics := none }

def pool8 : Array CpInfo := pool [(1, .methodref 2 3), (0, .class_ 4), (0, .nameAndType 5 6), (0, u "java/lang/Object"), (0, u "<init>"), (0, u "()V"), (2, .fieldref 10 11), (0, .class_ 12), (0, .nameAndType 13 14), (0, u "java/lang/String"), (0, u "value"), (0, u "[B"), (0, .fieldref 10 16), (0, .nameAndType 17 18), (0, u "coder"), (0, u "B"), (2, u "hash"), (0, u "I"), (2, u "hashIsZero"), (0, u "Z"), (0, .methodref 10 28), (0, .nameAndType 5 29), (0, u "([CIILjava/lang/Void;)V"), (8, .fieldref 10 39), (0, .nameAndType 40 26), (0, u "COMPACT_STRINGS"), (1, .class_ 44), (1, u "java/lang/StringUTF16"), (0, u "compress"), (1, .methodref 42 48), (0, .nameAndType 49 50), (0, u "coderFromArrayLen"), (0, u "([BI)B"), (2, u "toBytes"), (53, .class_ 109), (1, u "java/lang/StringLatin1"), (67, .methodref 42 178), (0, .nameAndType 45 179), (0, u "([CII)[B"), (29, .methodref 10 210), (0, .nameAndType 5 211), (0, u "([BB)V"), (157, u "(C)Z"), (205, .class_ 576), (0, u "java/lang/CharSequence"), (22, u "CASE_INSENSITIVE_ORDER"), (0, u "Ljava/util/Comparator;"), (181, u "valueOf"), (0, u "(C)Ljava/lang/String;"), (226, u "([C)V"), (4, .methodref 107 1016), (0, .nameAndType 1017 369), (0, u "canEncode"), (0, .methodref 107 1019), (0, .nameAndType 53 1020), (0, u "(C)[B"), (80, u "serialPersistentFields"), (0, u "[Ljava/io/ObjectStreamField;"), (0, .class_ 1104), (0, u "java/lang/String$CaseInsensitiveComparator"), (1, .class_ 1107), (0, u "java/io/Serializable"), (0, .class_ 1109), (0, u "java/lang/Comparable"), (0, .class_ 1111), (0, u "java/lang/constant/Constable"), (0, .class_ 1113), (0, u "java/lang/constant/ConstantDesc"), (2, u "serialVersionUID"), (0, u "J"), (3, u "REPL"), (0, u "C"), (2, u "LATIN1"), (1, u "UTF16")] 323

def k8m0 : Method := { name := "<init>", desc := "()V", sig := { parameters := [], returnType := none }, accessFlags := 1, code := none }
def k8c1 : Code := { maxStack := 5, maxLocals := 2, code := jdk_42_method_3_code, exceptionTable := #[], attributes := #[] }
def k8m1 : Method := { name := "<init>", desc := "([C)V", sig := { parameters := [(.array .char)], returnType := none }, accessFlags := 1, code := some k8c1 }
def k8c2 : Code := { maxStack := 4, maxLocals := 1, code := jdk_42_method_139_code, exceptionTable := #[], attributes := #[] }
def k8m2 : Method := { name := "valueOf", desc := "(C)Ljava/lang/String;", sig := { parameters := [.char], returnType := some (.object "java/lang/String") }, accessFlags := 9, code := some k8c2 }
def k8c3 : Code := { maxStack := 4, maxLocals := 6, code := jdk_42_method_149_code, exceptionTable := #[], attributes := #[] }
def k8m3 : Method := { name := "<init>", desc := "([CIILjava/lang/Void;)V", sig := { parameters := [(.array .char), .int, .int, (.object "java/lang/Void")], returnType := none }, accessFlags := 2, code := some k8c3 }
def k8c4 : Code := { maxStack := 2, maxLocals := 3, code := jdk_42_method_151_code, exceptionTable := #[], attributes := #[] }
def k8m4 : Method := { name := "<init>", desc := "([BB)V", sig := { parameters := [(.array .byte), .byte], returnType := none }, accessFlags := 0, code := some k8c4 }
/-- java/lang/String -/
def k8 : Class := { plain "java/lang/String" (some 0) with
  accessFlags := 49
  interfaces := #[3, 4, 5, 6, 7]
  cf := some (fileOf pool8 10 #[.nestMembers #[1103]] #[{ accessFlags := 1, nameIndex := 5, descriptorIndex := 6, attributes := #[] }, { accessFlags := 1, nameIndex := 5, descriptorIndex := 1010, attributes := #[] }, { accessFlags := 9, nameIndex := 782, descriptorIndex := 783, attributes := #[] }, { accessFlags := 2, nameIndex := 5, descriptorIndex := 29, attributes := #[] }, { accessFlags := 0, nameIndex := 5, descriptorIndex := 211, attributes := #[] }] 49 2 #[1106, 1108, 575, 1110, 1112] #[{ accessFlags := 18, nameIndex := 13, descriptorIndex := 14, attributes := #[] }, { accessFlags := 18, nameIndex := 17, descriptorIndex := 18, attributes := #[] }, { accessFlags := 2, nameIndex := 21, descriptorIndex := 22, attributes := #[] }, { accessFlags := 2, nameIndex := 25, descriptorIndex := 26, attributes := #[] }, { accessFlags := 26, nameIndex := 1116, descriptorIndex := 1117, attributes := #[] }, { accessFlags := 24, nameIndex := 40, descriptorIndex := 26, attributes := #[] }, { accessFlags := 26, nameIndex := 1101, descriptorIndex := 1102, attributes := #[] }, { accessFlags := 26, nameIndex := 1121, descriptorIndex := 1122, attributes := #[] }, { accessFlags := 25, nameIndex := 599, descriptorIndex := 600, attributes := #[] }, { accessFlags := 24, nameIndex := 1125, descriptorIndex := 18, attributes := #[] }, { accessFlags := 24, nameIndex := 1127, descriptorIndex := 18, attributes := #[] }])
  fields := #[{ name := "value", type := (.array .byte), accessFlags := 18, slot := 0, constantValue := 0 }, { name := "coder", type := .byte, accessFlags := 18, slot := 1, constantValue := 0 }, { name := "hash", type := .int, accessFlags := 2, slot := 2, constantValue := 0 }, { name := "hashIsZero", type := .boolean, accessFlags := 2, slot := 3, constantValue := 0 }, { name := "serialVersionUID", type := .long, accessFlags := 26, slot := 0, constantValue := 0 }, { name := "COMPACT_STRINGS", type := .boolean, accessFlags := 24, slot := 1, constantValue := 0 }, { name := "serialPersistentFields", type := (.array (.object "java/io/ObjectStreamField")), accessFlags := 26, slot := 2, constantValue := 0 }, { name := "REPL", type := .char, accessFlags := 26, slot := 3, constantValue := 0 }, { name := "CASE_INSENSITIVE_ORDER", type := (.object "java/util/Comparator"), accessFlags := 25, slot := 4, constantValue := 0 }, { name := "LATIN1", type := .byte, accessFlags := 24, slot := 5, constantValue := 0 }, { name := "UTF16", type := .byte, accessFlags := 24, slot := 6, constantValue := 0 }]
  methods := #[k8m0, k8m1, k8m2, k8m3, k8m4]
  instanceTypes := #[(.array .byte), .byte, .int, .boolean]
  staticTypes := #[.long, .boolean, (.array (.object "java/io/ObjectStreamField")), .char, (.object "java/util/Comparator"), .byte, .byte]
  resolved := Array.replicate 1451 none
  statics := some 0 }

def pool9 : Array CpInfo := pool [(4, .class_ 6), (1, u "java/lang/Object"), (0, u "<init>"), (0, u "()V"), (5, .class_ 16), (1, u "java/lang/StringLatin1"), (73, u "canEncode"), (14, u "(C)Z"), (15, u "$assertionsDisabled"), (0, u "Z"), (98, .class_ 223), (1, u "java/lang/StringLatin1$LinesSpliterator"), (156, u "toBytes"), (1, u "(C)[B"), (7, .class_ 391), (0, u "java/lang/StringLatin1$CharsSpliterator")] 3

def k9m0 : Method := { name := "<init>", desc := "()V", sig := { parameters := [], returnType := none }, accessFlags := 0, code := none }
def k9c1 : Code := { maxStack := 2, maxLocals := 1, code := jdk_43_method_3_code, exceptionTable := #[], attributes := #[] }
def k9m1 : Method := { name := "canEncode", desc := "(C)Z", sig := { parameters := [.char], returnType := some .boolean }, accessFlags := 9, code := some k9c1 }
def k9c2 : Code := { maxStack := 4, maxLocals := 1, code := jdk_43_method_46_code, exceptionTable := #[], attributes := #[] }
def k9m2 : Method := { name := "toBytes", desc := "(C)[B", sig := { parameters := [.char], returnType := some (.array .byte) }, accessFlags := 9, code := some k9c2 }
/-- java/lang/StringLatin1 -/
def k9 : Class := { plain "java/lang/StringLatin1" (some 0) with
  accessFlags := 48
  interfaces := #[]
  cf := some (fileOf pool9 14 #[.nestMembers #[390, 221]] #[{ accessFlags := 0, nameIndex := 7, descriptorIndex := 8, attributes := #[] }, { accessFlags := 9, nameIndex := 90, descriptorIndex := 105, attributes := #[] }, { accessFlags := 9, nameIndex := 380, descriptorIndex := 382, attributes := #[] }] 48 4 #[] #[{ accessFlags := 4120, nameIndex := 121, descriptorIndex := 122, attributes := #[] }])
  fields := #[{ name := "$assertionsDisabled", type := .boolean, accessFlags := 4120, slot := 0, constantValue := 0 }]
  methods := #[k9m0, k9m1, k9m2]
  instanceTypes := #[]
  staticTypes := #[.boolean]
  resolved := Array.replicate 395 none
  statics := none }

def pool10 : Array CpInfo := pool [(1, .methodref 2 3), (0, .class_ 4), (0, .nameAndType 5 6), (0, u "java/lang/Object"), (0, u "<init>"), (0, u "()V"), (0, .fieldref 8 9), (0, .class_ 10), (0, .nameAndType 11 12), (0, u "com/example/governor/governor/core/FieldChange"), (0, u "field"), (0, u "Ljava/lang/String;"), (0, .fieldref 8 14), (0, .nameAndType 15 12), (0, u "before"), (0, .fieldref 8 17), (0, .nameAndType 18 12), (0, u "after"), (49, u "(Ljava/lang/String;Ljava/lang/String;Ljava/lang/String;)V")] 58

def k10c0 : Code := { maxStack := 2, maxLocals := 4, code := prog_12_method_1_code, exceptionTable := #[], attributes := #[] }
def k10m0 : Method := { name := "<init>", desc := "(Ljava/lang/String;Ljava/lang/String;Ljava/lang/String;)V", sig := { parameters := [(.object "java/lang/String"), (.object "java/lang/String"), (.object "java/lang/String")], returnType := none }, accessFlags := 0, code := some k10c0 }
/-- com/example/governor/governor/core/FieldChange -/
def k10 : Class := { plain "com/example/governor/governor/core/FieldChange" (some 0) with
  accessFlags := 33
  interfaces := #[]
  cf := some (fileOf pool10 8 #[] #[{ accessFlags := 0, nameIndex := 5, descriptorIndex := 68, attributes := #[] }] 33 2 #[] #[{ accessFlags := 18, nameIndex := 11, descriptorIndex := 12, attributes := #[] }, { accessFlags := 18, nameIndex := 15, descriptorIndex := 12, attributes := #[] }, { accessFlags := 18, nameIndex := 18, descriptorIndex := 12, attributes := #[] }])
  fields := #[{ name := "field", type := (.object "java/lang/String"), accessFlags := 18, slot := 0, constantValue := 0 }, { name := "before", type := (.object "java/lang/String"), accessFlags := 18, slot := 1, constantValue := 0 }, { name := "after", type := (.object "java/lang/String"), accessFlags := 18, slot := 2, constantValue := 0 }]
  methods := #[k10m0]
  instanceTypes := #[(.object "java/lang/String"), (.object "java/lang/String"), (.object "java/lang/String")]
  staticTypes := #[]
  resolved := Array.replicate 127 none
  statics := none }

def pool11 : Array CpInfo := pool [(6, .class_ 8), (1, u "java/lang/Object"), (0, u "<init>"), (0, u "()V"), (1, .class_ 14), (1, u "java/lang/StringUTF16"), (31, u "$assertionsDisabled"), (0, u "Z"), (13, u "HI_BYTE_SHIFT"), (0, u "I"), (2, u "LO_BYTE_SHIFT"), (49, .methodref 12 116), (0, .nameAndType 117 118), (0, u "compress"), (0, u "([CI[BII)I"), (3, u "([CII)[B"), (138, u "coderFromArrayLen"), (0, u "([BI)B"), (106, .class_ 371), (1, u "java/lang/StringUTF16$LinesSpliterator"), (58, u "MAX_LENGTH"), (196, .class_ 628), (0, u "java/lang/StringUTF16$CodePointsSpliterator"), (0, .class_ 630), (0, u "java/lang/StringUTF16$CharsSpliterator")] 4

def k11m0 : Method := { name := "<init>", desc := "()V", sig := { parameters := [], returnType := none }, accessFlags := 0, code := none }
def k11c1 : Code := { maxStack := 2, maxLocals := 2, code := jdk_52_method_15_code, exceptionTable := #[], attributes := #[] }
def k11m1 : Method := { name := "coderFromArrayLen", desc := "([BI)B", sig := { parameters := [(.array .byte), .int], returnType := some .byte }, accessFlags := 8, code := some k11c1 }
def k11c2 : Code := { maxStack := 5, maxLocals := 6, code := jdk_52_method_16_code, exceptionTable := #[], attributes := #[] }
def k11m2 : Method := { name := "compress", desc := "([CII)[B", sig := { parameters := [(.array .char), .int, .int], returnType := some (.array .byte) }, accessFlags := 9, code := some k11c2 }
def k11c3 : Code := { maxStack := 3, maxLocals := 7, code := jdk_52_method_21_code, exceptionTable := #[], attributes := #[] }
def k11m3 : Method := { name := "compress", desc := "([CI[BII)I", sig := { parameters := [(.array .char), .int, (.array .byte), .int, .int], returnType := some .int }, accessFlags := 9, code := some k11c3 }
/-- java/lang/StringUTF16 -/
def k11 : Class := { plain "java/lang/StringUTF16" (some 0) with
  accessFlags := 48
  interfaces := #[]
  cf := some (fileOf pool11 12 #[.nestMembers #[627, 629, 369]] #[{ accessFlags := 0, nameIndex := 9, descriptorIndex := 10, attributes := #[] }, { accessFlags := 8, nameIndex := 261, descriptorIndex := 262, attributes := #[] }, { accessFlags := 9, nameIndex := 117, descriptorIndex := 122, attributes := #[] }, { accessFlags := 9, nameIndex := 117, descriptorIndex := 118, attributes := #[] }] 48 6 #[] #[{ accessFlags := 26, nameIndex := 61, descriptorIndex := 62, attributes := #[] }, { accessFlags := 26, nameIndex := 65, descriptorIndex := 62, attributes := #[] }, { accessFlags := 24, nameIndex := 430, descriptorIndex := 62, attributes := #[] }, { accessFlags := 4120, nameIndex := 46, descriptorIndex := 47, attributes := #[] }])
  fields := #[{ name := "HI_BYTE_SHIFT", type := .int, accessFlags := 26, slot := 0, constantValue := 0 }, { name := "LO_BYTE_SHIFT", type := .int, accessFlags := 26, slot := 1, constantValue := 0 }, { name := "MAX_LENGTH", type := .int, accessFlags := 24, slot := 2, constantValue := 0 }, { name := "$assertionsDisabled", type := .boolean, accessFlags := 4120, slot := 3, constantValue := 0 }]
  methods := #[k11m0, k11m1, k11m2, k11m3]
  instanceTypes := #[]
  staticTypes := #[.int, .int, .int, .boolean]
  resolved := Array.replicate 635 none
  statics := none }

def pool12 : Array CpInfo := pool [(2, .class_ 4), (1, u "java/lang/Object"), (0, u "<init>"), (0, u "()V"), (1, .class_ 10), (1, u "java/lang/Number"), (2, .class_ 14), (0, u "java/io/Serializable"), (0, u "serialVersionUID"), (0, u "J")] 20

def k12m0 : Method := { name := "<init>", desc := "()V", sig := { parameters := [], returnType := none }, accessFlags := 1, code := none }
/-- java/lang/Number -/
def k12 : Class := { plain "java/lang/Number" (some 0) with
  accessFlags := 1057
  interfaces := #[3]
  cf := some (fileOf pool12 8 #[] #[{ accessFlags := 1, nameIndex := 5, descriptorIndex := 6, attributes := #[] }] 1057 2 #[13] #[{ accessFlags := 26, nameIndex := 15, descriptorIndex := 16, attributes := #[] }])
  fields := #[{ name := "serialVersionUID", type := .long, accessFlags := 26, slot := 0, constantValue := 0 }]
  methods := #[k12m0]
  instanceTypes := #[]
  staticTypes := #[.long]
  resolved := Array.replicate 37 none
  statics := none }

def pool13 : Array CpInfo := pool [(3, .class_ 4), (0, u "java/math/BigDecimal"), (7, .class_ 14), (1, u "java/lang/Number"), (4, u "scale"), (0, u "I"), (2, u "precision"), (2, u "intCompact"), (0, u "J"), (2, u "intVal"), (0, u "Ljava/math/BigInteger;"), (65, u "LONG_TEN_POWERS_TABLE"), (0, u "[J"), (88, u "ZERO"), (2, u "INFLATED_BIGINT"), (15, u "TWO"), (41, u "ZERO_THROUGH_TEN"), (0, u "[Ljava/math/BigDecimal;"), (2, u "ZERO_SCALED_BY"), (60, u "$assertionsDisabled"), (0, u "Z"), (163, u "ONE_TENTH"), (0, u "Ljava/math/BigDecimal;"), (5, u "TEN"), (14, .class_ 502), (1, u "java/math/BigDecimal$1"), (15, u "ONE_HALF"), (16, u "ONE"), (107, u "stringCache"), (0, u "Ljava/lang/String;"), (52, .class_ 699), (1, u "java/math/BigDecimal$LongOverflow"), (8, u "FLOAT_10_POW"), (0, u "[F"), (39, u "DOUBLE_10_POW"), (0, u "[D"), (19, .class_ 772), (1, u "java/math/BigDecimal$StringBuilderHelper"), (35, u "BIG_TEN_POWERS_TABLE_MAX"), (2, u "BIG_TEN_POWERS_TABLE"), (0, u "[Ljava/math/BigInteger;"), (14, u "THRESHOLDS_TABLE"), (23, .class_ 853), (1, u "java/math/BigDecimal$UnsafeHolder"), (214, u "LONGLONG_TEN_POWERS_TABLE"), (0, u "[[J"), (112, u "BIG_TEN_POWERS_TABLE_INITLEN"), (113, .class_ 1297), (0, u "java/lang/Comparable"), (0, u "L"), (0, u "D"), (1, u "P_F"), (1, u "Q_MIN_F"), (1, u "Q_MAX_F"), (1, u "P_D"), (1, u "Q_MIN_D"), (1, u "Q_MAX_D"), (1, u "INFLATED"), (0, u "MAX_COMPACT_DIGITS"), (1, u "serialVersionUID"), (2, u "HALF_LONG_MAX_VALUE"), (0, u "HALF_LONG_MIN_VALUE"), (0, u "ROUND_UP"), (6, u "ROUND_DOWN"), (1, u "ROUND_CEILING"), (1, u "ROUND_FLOOR"), (1, u "ROUND_HALF_UP"), (1, u "ROUND_HALF_DOWN"), (1, u "ROUND_HALF_EVEN"), (1, u "ROUND_UNNECESSARY"), (1, u "DIV_NUM_BASE")] 294

/-- java/math/BigDecimal -/
def k13 : Class := { plain "java/math/BigDecimal" (some 12) with
  accessFlags := 33
  interfaces := #[4]
  cf := some (fileOf pool13 3 #[.nestMembers #[500, 851, 770, 697]] #[] 33 12 #[1296] #[{ accessFlags := 26, nameIndex := 1298, descriptorIndex := 1299, attributes := #[] }, { accessFlags := 26, nameIndex := 1301, descriptorIndex := 20, attributes := #[] }, { accessFlags := 26, nameIndex := 1303, descriptorIndex := 20, attributes := #[] }, { accessFlags := 26, nameIndex := 1305, descriptorIndex := 20, attributes := #[] }, { accessFlags := 26, nameIndex := 1307, descriptorIndex := 20, attributes := #[] }, { accessFlags := 26, nameIndex := 1309, descriptorIndex := 20, attributes := #[] }, { accessFlags := 26, nameIndex := 1311, descriptorIndex := 20, attributes := #[] }, { accessFlags := 18, nameIndex := 30, descriptorIndex := 31, attributes := #[] }, { accessFlags := 18, nameIndex := 19, descriptorIndex := 20, attributes := #[] }, { accessFlags := 130, nameIndex := 23, descriptorIndex := 20, attributes := #[] }, { accessFlags := 130, nameIndex := 643, descriptorIndex := 644, attributes := #[] }, { accessFlags := 24, nameIndex := 1313, descriptorIndex := 27, attributes := #[] }, { accessFlags := 26, nameIndex := 190, descriptorIndex := 31, attributes := #[] }, { accessFlags := 146, nameIndex := 26, descriptorIndex := 27, attributes := #[] }, { accessFlags := 26, nameIndex := 1314, descriptorIndex := 20, attributes := #[] }, { accessFlags := 26, nameIndex := 1316, descriptorIndex := 27, attributes := #[] }, { accessFlags := 26, nameIndex := 248, descriptorIndex := 249, attributes := #[] }, { accessFlags := 26, nameIndex := 252, descriptorIndex := 249, attributes := #[] }, { accessFlags := 26, nameIndex := 1319, descriptorIndex := 27, attributes := #[] }, { accessFlags := 26, nameIndex := 1320, descriptorIndex := 27, attributes := #[] }, { accessFlags := 25, nameIndex := 187, descriptorIndex := 479, attributes := #[] }, { accessFlags := 25, nameIndex := 535, descriptorIndex := 479, attributes := #[] }, { accessFlags := 25, nameIndex := 206, descriptorIndex := 479, attributes := #[] }, { accessFlags := 25, nameIndex := 485, descriptorIndex := 479, attributes := #[] }, { accessFlags := 26, nameIndex := 478, descriptorIndex := 479, attributes := #[] }, { accessFlags := 26, nameIndex := 518, descriptorIndex := 479, attributes := #[] }, { accessFlags := 25, nameIndex := 1321, descriptorIndex := 20, attributes := #[] }, { accessFlags := 25, nameIndex := 1328, descriptorIndex := 20, attributes := #[] }, { accessFlags := 25, nameIndex := 1330, descriptorIndex := 20, attributes := #[] }, { accessFlags := 25, nameIndex := 1332, descriptorIndex := 20, attributes := #[] }, { accessFlags := 25, nameIndex := 1334, descriptorIndex := 20, attributes := #[] }, { accessFlags := 25, nameIndex := 1336, descriptorIndex := 20, attributes := #[] }, { accessFlags := 25, nameIndex := 1338, descriptorIndex := 20, attributes := #[] }, { accessFlags := 25, nameIndex := 1340, descriptorIndex := 20, attributes := #[] }, { accessFlags := 26, nameIndex := 749, descriptorIndex := 750, attributes := #[] }, { accessFlags := 26, nameIndex := 708, descriptorIndex := 709, attributes := #[] }, { accessFlags := 26, nameIndex := 97, descriptorIndex := 98, attributes := #[] }, { accessFlags := 74, nameIndex := 811, descriptorIndex := 812, attributes := #[] }, { accessFlags := 26, nameIndex := 1182, descriptorIndex := 20, attributes := #[] }, { accessFlags := 26, nameIndex := 808, descriptorIndex := 20, attributes := #[] }, { accessFlags := 26, nameIndex := 827, descriptorIndex := 98, attributes := #[] }, { accessFlags := 26, nameIndex := 1342, descriptorIndex := 27, attributes := #[] }, { accessFlags := 26, nameIndex := 1068, descriptorIndex := 1069, attributes := #[] }, { accessFlags := 4120, nameIndex := 313, descriptorIndex := 314, attributes := #[] }])
  fields := #[{ name := "L", type := .double, accessFlags := 26, slot := 0, constantValue := 0 }, { name := "P_F", type := .int, accessFlags := 26, slot := 1, constantValue := 0 }, { name := "Q_MIN_F", type := .int, accessFlags := 26, slot := 2, constantValue := 0 }, { name := "Q_MAX_F", type := .int, accessFlags := 26, slot := 3, constantValue := 0 }, { name := "P_D", type := .int, accessFlags := 26, slot := 4, constantValue := 0 }, { name := "Q_MIN_D", type := .int, accessFlags := 26, slot := 5, constantValue := 0 }, { name := "Q_MAX_D", type := .int, accessFlags := 26, slot := 6, constantValue := 0 }, { name := "intVal", type := (.object "java/math/BigInteger"), accessFlags := 18, slot := 0, constantValue := 0 }, { name := "scale", type := .int, accessFlags := 18, slot := 1, constantValue := 0 }, { name := "precision", type := .int, accessFlags := 130, slot := 2, constantValue := 0 }, { name := "stringCache", type := (.object "java/lang/String"), accessFlags := 130, slot := 3, constantValue := 0 }, { name := "INFLATED", type := .long, accessFlags := 24, slot := 7, constantValue := 0 }, { name := "INFLATED_BIGINT", type := (.object "java/math/BigInteger"), accessFlags := 26, slot := 8, constantValue := 0 }, { name := "intCompact", type := .long, accessFlags := 146, slot := 4, constantValue := 0 }, { name := "MAX_COMPACT_DIGITS", type := .int, accessFlags := 26, slot := 9, constantValue := 0 }, { name := "serialVersionUID", type := .long, accessFlags := 26, slot := 10, constantValue := 0 }, { name := "ZERO_THROUGH_TEN", type := (.array (.object "java/math/BigDecimal")), accessFlags := 26, slot := 11, constantValue := 0 }, { name := "ZERO_SCALED_BY", type := (.array (.object "java/math/BigDecimal")), accessFlags := 26, slot := 12, constantValue := 0 }, { name := "HALF_LONG_MAX_VALUE", type := .long, accessFlags := 26, slot := 13, constantValue := 0 }, { name := "HALF_LONG_MIN_VALUE", type := .long, accessFlags := 26, slot := 14, constantValue := 0 }, { name := "ZERO", type := (.object "java/math/BigDecimal"), accessFlags := 25, slot := 15, constantValue := 0 }, { name := "ONE", type := (.object "java/math/BigDecimal"), accessFlags := 25, slot := 16, constantValue := 0 }, { name := "TWO", type := (.object "java/math/BigDecimal"), accessFlags := 25, slot := 17, constantValue := 0 }, { name := "TEN", type := (.object "java/math/BigDecimal"), accessFlags := 25, slot := 18, constantValue := 0 }, { name := "ONE_TENTH", type := (.object "java/math/BigDecimal"), accessFlags := 26, slot := 19, constantValue := 0 }, { name := "ONE_HALF", type := (.object "java/math/BigDecimal"), accessFlags := 26, slot := 20, constantValue := 0 }, { name := "ROUND_UP", type := .int, accessFlags := 25, slot := 21, constantValue := 0 }, { name := "ROUND_DOWN", type := .int, accessFlags := 25, slot := 22, constantValue := 0 }, { name := "ROUND_CEILING", type := .int, accessFlags := 25, slot := 23, constantValue := 0 }, { name := "ROUND_FLOOR", type := .int, accessFlags := 25, slot := 24, constantValue := 0 }, { name := "ROUND_HALF_UP", type := .int, accessFlags := 25, slot := 25, constantValue := 0 }, { name := "ROUND_HALF_DOWN", type := .int, accessFlags := 25, slot := 26, constantValue := 0 }, { name := "ROUND_HALF_EVEN", type := .int, accessFlags := 25, slot := 27, constantValue := 0 }, { name := "ROUND_UNNECESSARY", type := .int, accessFlags := 25, slot := 28, constantValue := 0 }, { name := "DOUBLE_10_POW", type := (.array .double), accessFlags := 26, slot := 29, constantValue := 0 }, { name := "FLOAT_10_POW", type := (.array .float), accessFlags := 26, slot := 30, constantValue := 0 }, { name := "LONG_TEN_POWERS_TABLE", type := (.array .long), accessFlags := 26, slot := 31, constantValue := 0 }, { name := "BIG_TEN_POWERS_TABLE", type := (.array (.object "java/math/BigInteger")), accessFlags := 74, slot := 32, constantValue := 0 }, { name := "BIG_TEN_POWERS_TABLE_INITLEN", type := .int, accessFlags := 26, slot := 33, constantValue := 0 }, { name := "BIG_TEN_POWERS_TABLE_MAX", type := .int, accessFlags := 26, slot := 34, constantValue := 0 }, { name := "THRESHOLDS_TABLE", type := (.array .long), accessFlags := 26, slot := 35, constantValue := 0 }, { name := "DIV_NUM_BASE", type := .long, accessFlags := 26, slot := 36, constantValue := 0 }, { name := "LONGLONG_TEN_POWERS_TABLE", type := (.array (.array .long)), accessFlags := 26, slot := 37, constantValue := 0 }, { name := "$assertionsDisabled", type := .boolean, accessFlags := 4120, slot := 38, constantValue := 0 }]
  methods := #[]
  instanceTypes := #[(.object "java/math/BigInteger"), .int, .int, (.object "java/lang/String"), .long]
  staticTypes := #[.double, .int, .int, .int, .int, .int, .int, .long, (.object "java/math/BigInteger"), .int, .long, (.array (.object "java/math/BigDecimal")), (.array (.object "java/math/BigDecimal")), .long, .long, (.object "java/math/BigDecimal"), (.object "java/math/BigDecimal"), (.object "java/math/BigDecimal"), (.object "java/math/BigDecimal"), (.object "java/math/BigDecimal"), (.object "java/math/BigDecimal"), .int, .int, .int, .int, .int, .int, .int, .int, (.array .double), (.array .float), (.array .long), (.array (.object "java/math/BigInteger")), .int, .int, (.array .long), .long, (.array (.array .long)), .boolean]
  resolved := Array.replicate 1637 none
  statics := some 1 }

def pool14 : Array CpInfo := pool [(2, .class_ 4), (1, u "java/lang/Object"), (0, u "<init>"), (0, u "()V"), (17, .class_ 26), (1, u "jdk/internal/util/Preconditions"), (28, .class_ 56), (0, u "jdk/internal/util/Preconditions$4"), (57, .class_ 115), (0, u "jdk/internal/util/Preconditions$1"), (7, u "SIOOBE_FORMATTER"), (0, u "Ljava/util/function/BiFunction;"), (0, .class_ 126), (0, u "jdk/internal/util/Preconditions$2"), (3, u "AIOOBE_FORMATTER"), (0, .class_ 132), (0, u "jdk/internal/util/Preconditions$3"), (3, u "IOOBE_FORMATTER")] 57

def k14m0 : Method := { name := "<init>", desc := "()V", sig := { parameters := [], returnType := none }, accessFlags := 1, code := none }
/-- jdk/internal/util/Preconditions -/
def k14 : Class := { plain "jdk/internal/util/Preconditions" (some 0) with
  accessFlags := 33
  interfaces := #[]
  cf := some (fileOf pool14 24 #[.nestMembers #[55, 131, 125, 114]] #[{ accessFlags := 1, nameIndex := 5, descriptorIndex := 6, attributes := #[] }] 33 2 #[] #[{ accessFlags := 25, nameIndex := 123, descriptorIndex := 124, attributes := #[] }, { accessFlags := 25, nameIndex := 130, descriptorIndex := 124, attributes := #[] }, { accessFlags := 25, nameIndex := 136, descriptorIndex := 124, attributes := #[] }])
  fields := #[{ name := "SIOOBE_FORMATTER", type := (.object "java/util/function/BiFunction"), accessFlags := 25, slot := 0, constantValue := 0 }, { name := "AIOOBE_FORMATTER", type := (.object "java/util/function/BiFunction"), accessFlags := 25, slot := 1, constantValue := 0 }, { name := "IOOBE_FORMATTER", type := (.object "java/util/function/BiFunction"), accessFlags := 25, slot := 2, constantValue := 0 }]
  methods := #[k14m0]
  instanceTypes := #[]
  staticTypes := #[(.object "java/util/function/BiFunction"), (.object "java/util/function/BiFunction"), (.object "java/util/function/BiFunction")]
  resolved := Array.replicate 194 none
  statics := some 2 }

def pool15 : Array CpInfo := pool [(9, u "<init>"), (6, .class_ 18), (1, u "java/lang/Object"), (0, u "()V"), (1, .class_ 23), (1, u "jdk/internal/util/ArraysSupport"), (0, u "LOG2_ARRAY_LONG_INDEX_SCALE"), (0, u "I"), (2, u "U"), (0, u "Ljdk/internal/misc/Unsafe;"), (8, u "BIG_ENDIAN"), (0, u "Z"), (8, u "LOG2_BYTE_BIT_SIZE"), (4, u "LOG2_ARRAY_INT_INDEX_SCALE"), (54, u "JLA"), (0, u "Ljdk/internal/access/JavaLangAccess;"), (11, u "LOG2_ARRAY_BOOLEAN_INDEX_SCALE"), (9, u "LOG2_ARRAY_BYTE_INDEX_SCALE"), (5, u "LOG2_ARRAY_CHAR_INDEX_SCALE"), (5, u "LOG2_ARRAY_SHORT_INDEX_SCALE"), (18, u "LOG2_ARRAY_FLOAT_INDEX_SCALE"), (24, u "LOG2_ARRAY_DOUBLE_INDEX_SCALE"), (89, u "T_BOOLEAN"), (2, u "T_CHAR"), (1, u "T_FLOAT"), (1, u "T_DOUBLE"), (1, u "T_BYTE"), (1, u "T_SHORT"), (1, u "T_INT"), (1, u "T_LONG"), (1, u "SOFT_MAX_ARRAY_LENGTH")] 83

def k15m0 : Method := { name := "<init>", desc := "()V", sig := { parameters := [], returnType := none }, accessFlags := 2, code := none }
/-- jdk/internal/util/ArraysSupport -/
def k15 : Class := { plain "jdk/internal/util/ArraysSupport" (some 0) with
  accessFlags := 33
  interfaces := #[]
  cf := some (fileOf pool15 21 #[] #[{ accessFlags := 2, nameIndex := 9, descriptorIndex := 19, attributes := #[] }] 33 16 #[] #[{ accessFlags := 24, nameIndex := 28, descriptorIndex := 29, attributes := #[] }, { accessFlags := 26, nameIndex := 38, descriptorIndex := 39, attributes := #[] }, { accessFlags := 25, nameIndex := 121, descriptorIndex := 25, attributes := #[] }, { accessFlags := 25, nameIndex := 131, descriptorIndex := 25, attributes := #[] }, { accessFlags := 25, nameIndex := 137, descriptorIndex := 25, attributes := #[] }, { accessFlags := 25, nameIndex := 143, descriptorIndex := 25, attributes := #[] }, { accessFlags := 25, nameIndex := 53, descriptorIndex := 25, attributes := #[] }, { accessFlags := 25, nameIndex := 24, descriptorIndex := 25, attributes := #[] }, { accessFlags := 25, nameIndex := 162, descriptorIndex := 25, attributes := #[] }, { accessFlags := 25, nameIndex := 187, descriptorIndex := 25, attributes := #[] }, { accessFlags := 26, nameIndex := 48, descriptorIndex := 25, attributes := #[] }, { accessFlags := 25, nameIndex := 277, descriptorIndex := 25, attributes := #[] }, { accessFlags := 25, nameIndex := 280, descriptorIndex := 25, attributes := #[] }, { accessFlags := 25, nameIndex := 282, descriptorIndex := 25, attributes := #[] }, { accessFlags := 25, nameIndex := 284, descriptorIndex := 25, attributes := #[] }, { accessFlags := 25, nameIndex := 286, descriptorIndex := 25, attributes := #[] }, { accessFlags := 25, nameIndex := 288, descriptorIndex := 25, attributes := #[] }, { accessFlags := 25, nameIndex := 290, descriptorIndex := 25, attributes := #[] }, { accessFlags := 25, nameIndex := 292, descriptorIndex := 25, attributes := #[] }, { accessFlags := 26, nameIndex := 108, descriptorIndex := 109, attributes := #[] }, { accessFlags := 25, nameIndex := 294, descriptorIndex := 25, attributes := #[] }])
  fields := #[{ name := "U", type := (.object "jdk/internal/misc/Unsafe"), accessFlags := 24, slot := 0, constantValue := 0 }, { name := "BIG_ENDIAN", type := .boolean, accessFlags := 26, slot := 1, constantValue := 0 }, { name := "LOG2_ARRAY_BOOLEAN_INDEX_SCALE", type := .int, accessFlags := 25, slot := 2, constantValue := 0 }, { name := "LOG2_ARRAY_BYTE_INDEX_SCALE", type := .int, accessFlags := 25, slot := 3, constantValue := 0 }, { name := "LOG2_ARRAY_CHAR_INDEX_SCALE", type := .int, accessFlags := 25, slot := 4, constantValue := 0 }, { name := "LOG2_ARRAY_SHORT_INDEX_SCALE", type := .int, accessFlags := 25, slot := 5, constantValue := 0 }, { name := "LOG2_ARRAY_INT_INDEX_SCALE", type := .int, accessFlags := 25, slot := 6, constantValue := 0 }, { name := "LOG2_ARRAY_LONG_INDEX_SCALE", type := .int, accessFlags := 25, slot := 7, constantValue := 0 }, { name := "LOG2_ARRAY_FLOAT_INDEX_SCALE", type := .int, accessFlags := 25, slot := 8, constantValue := 0 }, { name := "LOG2_ARRAY_DOUBLE_INDEX_SCALE", type := .int, accessFlags := 25, slot := 9, constantValue := 0 }, { name := "LOG2_BYTE_BIT_SIZE", type := .int, accessFlags := 26, slot := 10, constantValue := 0 }, { name := "T_BOOLEAN", type := .int, accessFlags := 25, slot := 11, constantValue := 0 }, { name := "T_CHAR", type := .int, accessFlags := 25, slot := 12, constantValue := 0 }, { name := "T_FLOAT", type := .int, accessFlags := 25, slot := 13, constantValue := 0 }, { name := "T_DOUBLE", type := .int, accessFlags := 25, slot := 14, constantValue := 0 }, { name := "T_BYTE", type := .int, accessFlags := 25, slot := 15, constantValue := 0 }, { name := "T_SHORT", type := .int, accessFlags := 25, slot := 16, constantValue := 0 }, { name := "T_INT", type := .int, accessFlags := 25, slot := 17, constantValue := 0 }, { name := "T_LONG", type := .int, accessFlags := 25, slot := 18, constantValue := 0 }, { name := "JLA", type := (.object "jdk/internal/access/JavaLangAccess"), accessFlags := 26, slot := 19, constantValue := 0 }, { name := "SOFT_MAX_ARRAY_LENGTH", type := .int, accessFlags := 25, slot := 20, constantValue := 0 }]
  methods := #[k15m0]
  instanceTypes := #[]
  staticTypes := #[(.object "jdk/internal/misc/Unsafe"), .boolean, .int, .int, .int, .int, .int, .int, .int, .int, .int, .int, .int, .int, .int, .int, .int, .int, .int, (.object "jdk/internal/access/JavaLangAccess"), .int]
  resolved := Array.replicate 378 none
  statics := none }

def pool16 : Array CpInfo := pool [(4, .class_ 6), (1, u "java/lang/Number"), (16, .class_ 25), (1, u "java/math/BigInteger"), (0, u "ZERO"), (0, u "Ljava/math/BigInteger;"), (2, u "mag"), (0, u "[I"), (2, u "signum"), (0, u "I"), (59, u "bitsPerDigit"), (0, u "[J"), (9, u "digitsPerInt"), (12, u "intRadix"), (60, u "SMALL_PRIME_PRODUCT"), (79, u "ONE"), (6, u "TWO"), (43, u "$assertionsDisabled"), (0, u "Z"), (36, u "posConst"), (0, u "[Ljava/math/BigInteger;"), (4, u "negConst"), (116, .class_ 474), (1, u "java/math/BigInteger$RecursiveOp"), (106, u "NEGATIVE_ONE"), (91, u "bnExpModThreshTable"), (72, u "lowestSetBitPlusTwo"), (2, u "bitLengthPlusOne"), (2, u "bitCountPlusOne"), (6, u "LOG_TWO"), (0, u "D"), (2, u "logCache"), (0, u "[D"), (13, u "NUM_ZEROS"), (2, u "ZEROS"), (0, u "Ljava/lang/String;"), (9, u "longRadix"), (5, u "digitsPerLong"), (22, u "powerCache"), (0, u "[[Ljava/math/BigInteger;"), (45, u "firstNonzeroIntNumPlusTwo"), (38, .class_ 909), (1, u "java/math/BigInteger$UnsafeHolder"), (141, u "TEN"), (106, u "serialPersistentFields"), (0, u "[Ljava/io/ObjectStreamField;"), (0, .class_ 1161), (0, u "java/lang/Comparable"), (0, u "LONG_MASK"), (0, u "J"), (1, u "MAX_MAG_LENGTH"), (0, u "PRIME_SEARCH_BIT_LENGTH_LIMIT"), (1, u "KARATSUBA_THRESHOLD"), (1, u "TOOM_COOK_THRESHOLD"), (1, u "KARATSUBA_SQUARE_THRESHOLD"), (1, u "TOOM_COOK_SQUARE_THRESHOLD"), (1, u "BURNIKEL_ZIEGLER_THRESHOLD"), (0, u "BURNIKEL_ZIEGLER_OFFSET"), (1, u "SCHOENHAGE_BASE_CONVERSION_THRESHOLD"), (1, u "MULTIPLY_SQUARE_THRESHOLD"), (0, u "MONTGOMERY_INTRINSIC_THRESHOLD"), (1, u "SMALL_PRIME_THRESHOLD"), (1, u "DEFAULT_PRIME_CERTAINTY"), (1, u "MAX_CONSTANT"), (3, u "serialVersionUID"), (338, .class_ 1532), (0, u "java/math/BigInteger$RecursiveOp$RecursiveSquare"), (0, .class_ 1534), (0, u "java/math/BigInteger$RecursiveOp$RecursiveMultiply")] 7

/-- java/math/BigInteger -/
def k16 : Class := { plain "java/math/BigInteger" (some 12) with
  accessFlags := 33
  interfaces := #[4]
  cf := some (fileOf pool16 23 #[.nestMembers #[907, 472, 1531, 1533]] #[] 33 4 #[1160] #[{ accessFlags := 16, nameIndex := 34, descriptorIndex := 35, attributes := #[] }, { accessFlags := 16, nameIndex := 30, descriptorIndex := 31, attributes := #[] }, { accessFlags := 2, nameIndex := 752, descriptorIndex := 35, attributes := #[] }, { accessFlags := 2, nameIndex := 749, descriptorIndex := 35, attributes := #[] }, { accessFlags := 2, nameIndex := 746, descriptorIndex := 35, attributes := #[] }, { accessFlags := 2, nameIndex := 868, descriptorIndex := 35, attributes := #[] }, { accessFlags := 24, nameIndex := 1162, descriptorIndex := 1163, attributes := #[] }, { accessFlags := 26, nameIndex := 1165, descriptorIndex := 35, attributes := #[] }, { accessFlags := 26, nameIndex := 1166, descriptorIndex := 35, attributes := #[] }, { accessFlags := 26, nameIndex := 1168, descriptorIndex := 35, attributes := #[] }, { accessFlags := 26, nameIndex := 1170, descriptorIndex := 35, attributes := #[] }, { accessFlags := 26, nameIndex := 1172, descriptorIndex := 35, attributes := #[] }, { accessFlags := 26, nameIndex := 1174, descriptorIndex := 35, attributes := #[] }, { accessFlags := 24, nameIndex := 1176, descriptorIndex := 35, attributes := #[] }, { accessFlags := 24, nameIndex := 1177, descriptorIndex := 35, attributes := #[] }, { accessFlags := 26, nameIndex := 1179, descriptorIndex := 35, attributes := #[] }, { accessFlags := 26, nameIndex := 1181, descriptorIndex := 35, attributes := #[] }, { accessFlags := 26, nameIndex := 1182, descriptorIndex := 35, attributes := #[] }, { accessFlags := 10, nameIndex := 95, descriptorIndex := 96, attributes := #[] }, { accessFlags := 26, nameIndex := 1184, descriptorIndex := 35, attributes := #[] }, { accessFlags := 26, nameIndex := 1186, descriptorIndex := 35, attributes := #[] }, { accessFlags := 26, nameIndex := 180, descriptorIndex := 27, attributes := #[] }, { accessFlags := 26, nameIndex := 1188, descriptorIndex := 35, attributes := #[] }, { accessFlags := 26, nameIndex := 349, descriptorIndex := 350, attributes := #[] }, { accessFlags := 26, nameIndex := 355, descriptorIndex := 350, attributes := #[] }, { accessFlags := 74, nameIndex := 821, descriptorIndex := 822, attributes := #[] }, { accessFlags := 26, nameIndex := 763, descriptorIndex := 764, attributes := #[] }, { accessFlags := 26, nameIndex := 759, descriptorIndex := 760, attributes := #[] }, { accessFlags := 25, nameIndex := 26, descriptorIndex := 27, attributes := #[] }, { accessFlags := 25, nameIndex := 260, descriptorIndex := 27, attributes := #[] }, { accessFlags := 25, nameIndex := 267, descriptorIndex := 27, attributes := #[] }, { accessFlags := 26, nameIndex := 581, descriptorIndex := 27, attributes := #[] }, { accessFlags := 25, nameIndex := 1051, descriptorIndex := 27, attributes := #[] }, { accessFlags := 8, nameIndex := 673, descriptorIndex := 31, attributes := #[] }, { accessFlags := 10, nameIndex := 778, descriptorIndex := 35, attributes := #[] }, { accessFlags := 26, nameIndex := 781, descriptorIndex := 782, attributes := #[] }, { accessFlags := 10, nameIndex := 798, descriptorIndex := 31, attributes := #[] }, { accessFlags := 10, nameIndex := 792, descriptorIndex := 350, attributes := #[] }, { accessFlags := 10, nameIndex := 106, descriptorIndex := 31, attributes := #[] }, { accessFlags := 10, nameIndex := 119, descriptorIndex := 31, attributes := #[] }, { accessFlags := 26, nameIndex := 1192, descriptorIndex := 1163, attributes := #[] }, { accessFlags := 26, nameIndex := 1158, descriptorIndex := 1159, attributes := #[] }, { accessFlags := 4120, nameIndex := 311, descriptorIndex := 312, attributes := #[] }])
  fields := #[{ name := "signum", type := .int, accessFlags := 16, slot := 0, constantValue := 0 }, { name := "mag", type := (.array .int), accessFlags := 16, slot := 1, constantValue := 0 }, { name := "bitCountPlusOne", type := .int, accessFlags := 2, slot := 2, constantValue := 0 }, { name := "bitLengthPlusOne", type := .int, accessFlags := 2, slot := 3, constantValue := 0 }, { name := "lowestSetBitPlusTwo", type := .int, accessFlags := 2, slot := 4, constantValue := 0 }, { name := "firstNonzeroIntNumPlusTwo", type := .int, accessFlags := 2, slot := 5, constantValue := 0 }, { name := "LONG_MASK", type := .long, accessFlags := 24, slot := 0, constantValue := 0 }, { name := "MAX_MAG_LENGTH", type := .int, accessFlags := 26, slot := 1, constantValue := 0 }, { name := "PRIME_SEARCH_BIT_LENGTH_LIMIT", type := .int, accessFlags := 26, slot := 2, constantValue := 0 }, { name := "KARATSUBA_THRESHOLD", type := .int, accessFlags := 26, slot := 3, constantValue := 0 }, { name := "TOOM_COOK_THRESHOLD", type := .int, accessFlags := 26, slot := 4, constantValue := 0 }, { name := "KARATSUBA_SQUARE_THRESHOLD", type := .int, accessFlags := 26, slot := 5, constantValue := 0 }, { name := "TOOM_COOK_SQUARE_THRESHOLD", type := .int, accessFlags := 26, slot := 6, constantValue := 0 }, { name := "BURNIKEL_ZIEGLER_THRESHOLD", type := .int, accessFlags := 24, slot := 7, constantValue := 0 }, { name := "BURNIKEL_ZIEGLER_OFFSET", type := .int, accessFlags := 24, slot := 8, constantValue := 0 }, { name := "SCHOENHAGE_BASE_CONVERSION_THRESHOLD", type := .int, accessFlags := 26, slot := 9, constantValue := 0 }, { name := "MULTIPLY_SQUARE_THRESHOLD", type := .int, accessFlags := 26, slot := 10, constantValue := 0 }, { name := "MONTGOMERY_INTRINSIC_THRESHOLD", type := .int, accessFlags := 26, slot := 11, constantValue := 0 }, { name := "bitsPerDigit", type := (.array .long), accessFlags := 10, slot := 12, constantValue := 0 }, { name := "SMALL_PRIME_THRESHOLD", type := .int, accessFlags := 26, slot := 13, constantValue := 0 }, { name := "DEFAULT_PRIME_CERTAINTY", type := .int, accessFlags := 26, slot := 14, constantValue := 0 }, { name := "SMALL_PRIME_PRODUCT", type := (.object "java/math/BigInteger"), accessFlags := 26, slot := 15, constantValue := 0 }, { name := "MAX_CONSTANT", type := .int, accessFlags := 26, slot := 16, constantValue := 0 }, { name := "posConst", type := (.array (.object "java/math/BigInteger")), accessFlags := 26, slot := 17, constantValue := 0 }, { name := "negConst", type := (.array (.object "java/math/BigInteger")), accessFlags := 26, slot := 18, constantValue := 0 }, { name := "powerCache", type := (.array (.array (.object "java/math/BigInteger"))), accessFlags := 74, slot := 19, constantValue := 0 }, { name := "logCache", type := (.array .double), accessFlags := 26, slot := 20, constantValue := 0 }, { name := "LOG_TWO", type := .double, accessFlags := 26, slot := 21, constantValue := 0 }, { name := "ZERO", type := (.object "java/math/BigInteger"), accessFlags := 25, slot := 22, constantValue := 0 }, { name := "ONE", type := (.object "java/math/BigInteger"), accessFlags := 25, slot := 23, constantValue := 0 }, { name := "TWO", type := (.object "java/math/BigInteger"), accessFlags := 25, slot := 24, constantValue := 0 }, { name := "NEGATIVE_ONE", type := (.object "java/math/BigInteger"), accessFlags := 26, slot := 25, constantValue := 0 }, { name := "TEN", type := (.object "java/math/BigInteger"), accessFlags := 25, slot := 26, constantValue := 0 }, { name := "bnExpModThreshTable", type := (.array .int), accessFlags := 8, slot := 27, constantValue := 0 }, { name := "NUM_ZEROS", type := .int, accessFlags := 10, slot := 28, constantValue := 0 }, { name := "ZEROS", type := (.object "java/lang/String"), accessFlags := 26, slot := 29, constantValue := 0 }, { name := "digitsPerLong", type := (.array .int), accessFlags := 10, slot := 30, constantValue := 0 }, { name := "longRadix", type := (.array (.object "java/math/BigInteger")), accessFlags := 10, slot := 31, constantValue := 0 }, { name := "digitsPerInt", type := (.array .int), accessFlags := 10, slot := 32, constantValue := 0 }, { name := "intRadix", type := (.array .int), accessFlags := 10, slot := 33, constantValue := 0 }, { name := "serialVersionUID", type := .long, accessFlags := 26, slot := 34, constantValue := 0 }, { name := "serialPersistentFields", type := (.array (.object "java/io/ObjectStreamField")), accessFlags := 26, slot := 35, constantValue := 0 }, { name := "$assertionsDisabled", type := .boolean, accessFlags := 4120, slot := 36, constantValue := 0 }]
  methods := #[]
  instanceTypes := #[.int, (.array .int), .int, .int, .int, .int]
  staticTypes := #[.long, .int, .int, .int, .int, .int, .int, .int, .int, .int, .int, .int, (.array .long), .int, .int, (.object "java/math/BigInteger"), .int, (.array (.object "java/math/BigInteger")), (.array (.object "java/math/BigInteger")), (.array (.array (.object "java/math/BigInteger"))), (.array .double), .double, (.object "java/math/BigInteger"), (.object "java/math/BigInteger"), (.object "java/math/BigInteger"), (.object "java/math/BigInteger"), (.object "java/math/BigInteger"), (.array .int), .int, (.object "java/lang/String"), (.array .int), (.array (.object "java/math/BigInteger")), (.array .int), (.array .int), .long, (.array (.object "java/io/ObjectStreamField")), .boolean]
  resolved := Array.replicate 1542 none
  statics := some 3 }

def pool17 : Array CpInfo := pool [(1, u "java/lang/Cloneable"), (0, .class_ 1), (0, u "java/lang/Object"), (0, .class_ 3)] 3

/-- java/lang/Cloneable -/
def k17 : Class := { plain "java/lang/Cloneable" (some 0) with
  accessFlags := 1537
  interfaces := #[]
  cf := some (fileOf pool17 2 #[] #[] 1537 4 #[] #[])
  fields := #[]
  methods := #[]
  instanceTypes := #[]
  staticTypes := #[]
  resolved := Array.replicate 8 none
  statics := none }

/-- the primitive byte -/
def k18 : Class := { plain "byte" none with kind := .primitive 'B', accessFlags := 0x411 }
/-- [B -/
def k19 : Class := { plain "[B" (some 0) with kind := .array 18 .byte, interfaces := #[17, 3], accessFlags := 1041 }

/-- the primitive char -/
def k20 : Class := { plain "char" none with kind := .primitive 'C', accessFlags := 0x411 }
/-- [C -/
def k21 : Class := { plain "[C" (some 0) with kind := .array 20 .char, interfaces := #[17, 3], accessFlags := 1041 }

/-- the primitive int -/
def k22 : Class := { plain "int" none with kind := .primitive 'I', accessFlags := 0x411 }
/-- [I -/
def k23 : Class := { plain "[I" (some 0) with kind := .array 22 .int, interfaces := #[17, 3], accessFlags := 1041 }

def heap : Heap := #[{ cls := 8, slots := #[.long 0, .int 1, .null, .int 0, .null, .int 0, .int 0], vm := .statics 8 },
  { cls := 13, slots := #[.double 0, .int 0, .int 0, .int 0, .int 0, .int 0, .int 0, .long 0, .null, .int 0, .long 0, .null, .null, .long 0, .long 0, .ref 6, .null, .null, .null, .null, .null, .int 0, .int 0, .int 0, .int 0, .int 0, .int 0, .int 0, .int 0, .null, .null, .null, .null, .int 0, .int 0, .null, .long 0, .null, .int 0], vm := .statics 13 },
  { cls := 14, slots := #[.null, .null, .null], vm := .statics 14 },
  { cls := 16, slots := #[.long 0, .int 0, .int 0, .int 0, .int 0, .int 0, .int 0, .int 0, .int 0, .int 0, .int 0, .int 0, .null, .int 0, .int 0, .null, .int 0, .null, .null, .null, .null, .double 0, .ref 5, .null, .null, .null, .null, .null, .int 0, .null, .null, .null, .null, .null, .long 0, .null, .int 0], vm := .statics 16 },
  { cls := 23, slots := #[], vm := .none },
  { cls := 16, slots := #[.int 0, .ref 4, .int 0, .int 0, .int 0, .int 0], vm := .none },
  { cls := 13, slots := #[.ref 5, .int 0, .int 0, .null, .long 0], vm := .none }]
def classes : Array Class := #[k0, k1, k2, k3, k4, k5, k6, k7, k8, k9, k10, k11, k12, k13, k14, k15, k16, k17, k18, k19, k20, k21, k22, k23]
def interned : List (Array UInt16 × Addr) := []
def slotsUsed : Nat := 97
def theMethod : MethodId := ⟨1, 1⟩
def args0 : Array Value := #[.long 1, .long 2, .long 3, .int 0, .int 65]
def aboutOver (below : List Frame) : State where
  vm := { classes := classes, interned := interned.toArray }
  heap := heap
  slotsUsed := slotsUsed
  threads := #[{ frames := .invoking theMethod args0 :: below }]
def below0 : List Frame := [.native { method := ⟨0, 0⟩, args := #[] }]
def about1 : State := aboutOver below0
def p0 : Program := .bare "" "" ""
def e0 : Env := launch0.env 0 0 0
theorem w_frames : about1.frames = Frame.invoking theMethod args0 :: below0 := rfl
set_option maxRecDepth 65536 in
theorem w_args : argsFit about1.vm theMethod args0 = true := by decide +kernel
set_option maxRecDepth 65536 in
theorem w_heap : heapFits about1 = true := by decide +kernel
set_option maxRecDepth 65536 in
theorem w_runnable : about1.curStatus? = some .runnable := by decide +kernel
set_option maxRecDepth 65536 in
theorem w_alone : about1.alone = true := by decide +kernel
set_option maxRecDepth 65536 in
theorem w_named : about1.methodNamed? x = some theMethod := by decide +kernel
set_option maxRecDepth 65536 in
theorem w_hears : about1.hears theMethod below0 = true := by decide +kernel
set_option maxRecDepth 65536 in
theorem w_ripe : about1.ripe theMethod args0 below0 = true := by decide +kernel
theorem w_running : about1.status = .running := rfl
set_option maxRecDepth 65536 in
theorem w_room : about1.hasRoom e0.platform room_1 = true :=
  launch0.hasRoom_least _ room_1 (by decide +kernel) (by decide +kernel) (by decide +kernel) (by decide +kernel) (by decide +kernel) (by decide +kernel)
theorem allAtoms_all (ts : List Jvm.Cond) (a : Array Jvm.Value) (st : Jvm.State) : (allAtoms ts).before a st = ts.all (fun c => c.before a st) := by
  induction ts with
  | nil => rfl
  | cons c t ih =>
    show (Jvm.Cond.and c (allAtoms t)).before a st = _
    rw [Jvm.Cond.before_and, ih, List.all_cons]
def words1 : List Jvm.Cond := Jvm.Cond.code x code maxLocals ret :: tables_1
/-- a 'code' word, met by the world's own term for the bytes: nothing is compared byte by byte -/
theorem code_word {y : MethodName} {bytes : ByteArray} {mx : Nat} {rt : Option FieldType} {a : Array Value} {s : State} {m : MethodId} {meth : Method} {c : Code} (h1 : s.methodNamed? y = some m) (h2 : s.vm.method? m = some meth) (h3 : meth.code = some c) (h4 : c.code = bytes)
    (h5 : (c.maxLocals == mx && c.exceptionTable.isEmpty && decide (c.maxStack ≤ mostOperands) && decide (meth.sig.returnType = rt) && !meth.locks && decide (parseMethodDescriptor y.desc = some meth.sig)) = true) : (Jvm.Cond.code y bytes mx rt).before a s = true := by
  simp only [Bool.and_eq_true, beq_iff_eq, Bool.not_eq_true', decide_eq_true_eq] at h5
  obtain ⟨⟨⟨⟨⟨g1, g2⟩, g3⟩, g4⟩, g5⟩, g6⟩ := h5
  simp [Cond.before, Cond.holds, Cond.value, h1, h2, h3, h4, g1, g2, g3, g4, g5, g6]
def isCode : Jvm.Cond → Bool
  | .code _ _ _ _ => true
  | _ => false
theorem all_split {L : List Jvm.Cond} {P : Jvm.Cond → Bool} (h1 : L.all (fun c => isCode c || P c) = true) (h2 : ∀ c ∈ L.filter isCode, P c = true) : L.all P = true := by
  refine List.all_eq_true.mpr fun c hc => ?_
  have h := List.all_eq_true.mp h1 c hc
  rcases Bool.eq_false_or_eq_true (isCode c) with hi | hi
  · exact h2 c (List.mem_filter.mpr ⟨hc, hi⟩)
  · simpa [hi] using h
set_option maxRecDepth 65536 in
theorem w_c0 : (Jvm.Cond.code x code maxLocals ret).before args0 about1 = true := code_word (m := ⟨1, 1⟩) (meth := k1m1) (c := k1c1) (by decide +kernel) rfl rfl rfl (by decide +kernel)
set_option maxRecDepth 65536 in
theorem w_c1 : (Jvm.Cond.code ({ cls := "com/example/governor/governor/core/UsageLine", name := "<init>", desc := "(JJJLjava/math/BigDecimal;Ljava/math/BigDecimal;)V" } : Jvm.MethodName) prog_22_method_1_code (9 : Nat) (Option.none : Option Jvm.ClassFile.FieldType)).before args0 about1 = true := code_word (m := ⟨2, 0⟩) (meth := k2m0) (c := k2c0) (by decide +kernel) rfl rfl rfl (by decide +kernel)
set_option maxRecDepth 65536 in
theorem w_c2 : (Jvm.Cond.code ({ cls := "java/lang/Object", name := "<init>", desc := "()V" } : Jvm.MethodName) object_method_1_code (1 : Nat) (Option.none : Option Jvm.ClassFile.FieldType)).before args0 about1 = true := code_word (m := ⟨0, 0⟩) (meth := k0m0) (c := k0c0) (by decide +kernel) rfl rfl rfl (by decide +kernel)
set_option maxRecDepth 65536 in
theorem w_c3 : (Jvm.Cond.code ({ cls := "java/lang/String", name := "valueOf", desc := "(C)Ljava/lang/String;" } : Jvm.MethodName) jdk_42_method_139_code (1 : Nat) (Option.some (Jvm.ClassFile.FieldType.object "java/lang/String"))).before args0 about1 = true := code_word (m := ⟨8, 2⟩) (meth := k8m2) (c := k8c2) (by decide +kernel) rfl rfl rfl (by decide +kernel)
set_option maxRecDepth 65536 in
theorem w_c4 : (Jvm.Cond.code ({ cls := "java/lang/StringLatin1", name := "canEncode", desc := "(C)Z" } : Jvm.MethodName) jdk_43_method_3_code (1 : Nat) (Option.some Jvm.ClassFile.FieldType.boolean)).before args0 about1 = true := code_word (m := ⟨9, 1⟩) (meth := k9m1) (c := k9c1) (by decide +kernel) rfl rfl rfl (by decide +kernel)
set_option maxRecDepth 65536 in
theorem w_c5 : (Jvm.Cond.code ({ cls := "java/lang/StringLatin1", name := "toBytes", desc := "(C)[B" } : Jvm.MethodName) jdk_43_method_46_code (1 : Nat) (Option.some (Jvm.ClassFile.FieldType.array Jvm.ClassFile.FieldType.byte))).before args0 about1 = true := code_word (m := ⟨9, 2⟩) (meth := k9m2) (c := k9c2) (by decide +kernel) rfl rfl rfl (by decide +kernel)
set_option maxRecDepth 65536 in
theorem w_c6 : (Jvm.Cond.code ({ cls := "java/lang/String", name := "<init>", desc := "([BB)V" } : Jvm.MethodName) jdk_42_method_151_code (3 : Nat) (Option.none : Option Jvm.ClassFile.FieldType)).before args0 about1 = true := code_word (m := ⟨8, 4⟩) (meth := k8m4) (c := k8c4) (by decide +kernel) rfl rfl rfl (by decide +kernel)
set_option maxRecDepth 65536 in
theorem w_c7 : (Jvm.Cond.code ({ cls := "java/lang/String", name := "<init>", desc := "([C)V" } : Jvm.MethodName) jdk_42_method_3_code (2 : Nat) (Option.none : Option Jvm.ClassFile.FieldType)).before args0 about1 = true := code_word (m := ⟨8, 1⟩) (meth := k8m1) (c := k8c1) (by decide +kernel) rfl rfl rfl (by decide +kernel)
set_option maxRecDepth 65536 in
theorem w_c8 : (Jvm.Cond.code ({ cls := "java/lang/String", name := "<init>", desc := "([CIILjava/lang/Void;)V" } : Jvm.MethodName) jdk_42_method_149_code (6 : Nat) (Option.none : Option Jvm.ClassFile.FieldType)).before args0 about1 = true := code_word (m := ⟨8, 3⟩) (meth := k8m3) (c := k8c3) (by decide +kernel) rfl rfl rfl (by decide +kernel)
set_option maxRecDepth 65536 in
theorem w_c9 : (Jvm.Cond.code ({ cls := "java/lang/StringUTF16", name := "compress", desc := "([CII)[B" } : Jvm.MethodName) jdk_52_method_16_code (6 : Nat) (Option.some (Jvm.ClassFile.FieldType.array Jvm.ClassFile.FieldType.byte))).before args0 about1 = true := code_word (m := ⟨11, 2⟩) (meth := k11m2) (c := k11c2) (by decide +kernel) rfl rfl rfl (by decide +kernel)
set_option maxRecDepth 65536 in
theorem w_c10 : (Jvm.Cond.code ({ cls := "java/lang/StringUTF16", name := "compress", desc := "([CI[BII)I" } : Jvm.MethodName) jdk_52_method_21_code (7 : Nat) (Option.some Jvm.ClassFile.FieldType.int)).before args0 about1 = true := code_word (m := ⟨11, 3⟩) (meth := k11m3) (c := k11c3) (by decide +kernel) rfl rfl rfl (by decide +kernel)
set_option maxRecDepth 65536 in
theorem w_c11 : (Jvm.Cond.code ({ cls := "java/lang/StringUTF16", name := "coderFromArrayLen", desc := "([BI)B" } : Jvm.MethodName) jdk_52_method_15_code (2 : Nat) (Option.some Jvm.ClassFile.FieldType.byte)).before args0 about1 = true := code_word (m := ⟨11, 1⟩) (meth := k11m1) (c := k11c1) (by decide +kernel) rfl rfl rfl (by decide +kernel)
set_option maxRecDepth 65536 in
theorem w_c12 : (Jvm.Cond.code ({ cls := "com/example/governor/governor/core/FieldChange", name := "<init>", desc := "(Ljava/lang/String;Ljava/lang/String;Ljava/lang/String;)V" } : Jvm.MethodName) prog_12_method_1_code (4 : Nat) (Option.none : Option Jvm.ClassFile.FieldType)).before args0 about1 = true := code_word (m := ⟨10, 0⟩) (meth := k10m0) (c := k10c0) (by decide +kernel) rfl rfl rfl (by decide +kernel)
set_option maxRecDepth 65536 in
theorem w_c13 : (Jvm.Cond.code ({ cls := "com/example/governor/governor/core/UsageLine", name := "<init>", desc := "(JLcom/example/governor/governor/core/FieldChange;)V" } : Jvm.MethodName) prog_22_method_2_code (4 : Nat) (Option.none : Option Jvm.ClassFile.FieldType)).before args0 about1 = true := code_word (m := ⟨2, 1⟩) (meth := k2m1) (c := k2c1) (by decide +kernel) rfl rfl rfl (by decide +kernel)
set_option maxRecDepth 65536 in
theorem w_c14 : (Jvm.Cond.code ({ cls := "com/example/governor/governor/core/UsageLine", name := "marksPaused", desc := "()Z" } : Jvm.MethodName) prog_22_method_5_code (1 : Nat) (Option.some Jvm.ClassFile.FieldType.boolean)).before args0 about1 = true := code_word (m := ⟨2, 2⟩) (meth := k2m2) (c := k2c2) (by decide +kernel) rfl rfl rfl (by decide +kernel)
def codes1 : List Jvm.Cond := [Jvm.Cond.code x code maxLocals ret, Jvm.Cond.code ({ cls := "com/example/governor/governor/core/UsageLine", name := "<init>", desc := "(JJJLjava/math/BigDecimal;Ljava/math/BigDecimal;)V" } : Jvm.MethodName) prog_22_method_1_code (9 : Nat) (Option.none : Option Jvm.ClassFile.FieldType), Jvm.Cond.code ({ cls := "java/lang/Object", name := "<init>", desc := "()V" } : Jvm.MethodName) object_method_1_code (1 : Nat) (Option.none : Option Jvm.ClassFile.FieldType), Jvm.Cond.code ({ cls := "java/lang/String", name := "valueOf", desc := "(C)Ljava/lang/String;" } : Jvm.MethodName) jdk_42_method_139_code (1 : Nat) (Option.some (Jvm.ClassFile.FieldType.object "java/lang/String")), Jvm.Cond.code ({ cls := "java/lang/StringLatin1", name := "canEncode", desc := "(C)Z" } : Jvm.MethodName) jdk_43_method_3_code (1 : Nat) (Option.some Jvm.ClassFile.FieldType.boolean), Jvm.Cond.code ({ cls := "java/lang/StringLatin1", name := "toBytes", desc := "(C)[B" } : Jvm.MethodName) jdk_43_method_46_code (1 : Nat) (Option.some (Jvm.ClassFile.FieldType.array Jvm.ClassFile.FieldType.byte)), Jvm.Cond.code ({ cls := "java/lang/String", name := "<init>", desc := "([BB)V" } : Jvm.MethodName) jdk_42_method_151_code (3 : Nat) (Option.none : Option Jvm.ClassFile.FieldType), Jvm.Cond.code ({ cls := "java/lang/String", name := "<init>", desc := "([C)V" } : Jvm.MethodName) jdk_42_method_3_code (2 : Nat) (Option.none : Option Jvm.ClassFile.FieldType), Jvm.Cond.code ({ cls := "java/lang/String", name := "<init>", desc := "([CIILjava/lang/Void;)V" } : Jvm.MethodName) jdk_42_method_149_code (6 : Nat) (Option.none : Option Jvm.ClassFile.FieldType), Jvm.Cond.code ({ cls := "java/lang/StringUTF16", name := "compress", desc := "([CII)[B" } : Jvm.MethodName) jdk_52_method_16_code (6 : Nat) (Option.some (Jvm.ClassFile.FieldType.array Jvm.ClassFile.FieldType.byte)), Jvm.Cond.code ({ cls := "java/lang/StringUTF16", name := "compress", desc := "([CI[BII)I" } : Jvm.MethodName) jdk_52_method_21_code (7 : Nat) (Option.some Jvm.ClassFile.FieldType.int), Jvm.Cond.code ({ cls := "java/lang/StringUTF16", name := "coderFromArrayLen", desc := "([BI)B" } : Jvm.MethodName) jdk_52_method_15_code (2 : Nat) (Option.some Jvm.ClassFile.FieldType.byte), Jvm.Cond.code ({ cls := "com/example/governor/governor/core/FieldChange", name := "<init>", desc := "(Ljava/lang/String;Ljava/lang/String;Ljava/lang/String;)V" } : Jvm.MethodName) prog_12_method_1_code (4 : Nat) (Option.none : Option Jvm.ClassFile.FieldType), Jvm.Cond.code ({ cls := "com/example/governor/governor/core/UsageLine", name := "<init>", desc := "(JLcom/example/governor/governor/core/FieldChange;)V" } : Jvm.MethodName) prog_22_method_2_code (4 : Nat) (Option.none : Option Jvm.ClassFile.FieldType), Jvm.Cond.code ({ cls := "com/example/governor/governor/core/UsageLine", name := "marksPaused", desc := "()Z" } : Jvm.MethodName) prog_22_method_5_code (1 : Nat) (Option.some Jvm.ClassFile.FieldType.boolean)]
set_option maxRecDepth 65536 in
theorem codes_eq : words1.filter isCode = codes1 := rfl
theorem w_codes : ∀ c ∈ words1.filter isCode, c.before args0 about1 = true := by
  rw [codes_eq]
  intro c hc
  simp only [codes1, List.mem_cons, List.not_mem_nil, or_false] at hc
  rcases hc with rfl | rfl | rfl | rfl | rfl | rfl | rfl | rfl | rfl | rfl | rfl | rfl | rfl | rfl | rfl
  · exact w_c0
  · exact w_c1
  · exact w_c2
  · exact w_c3
  · exact w_c4
  · exact w_c5
  · exact w_c6
  · exact w_c7
  · exact w_c8
  · exact w_c9
  · exact w_c10
  · exact w_c11
  · exact w_c12
  · exact w_c13
  · exact w_c14
set_option maxRecDepth 65536 in
theorem w_t1 : (words1.take 24).all (fun c => isCode c || c.before args0 about1) = true := by decide +kernel
set_option maxRecDepth 65536 in
theorem w_t2 : ((words1.drop 24).take 24).all (fun c => isCode c || c.before args0 about1) = true := by decide +kernel
set_option maxRecDepth 65536 in
theorem w_t3 : (((words1.drop 24).drop 24).take 24).all (fun c => isCode c || c.before args0 about1) = true := by decide +kernel
set_option maxRecDepth 65536 in
theorem w_t4 : (((words1.drop 24).drop 24).drop 24).all (fun c => isCode c || c.before args0 about1) = true := by decide +kernel
theorem w_tables : (allAtoms (Jvm.Cond.code x code maxLocals ret :: tables_1)).before args0 about1 = true := by
  rw [allAtoms_all]
  show words1.all (fun c => c.before args0 about1) = true
  refine all_split ?_ w_codes
  rw [← List.take_append_drop 24 words1, List.all_append, w_t1, ← List.take_append_drop 24 (words1.drop 24), List.all_append, w_t2, ← List.take_append_drop 24 ((words1.drop 24).drop 24), List.all_append, w_t3, w_t4]
  rfl
set_option maxRecDepth 65536 in
theorem w_rest : rest_1_c.before args0 about1 = true := by decide +kernel
set_option maxRecDepth 65536 in
theorem w_case : (Jvm.Cond.and given_1 narrow_1).before args0 about1 = true := by decide +kernel
theorem w_applies : (headSpec (Jvm.Cond.code x code maxLocals ret :: tables_1) room_1).applies x e0.platform about1 = true :=
  (Spec.applies_iff w_frames).mpr ⟨w_running, w_runnable, w_alone, w_named, w_hears, w_ripe, w_room, w_tables⟩
theorem atStart : AtStart classFile x code maxLocals ret World_1 tables_1 room_1 Calls_1 rest_1 Pre_1 launch0 p0 e0 about1 theMethod args0 below0 :=
  ⟨lists_1, trivial, launch0.admits_env _ _ _, launch0.least_env, fairChoices_fair.cas, fairChoices_fair.clock, w_frames, w_args, w_heap, w_applies, trivial, w_rest, w_case⟩
end start1
theorem witness_1 : WitnessClaimed_1 := ⟨start1.p0, start1.e0, start1.about1, start1.theMethod, start1.args0, start1.below0, start1.atStart⟩
end Jvm.Pilot.@@N@@
