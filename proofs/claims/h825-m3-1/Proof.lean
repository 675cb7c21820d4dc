import JvmDerived
import JvmDerived.Pilot.@@N@@Statement
import JvmDerived.Pilot.@@N@@Code
set_option linter.unusedVariables false
set_option linter.unusedSimpArgs false
namespace Jvm.RoadKit
open Sem ClassFile Op Lib Jvm.Stand Jvm.Free Jvm.LawKit
theorem Arv.mv {Z : State} {h h' : Heap} {a : Addr} {k : ClassId} {ty : FieldType} {z : Int32} {vs : List Value} {dv : Value} (F : Arv Z h a k ty z vs dv) (K : Keep h h' []) : Arv Z h' a k ty z vs dv := F.keep K nin0
theorem Fld.mv {Z : State} {h h' : Heap} {a : Addr} {C n d : String} {v : Value} (F : Fld Z h a C n d v) (K : Keep h h' []) : Fld Z h' a C n d v := F.keep K nin0
theorem Exa.mv {Z : State} {h h' : Heap} {a : Addr} {C : String} (F : Exa Z h a C) (K : Keep h h' []) : Exa Z h' a C := F.keep K
theorem Ins.keepK {Z : State} {h h' : Heap} {a : Addr} {C : String} {b : Bool} {ws : List Addr} (F : Ins Z h a C b) (K : Keep h h' ws) : Ins Z h' a C b := by
  obtain ⟨cell, cT, q1, q2, q3⟩ := F
  obtain ⟨c', r1, r2, r3, -⟩ := K.2.2 _ _ q1
  exact ⟨c', cT, r1, q2, by rw [r2, r3]; exact q3⟩
end Jvm.RoadKit
/- laws to paste: Road.backV, Road.codOf (cut by pick.py; bodies as the Statement names them) -/
namespace Jvm.Pilot.@@N@@
namespace StrChars
open Jvm Sem ClassFile Op Lib Jvm.Stand Jvm.Free.XT Jvm.Free.ALB Jvm.Free.JM Jvm.Free
open Jvm.Lib.Cold (StaticIs)
/-- a char array whose places are chars -/
def Ch (a : Addr) (A : Cell) (U : State) : Prop := Arr .char a A U ∧ Typed .char A
theorem Ch.mv {a : Addr} {A : Cell} {U U' : State} (h : Ch a A U) (hal : U.vm.Alike U'.vm) (hh : U'.heap = U.heap) : Ch a A U' := ⟨h.1.mv hal hh, h.2⟩
theorem Ch.keep {a : Addr} {A : Cell} {U U' : State} (h : Ch a A U) (hal : U.vm.Alike U'.vm) (hk : U'.heap[a]? = some A) : Ch a A U' := ⟨h.1.keep hal hk, h.2⟩
/-- what place i of a char[]'s cell holds -/
def cv (A : Cell) (i : Nat) : Int32 := match A.slots[i]? with | some (.int x) => x | _ => 0
theorem Ch.get {a : Addr} {A : Cell} {U : State} (h : Ch a A U) {i : Nat} (hi : i < A.slots.size) : A.slots[i]? = some (.int (cv A i)) := by
  have e := Array.getElem?_eq_getElem hi
  have f := h.2 i _ e
  unfold cv; rw [e]
  generalize A.slots[i] = v at f
  cases v <;> simp [fits] at f ⊢
/-- the byte that i2b leaves of a char -/
def lo8 (x : Int32) : Int32 := x.toInt8.toInt32
theorem fits_lo8 (y : Int32) : fits .byte (.int (lo8 y)) = true := by
  have h1 := y.toInt8.le_toInt
  have h2 := y.toInt8.toInt_lt
  simp only [lo8, fits, Bool.and_eq_true, decide_eq_true_eq, Int32.le_iff_toInt_le, Int8.toInt_toInt32, show (-128 : Int32).toInt = -128 from by decide, show (127 : Int32).toInt = 127 from by decide]
  omega
/-- A' is A but that each place j of lo .. hi - 1 holds f j -/
def Laid (A A' : Cell) (lo hi : Nat) (f : Nat → Value) : Prop := A'.cls = A.cls ∧ A'.vm = A.vm ∧ A'.slots.size = A.slots.size ∧ ∀ i, A'.slots[i]? = if lo ≤ i ∧ i < hi then some (f i) else A.slots[i]?
theorem Laid.zero (A : Cell) (lo : Nat) (f : Nat → Value) : Laid A A lo (lo + 0) f := ⟨rfl, rfl, rfl, fun i => by rw [if_neg (by omega)]⟩
theorem Laid.step {A Ak : Cell} {lo k : Nat} {f : Nat → Value} {v : Value} (h : Laid A Ak lo k f) (hlo : lo ≤ k) (hk : k < Ak.slots.size) (hv : v = f k) : Laid A (Ak.setSlot k v) lo (k + 1) f := by
  refine ⟨h.1, h.2.1, by simpa [Cell.setSlot] using h.2.2.1, fun i => ?_⟩
  by_cases e : k = i
  · subst e; rw [Cell.slots_setSlot_self v hk, if_pos (by omega), hv]
  · rw [Cell.slots_setSlot_ne v e, h.2.2.2 i]
    by_cases q : lo ≤ i ∧ i < k
    · rw [if_pos q, if_pos (by omega)]
    · rw [if_neg q, if_neg (by omega)]
def U16 : String := "java/lang/StringUTF16"
namespace Cmp5
def yN : MethodName := ⟨"java/lang/StringUTF16", "compress", "([CI[BII)I"⟩
abbrev yB : ByteArray := jdk_52_method_21_code
theorem d0 : decode yB 0 = .ok (.iconst 0, 1) := by decide +kernel
theorem d1 : decode yB 1 = .ok (.istore 5, 2) := by decide +kernel
theorem d3 : decode yB 3 = .ok (.iload 5, 2) := by decide +kernel
theorem d5 : decode yB 5 = .ok (.iload 4, 2) := by decide +kernel
theorem d7 : decode yB 7 = .ok (.if_icmp (.ge) 37, 3) := by decide +kernel
theorem d10 : decode yB 10 = .ok (.aload_n 0, 1) := by decide +kernel
theorem d11 : decode yB 11 = .ok (.iload_n 1, 1) := by decide +kernel
theorem d12 : decode yB 12 = .ok (.caload, 1) := by decide +kernel
theorem d13 : decode yB 13 = .ok (.istore 6, 2) := by decide +kernel
theorem d15 : decode yB 15 = .ok (.iload 6, 2) := by decide +kernel
theorem d17 : decode yB 17 = .ok (.sipush 255, 3) := by decide +kernel
theorem d20 : decode yB 20 = .ok (.if_icmp (.le) 6, 3) := by decide +kernel
theorem d26 : decode yB 26 = .ok (.aload_n 2, 1) := by decide +kernel
theorem d27 : decode yB 27 = .ok (.iload_n 3, 1) := by decide +kernel
theorem d28 : decode yB 28 = .ok (.iload 6, 2) := by decide +kernel
theorem d30 : decode yB 30 = .ok (.i2b, 1) := by decide +kernel
theorem d31 : decode yB 31 = .ok (.bastore, 1) := by decide +kernel
theorem d32 : decode yB 32 = .ok (.iinc 1 1, 3) := by decide +kernel
theorem d35 : decode yB 35 = .ok (.iinc 3 1, 3) := by decide +kernel
theorem d38 : decode yB 38 = .ok (.iinc 5 1, 3) := by decide +kernel
theorem d41 : decode yB 41 = .ok (.goto (-38), 3) := by decide +kernel
theorem d44 : decode yB 44 = .ok (.iload 4, 2) := by decide +kernel
theorem d46 : decode yB 46 = .ok (.ireturn, 1) := by decide +kernel
def site : List Cond := []
def tab : Cond := tabOf yN yB 7 (some .int) site
def P (b : Addr) (A : Cell) (d : Addr) (B : Cell) (o q len : Nat) (args : Array Value) (s : State) : Prop := args = #[.ref b, .int (Int32.ofNat o), .ref d, .int (Int32.ofNat q), .int (Int32.ofNat len)] ∧ Ch b A s ∧ Arr .byte d B s ∧ b ≠ d ∧ o + len ≤ A.slots.size ∧ q + len ≤ B.slots.size ∧ ∀ i, i < len → ¬ 255 < cv A (o + i)
def E (b : Addr) (A : Cell) (d : Addr) (B : Cell) (o q len : Nat) (r : Option Value) (s u : State) : Prop := r = some (.int (Int32.ofNat len)) ∧ ∃ B', Put d B' s u ∧ Laid B B' q (q + len) (fun j => Value.int (lo8 (cv A (o + (j - q)))))
/-- no char of the range above 255: len; the places written hold each char's low byte -/
theorem law (l : Launch) (b : Addr) (A : Cell) (d : Addr) (B : Cell) (o q len : Nat) : Law l yN 5 5 0 0 yB 7 (some .int) site (P b A d B o q len) (E b A d B o q len) (copyLocs d q len) 0 0 := by
  refine Law.of_walk (plainFor_of_name (by decide +kernel)) (by decide +kernel) (by decide +kernel) (by decide) (fun _ _ h => by rw [h.1]; rfl) (fun _ U U' hal hh h => ⟨h.1, h.2.1.mv hal hh, h.2.2.1.mv hal hh, h.2.2.2⟩) (fun r U U' V V' h1 hal h2 h => ⟨h.1, h.2.elim fun B' q => ⟨B', q.1.mv h1 h2, q.2⟩⟩) ?_
  intro p e s m args below meth c s₁ X0 hexec hbytes hml hret hlk hnm hown hh0 W hP
  obtain ⟨rfl, hA, hB, hne, l1, l2, hp⟩ := hP
  have c1 : Steps p.tables e below (s₁.setTop (entryFrame m #[.ref b, .int (Int32.ofNat o), .ref d, .int (Int32.ofNat q), .int (Int32.ofNat len)] 7)) (s₁.setTop (mkF m 0 #[.val (.ref b), .val (.int (Int32.ofNat o)), .val (.ref d), .val (.int (Int32.ofNat q)), .val (.int (Int32.ofNat len)), .unset, .unset] [])) := entry rfl
  have hA0 := hA.1.mv X0.warmed.alike hh0
  have hB0 := hB.mv X0.warmed.alike hh0
  have a31 := hA.1.2.2.2
  have c2 : Steps p.tables e below (s₁.setTop (entryFrame m #[.ref b, .int (Int32.ofNat o), .ref d, .int (Int32.ofNat q), .int (Int32.ofNat len)] 7)) (s₁.setTop (mkF m 3 #[.val (.ref b), .val (.int (Int32.ofNat o)), .val (.ref d), .val (.int (Int32.ofNat q)), .val (.int (Int32.ofNat len)), .val (.int 0), .unset] [])) := c1.trans (by
    refine iconstV X0.here hexec rfl 0 (hb hbytes d0) (by decide) ?_
    refine XS.istore X0.here hexec rfl (hb hbytes d1) rfl rfl ?_
    exact Steps.refl _)
  have loop : ∀ (r i : Nat), i + r = len → ∀ (z : Slot), (z = .unset ∨ ∃ w, z = .val w ∧ w.category = 1) → ∀ (Tl : State) (Bk : Cell), Stand p l e { frames := 0, locals := 0, cells := 0, slots := 0 } s m #[.ref b, .int (Int32.ofNat o), .ref d, .int (Int32.ofNat q), .int (Int32.ofNat len)] below meth c Tl ([] ++ copyLocs d q i) 0 0 → Put d Bk s₁ Tl → Laid B Bk q (q + i) (fun j => Value.int (lo8 (cv A (o + (j - q))))) →
      Steps p.tables e below (s₁.setTop (entryFrame m #[.ref b, .int (Int32.ofNat o), .ref d, .int (Int32.ofNat q), .int (Int32.ofNat len)] 7)) (Tl.setTop (mkF m 3 #[.val (.ref b), .val (.int (Int32.ofNat (o + i))), .val (.ref d), .val (.int (Int32.ofNat (q + i))), .val (.int (Int32.ofNat len)), .val (.int (Int32.ofNat i)), z] [])) → ∃ (T' : State) (B' : Cell) (z' : Slot), Stand p l e { frames := 0, locals := 0, cells := 0, slots := 0 } s m #[.ref b, .int (Int32.ofNat o), .ref d, .int (Int32.ofNat q), .int (Int32.ofNat len)] below meth c T' ([] ++ copyLocs d q len) 0 0 ∧ Put d B' s₁ T' ∧ Laid B B' q (q + len) (fun j => Value.int (lo8 (cv A (o + (j - q))))) ∧
      Steps p.tables e below (s₁.setTop (entryFrame m #[.ref b, .int (Int32.ofNat o), .ref d, .int (Int32.ofNat q), .int (Int32.ofNat len)] 7)) (T'.setTop (mkF m 3 #[.val (.ref b), .val (.int (Int32.ofNat (o + len))), .val (.ref d), .val (.int (Int32.ofNat (q + len))), .val (.int (Int32.ofNat len)), .val (.int (Int32.ofNat len)), z'] [])) := by
    intro r
    induction r with
    | zero =>
      intro i hi z hz Tl Bk Xl pl fl cl
      have hil : i = len := by omega
      rw [hil] at Xl fl cl
      exact ⟨Tl, Bk, z, Xl, pl, fl, cl⟩
    | succ r ih =>
      intro i hi z hz Tl Bk Xl pl fl cl
      have all := X0.warmed.alike.symm.trans Xl.warmed.alike
      have hAl := hA0.keep all (pl.other hne hA0.1)
      have hBk := hB0.like all pl.1 fl.1 fl.2.1 fl.2.2.1
      have hlt : q + i < Bk.slots.size := by rw [fl.2.2.1]; omega
      have c3 : Steps p.tables e below (s₁.setTop (entryFrame m #[.ref b, .int (Int32.ofNat o), .ref d, .int (Int32.ofNat q), .int (Int32.ofNat len)] 7)) (Tl.setTop (mkF m 12 #[.val (.ref b), .val (.int (Int32.ofNat (o + i))), .val (.ref d), .val (.int (Int32.ofNat (q + i))), .val (.int (Int32.ofNat len)), .val (.int (Int32.ofNat i)), z] [.int (Int32.ofNat (o + i)), .ref b])) := cl.trans (by
        refine XS.iload Xl.here hexec rfl (hb hbytes d3) rfl ?_
        refine XS.iload Xl.here hexec rfl (hb hbytes d5) rfl ?_
        refine XS.icmpNo Xl.here hexec rfl (hb hbytes d7) rfl (ii_ge_f (lt32 (by omega) (by omega))) ?_
        refine XS.aloadN Xl.here hexec rfl (hb hbytes d10) rfl rfl ?_
        refine XS.iloadN Xl.here hexec rfl (hb hbytes d11) rfl ?_
        exact Steps.refl _)
      have c4 : Steps p.tables e below (s₁.setTop (entryFrame m #[.ref b, .int (Int32.ofNat o), .ref d, .int (Int32.ofNat q), .int (Int32.ofNat len)] 7)) (Tl.setTop (mkF m 13 #[.val (.ref b), .val (.int (Int32.ofNat (o + i))), .val (.ref d), .val (.int (Int32.ofNat (q + i))), .val (.int (Int32.ofNat len)), .val (.int (Int32.ofNat i)), z] [.int (cv A (o + i))])) := c3.trans (by
        refine Xl.aget hexec hAl rfl (hA.get (i := o + i) (by omega)) rfl rfl (hb hbytes d12) ?_
        exact Steps.refl _)
      have c5 : Steps p.tables e below (s₁.setTop (entryFrame m #[.ref b, .int (Int32.ofNat o), .ref d, .int (Int32.ofNat q), .int (Int32.ofNat len)] 7)) (Tl.setTop (mkF m 15 #[.val (.ref b), .val (.int (Int32.ofNat (o + i))), .val (.ref d), .val (.int (Int32.ofNat (q + i))), .val (.int (Int32.ofNat len)), .val (.int (Int32.ofNat i)), .val (.int (cv A (o + i)))] [])) := c4.trans (by
        refine XS.istoreS Xl.here hexec rfl (hb hbytes d13) rfl rfl hz ?_
        exact Steps.refl _)
      have c6 : Steps p.tables e below (s₁.setTop (entryFrame m #[.ref b, .int (Int32.ofNat o), .ref d, .int (Int32.ofNat q), .int (Int32.ofNat len)] 7)) (Tl.setTop (mkF m 31 #[.val (.ref b), .val (.int (Int32.ofNat (o + i))), .val (.ref d), .val (.int (Int32.ofNat (q + i))), .val (.int (Int32.ofNat len)), .val (.int (Int32.ofNat i)), .val (.int (cv A (o + i)))] [.int (lo8 (cv A (o + i))), .int (Int32.ofNat (q + i)), .ref d])) := c5.trans (by
        refine XS.iload Xl.here hexec rfl (hb hbytes d15) rfl ?_
        refine sipushV Xl.here hexec rfl 255 (hb hbytes d17) (by decide) ?_
        refine XS.icmpYes Xl.here hexec rfl (pc0 := 20) rfl (hb hbytes d20) rfl (ii_le_t (hp i (by omega))) (by decide) rfl ?_
        refine XS.aloadN Xl.here hexec rfl (hb hbytes d26) rfl rfl ?_
        refine XS.iloadN Xl.here hexec rfl (hb hbytes d27) rfl ?_
        refine XS.iload Xl.here hexec rfl (hb hbytes d28) rfl ?_
        refine i2b Xl.here hexec rfl (hb hbytes d30) rfl ?_
        exact Steps.refl _)
      obtain ⟨T7, X7, p7, st7⟩ := Xl.aput hexec hBk rfl hlt rfl (fits_lo8 (cv A (o + i))) (g := (mkF m 31 #[.val (.ref b), .val (.int (Int32.ofNat (o + i))), .val (.ref d), .val (.int (Int32.ofNat (q + i))), .val (.int (Int32.ofNat len)), .val (.int (Int32.ofNat i)), .val (.int (cv A (o + i)))] [.int (lo8 (cv A (o + i))), .int (Int32.ofNat (q + i)), .ref d])) rfl (rest := []) rfl (hb hbytes d31)
      have c8 : Steps p.tables e below (s₁.setTop (entryFrame m #[.ref b, .int (Int32.ofNat o), .ref d, .int (Int32.ofNat q), .int (Int32.ofNat len)] 7)) (T7.setTop (mkF m 32 #[.val (.ref b), .val (.int (Int32.ofNat (o + i))), .val (.ref d), .val (.int (Int32.ofNat (q + i))), .val (.int (Int32.ofNat len)), .val (.int (Int32.ofNat i)), .val (.int (cv A (o + i)))] [])) := c6.trans (st7 _ (Steps.refl _))
      have c9 : Steps p.tables e below (s₁.setTop (entryFrame m #[.ref b, .int (Int32.ofNat o), .ref d, .int (Int32.ofNat q), .int (Int32.ofNat len)] 7)) (T7.setTop (mkF m 3 #[.val (.ref b), .val (.int (Int32.ofNat (o + i) + 1)), .val (.ref d), .val (.int (Int32.ofNat (q + i) + 1)), .val (.int (Int32.ofNat len)), .val (.int (Int32.ofNat i + 1)), .val (.int (cv A (o + i)))] [])) := c8.trans (by
        refine iincV X7.here hexec rfl 1 (hb hbytes d32) (by decide) rfl rfl ?_
        refine iincV X7.here hexec rfl 1 (hb hbytes d35) (by decide) rfl rfl ?_
        refine iincV X7.here hexec rfl 1 (hb hbytes d38) (by decide) rfl rfl ?_
        refine XS.goto X7.here hexec rfl (pc0 := 41) rfl (hb hbytes d41) (by decide) rfl ?_
        exact Steps.refl _)
      have c10 : Steps p.tables e below (s₁.setTop (entryFrame m #[.ref b, .int (Int32.ofNat o), .ref d, .int (Int32.ofNat q), .int (Int32.ofNat len)] 7)) (T7.setTop (mkF m 3 #[.val (.ref b), .val (.int (Int32.ofNat (o + (i + 1)))), .val (.ref d), .val (.int (Int32.ofNat (q + (i + 1)))), .val (.int (Int32.ofNat len)), .val (.int (Int32.ofNat (i + 1))), .val (.int (cv A (o + i)))] [])) := by
        have := c9
        rw [succ32, succ32, succ32] at this
        exact this
      exact ih (i + 1) (by omega) _ (Or.inr ⟨_, rfl, rfl⟩) T7 _ (by rw [copyLocs_step, ← List.append_assoc]; exact X7) (pl.trans p7) (fl.step (by omega) hlt (by simp)) c10
  obtain ⟨T9, B9, z9, X9, p9, f9, g9⟩ := loop len 0 (by omega) .unset (Or.inl rfl) s₁ B (by simpa [copyLocs] using X0) ⟨hB0.1, fun _ _ => rfl, rfl⟩ (Laid.zero _ _ _) c2
  have c11 : Steps p.tables e below (s₁.setTop (entryFrame m #[.ref b, .int (Int32.ofNat o), .ref d, .int (Int32.ofNat q), .int (Int32.ofNat len)] 7)) (T9.setTop (mkF m 46 #[.val (.ref b), .val (.int (Int32.ofNat (o + len))), .val (.ref d), .val (.int (Int32.ofNat (q + len))), .val (.int (Int32.ofNat len)), .val (.int (Int32.ofNat len)), z9] [.int (Int32.ofNat len)])) := g9.trans (by
    refine XS.iload X9.here hexec rfl (hb hbytes d3) rfl ?_
    refine XS.iload X9.here hexec rfl (hb hbytes d5) rfl ?_
    refine XS.icmpYes X9.here hexec rfl (pc0 := 7) rfl (hb hbytes d7) rfl (ii_ge_t (nlt32 (by omega) (Nat.le_refl _))) (by decide) rfl ?_
    refine XS.iload X9.here hexec rfl (hb hbytes d44) rfl ?_
    exact Steps.refl _)
  exact ⟨T9, some (.int (Int32.ofNat len)), _, _, _, X9, by simp, rfl, rfl, (fun h => by cases h), ⟨rfl, B9, p9.from hh0, f9⟩, fun fs hl => c11.trans (X9.ireturnOut hexec hret rfl (Or.inl rfl) (hb hbytes d46) hl)⟩
end Cmp5
namespace Cmp3
def yN : MethodName := ⟨"java/lang/StringUTF16", "compress", "([CII)[B"⟩
abbrev yB : ByteArray := jdk_52_method_16_code
theorem d0 : decode yB 0 = .ok (.iload_n 2, 1) := by decide +kernel
theorem d1 : decode yB 1 = .ok (.newarray .byte, 2) := by decide +kernel
theorem d3 : decode yB 3 = .ok (.astore_n 3, 1) := by decide +kernel
theorem d4 : decode yB 4 = .ok (.aload_n 0, 1) := by decide +kernel
theorem d5 : decode yB 5 = .ok (.iload_n 1, 1) := by decide +kernel
theorem d6 : decode yB 6 = .ok (.aload_n 3, 1) := by decide +kernel
theorem d7 : decode yB 7 = .ok (.iconst 0, 1) := by decide +kernel
theorem d8 : decode yB 8 = .ok (.iload_n 2, 1) := by decide +kernel
theorem d9 : decode yB 9 = .ok (.invokestatic 115, 3) := by decide +kernel
theorem d12 : decode yB 12 = .ok (.istore 4, 2) := by decide +kernel
theorem d14 : decode yB 14 = .ok (.iload 4, 2) := by decide +kernel
theorem d16 : decode yB 16 = .ok (.iload_n 2, 1) := by decide +kernel
theorem d17 : decode yB 17 = .ok (.if_icmp (.eq) 40, 3) := by decide +kernel
theorem d57 : decode yB 57 = .ok (.aload_n 3, 1) := by decide +kernel
theorem d58 : decode yB 58 = .ok (.areturn, 1) := by decide +kernel
def site : List Cond := [.arrayClass .byte, Cmp5.tab] ++ staticW U16 115 Cmp5.yN
def tab : Cond := tabOf yN yB 6 (some (.array .byte)) site
def P (b : Addr) (A : Cell) (o len : Nat) (args : Array Value) (s : State) : Prop := args = #[.ref b, .int (Int32.ofNat o), .int (Int32.ofNat len)] ∧ Ch b A s ∧ o + len ≤ A.slots.size ∧ len ≤ 536870912 ∧ ∀ i, i < len → ¬ 255 < cv A (o + i)
def E (b : Addr) (A : Cell) (o len : Nat) (r : Option Value) (s u : State) : Prop := NewArr .byte "[B" len (fun j => .int (lo8 (cv A (o + j)))) r s u ∧ u.heap.size = s.heap.size + 1
/-- no char of the range above 255: a new byte[] of their low bytes -/
theorem law (l : Launch) (b : Addr) (A : Cell) (o len : Nat) : Law l yN 3 3 1 18 yB 6 (some (.array .byte)) site (P b A o len) (E b A o len) [] 1 len := by
  refine Law.of_walk (plainFor_of_name (by decide +kernel)) (by decide +kernel) (by decide +kernel) (by decide) (fun _ _ h => by rw [h.1]; rfl) (fun _ U U' hal hh h => ⟨h.1, h.2.1.mv hal hh, h.2.2⟩) (fun r U U' V V' h1 hal h2 h => ⟨NewArr.mv r U U' V V' h1 hal h2 h.1, by rw [h1, h2]; exact h.2⟩) ?_
  intro p e s m args below meth c s₁ X0 hexec hbytes hml hret hlk hnm hown hh0 W hP
  obtain ⟨rfl, hA, l1, l2, hp⟩ := hP
  have a31 := hA.1.2.2.2
  have c1 : Steps p.tables e below (s₁.setTop (entryFrame m #[.ref b, .int (Int32.ofNat o), .int (Int32.ofNat len)] 6)) (s₁.setTop (mkF m 0 #[.val (.ref b), .val (.int (Int32.ofNat o)), .val (.int (Int32.ofNat len)), .unset, .unset, .unset] [])) := entry rfl
  have c2 : Steps p.tables e below (s₁.setTop (entryFrame m #[.ref b, .int (Int32.ofNat o), .int (Int32.ofNat len)] 6)) (s₁.setTop (mkF m 1 #[.val (.ref b), .val (.int (Int32.ofNat o)), .val (.int (Int32.ofNat len)), .unset, .unset, .unset] [.int (Int32.ofNat len)])) := c1.trans (by
    refine XS.iloadN X0.here hexec rfl (hb hbytes d0) rfl ?_
    exact Steps.refl _)
  obtain ⟨T3, B3, X3, ba3, bs3, bv3, bh3, bf3, st3⟩ := X0.anew hexec (atype := .byte) (wk W (.arrayClass .byte)) rfl (by show len * 1 ≤ _; omega) (by omega) (g := (mkF m 1 #[.val (.ref b), .val (.int (Int32.ofNat o)), .val (.int (Int32.ofNat len)), .unset, .unset, .unset] [.int (Int32.ofNat len)])) rfl (hb hbytes d1) (rest := []) rfl (Nat.le_refl _) (by show 0 + len ≤ len; omega)
  rw [hh0] at ba3 st3
  have kp3 : XT.Kept s T3 := (XT.Kept.of_eq hh0).push bh3
  have hA3 := hA.keep X3.warmed.alike (kp3 _ _ hA.1.1)
  have hne : b ≠ s.heap.size := hA.1.ne
  have c4 : Steps p.tables e below (s₁.setTop (entryFrame m #[.ref b, .int (Int32.ofNat o), .int (Int32.ofNat len)] 6)) (T3.setTop (mkF m 3 #[.val (.ref b), .val (.int (Int32.ofNat o)), .val (.int (Int32.ofNat len)), .unset, .unset, .unset] [.ref s.heap.size])) := c2.trans (st3 _ (Steps.refl _))
  have c5 : Steps p.tables e below (s₁.setTop (entryFrame m #[.ref b, .int (Int32.ofNat o), .int (Int32.ofNat len)] 6)) (T3.setTop (mkF m 9 #[.val (.ref b), .val (.int (Int32.ofNat o)), .val (.int (Int32.ofNat len)), .val (.ref s.heap.size), .unset, .unset] [.int (Int32.ofNat len), .int 0, .ref s.heap.size, .int (Int32.ofNat o), .ref b])) := c4.trans (by
    refine XS.astoreN X3.here hexec rfl (hb hbytes d3) rfl rfl rfl ?_
    refine XS.aloadN X3.here hexec rfl (hb hbytes d4) rfl rfl ?_
    refine XS.iloadN X3.here hexec rfl (hb hbytes d5) rfl ?_
    refine XS.aloadN X3.here hexec rfl (hb hbytes d6) rfl rfl ?_
    refine iconstV X3.here hexec rfl 0 (hb hbytes d7) (by decide) ?_
    refine XS.iloadN X3.here hexec rfl (hb hbytes d8) rfl ?_
    exact Steps.refl _)
  obtain ⟨v6, T6, X6, E6, g6⟩ := X3.callS hexec (Cmp5.law l b A s.heap.size B3 o 0 len) hown (wks W (staticW U16 115 Cmp5.yN)) (wk W Cmp5.tab) (W := 0) (Nat.le_of_ble_eq_true rfl) (Nat.le_of_ble_eq_true rfl) (Nat.le_refl _) (by show 0 + len + 0 ≤ len; omega) (g := (mkF m 9 #[.val (.ref b), .val (.int (Int32.ofNat o)), .val (.int (Int32.ofNat len)), .val (.ref s.heap.size), .unset, .unset] [.int (Int32.ofNat len), .int (Int32.ofNat 0), .ref s.heap.size, .int (Int32.ofNat o), .ref b])) rfl (by rw [hml]; rfl) c5 (argsL := [.ref b, .int (Int32.ofNat o), .ref s.heap.size, .int (Int32.ofNat 0), .int (Int32.ofNat len)]) (rest := []) rfl rfl (by show 2 * 0 + 0 ≤ _; decide) (hb hbytes d9) (⟨rfl, hA3, ba3, hne, l1, by rw [bs3]; simp, hp⟩)
  obtain ⟨rfl, B6, p6, f6⟩ := E6
  have c7 : Steps p.tables e below (s₁.setTop (entryFrame m #[.ref b, .int (Int32.ofNat o), .int (Int32.ofNat len)] 6)) (T6.setTop (mkF m 12 #[.val (.ref b), .val (.int (Int32.ofNat o)), .val (.int (Int32.ofNat len)), .val (.ref s.heap.size), .unset, .unset] [.int (Int32.ofNat len)])) := g6
  have c8 : Steps p.tables e below (s₁.setTop (entryFrame m #[.ref b, .int (Int32.ofNat o), .int (Int32.ofNat len)] 6)) (T6.setTop (mkF m 58 #[.val (.ref b), .val (.int (Int32.ofNat o)), .val (.int (Int32.ofNat len)), .val (.ref s.heap.size), .val (.int (Int32.ofNat len)), .unset] [.ref s.heap.size])) := c7.trans (by
    refine XS.istore X6.here hexec rfl (hb hbytes d12) rfl rfl ?_
    refine XS.iload X6.here hexec rfl (hb hbytes d14) rfl ?_
    refine XS.iloadN X6.here hexec rfl (hb hbytes d16) rfl ?_
    refine XS.icmpYes X6.here hexec rfl (pc0 := 17) rfl (hb hbytes d17) rfl (ii_eq_t rfl) (by decide) rfl ?_
    refine XS.aloadN X6.here hexec rfl (hb hbytes d57) rfl rfl ?_
    exact Steps.refl _)
  have X8 := X6.wide (L' := []) (cells' := 1) (slots' := len) (fun x hx hlt => by
    simp only [List.nil_append, copyLocs, List.mem_map, List.mem_range] at hx
    obtain ⟨i, -, rfl⟩ := hx
    exact absurd hlt (Nat.lt_irrefl _)) (Nat.le_refl _) (by omega)
  exact ⟨T6, some (.ref s.heap.size), _, _, _, X8, rfl, rfl, rfl, (fun h => by cases h), ⟨⟨rfl, B6, ba3.like (X3.warmed.alike.symm.trans X6.warmed.alike) p6.1 f6.1 f6.2.1 f6.2.2.1, f6.2.1.trans bv3, by rw [X6.warmed.alike.findClass, f6.1]; exact bf3, by rw [f6.2.2.1, bs3]; simp, fun j hj => by rw [f6.2.2.2 j, if_pos (by omega)]; rfl, kp3.put p6 (Nat.le_refl _)⟩, by rw [p6.2.2, bh3, hh0]; simp⟩, fun fs hl => c8.trans (X8.areturnOut hexec rfl hret rfl (hb hbytes d58) hl)⟩
end Cmp3
namespace CodL
def yN : MethodName := ⟨"java/lang/StringUTF16", "coderFromArrayLen", "([BI)B"⟩
abbrev yB : ByteArray := jdk_52_method_15_code
theorem d0 : decode yB 0 = .ok (.iload_n 1, 1) := by decide +kernel
theorem d1 : decode yB 1 = .ok (.aload_n 0, 1) := by decide +kernel
theorem d2 : decode yB 2 = .ok (.arraylength, 1) := by decide +kernel
theorem d3 : decode yB 3 = .ok (.isub, 1) := by decide +kernel
theorem d4 : decode yB 4 = .ok (.bipush 31, 2) := by decide +kernel
theorem d6 : decode yB 6 = .ok (.iushr, 1) := by decide +kernel
theorem d7 : decode yB 7 = .ok (.i2b, 1) := by decide +kernel
theorem d8 : decode yB 8 = .ok (.ireturn, 1) := by decide +kernel
def site : List Cond := []
def tab : Cond := tabOf yN yB 2 (some .byte) site
def P (d : Addr) (B : Cell) (args : Array Value) (s : State) : Prop := args = #[.ref d, .int (Int32.ofNat B.slots.size)] ∧ Arr .byte d B s
def E (r : Option Value) (s u : State) : Prop := XT.PureE (some (.int 0)) r s u
/-- an array as long as the number of chars: LATIN1 -/
theorem law (l : Launch) (d : Addr) (B : Cell) : Law l yN 2 2 0 0 yB 2 (some .byte) site (P d B) E [] 0 0 := by
  refine Law.of_walk (plainFor_of_name (by decide +kernel)) (by decide +kernel) (by decide +kernel) (by decide) (fun _ _ h => by rw [h.1]; rfl) (fun _ U U' hal hh h => ⟨h.1, h.2.mv hal hh⟩) (fun r U U' V V' h1 hal h2 h => XT.PureE.mv r U U' V V' h1 hal h2 h) ?_
  intro p e s m args below meth c s₁ X0 hexec hbytes hml hret hlk hnm hown hh0 W hP
  obtain ⟨rfl, hB⟩ := hP
  have hB0 := hB.mv X0.warmed.alike hh0
  have c1 : Steps p.tables e below (s₁.setTop (entryFrame m #[.ref d, .int (Int32.ofNat B.slots.size)] 2)) (s₁.setTop (mkF m 0 #[.val (.ref d), .val (.int (Int32.ofNat B.slots.size))] [])) := entry rfl
  have c2 : Steps p.tables e below (s₁.setTop (entryFrame m #[.ref d, .int (Int32.ofNat B.slots.size)] 2)) (s₁.setTop (mkF m 2 #[.val (.ref d), .val (.int (Int32.ofNat B.slots.size))] [.ref d, .int (Int32.ofNat B.slots.size)])) := c1.trans (by
    refine XS.iloadN X0.here hexec rfl (hb hbytes d0) rfl ?_
    refine XS.aloadN X0.here hexec rfl (hb hbytes d1) rfl rfl ?_
    exact Steps.refl _)
  have c3 : Steps p.tables e below (s₁.setTop (entryFrame m #[.ref d, .int (Int32.ofNat B.slots.size)] 2)) (s₁.setTop (mkF m 8 #[.val (.ref d), .val (.int (Int32.ofNat B.slots.size))] [.int (lo8 (ushr (Int32.ofNat B.slots.size - Int32.ofNat B.slots.size) 31))])) := c2.trans (by
    refine X0.alen hexec hB0 rfl rfl (hb hbytes d2) ?_
    refine XS.isub X0.here hexec rfl (hb hbytes d3) rfl ?_
    refine bipushV X0.here hexec rfl 31 (hb hbytes d4) (by decide) ?_
    refine iushr X0.here hexec rfl (hb hbytes d6) rfl ?_
    refine i2b X0.here hexec rfl (hb hbytes d7) rfl ?_
    exact Steps.refl _)
  have e0 : lo8 (ushr (Int32.ofNat B.slots.size - Int32.ofNat B.slots.size) 31) = 0 := by rw [Int32.sub_self]; decide
  rw [e0] at c3
  exact ⟨s₁, some (.int 0), _, _, _, X0, rfl, rfl, rfl, (fun h => by cases h), ⟨rfl, hh0⟩, fun fs hl => c3.trans (X0.ireturnOut hexec hret rfl (Or.inr (Or.inr (Or.inl rfl))) (hb hbytes d8) hl)⟩
end CodL
/-- the String at a is Latin-1 over a new byte[] (the heap's one new cell): the low bytes of the len chars of A from o on; every cell but a is kept -/
def Got (a : Addr) (D : Cell) (fV fC : Field) (A : Cell) (o len : Nat) (r : Option Value) (s u : State) : Prop := r = none ∧ ∃ D' V : Cell, Blank "java/lang/String" a D' u ∧ Same D D' [fV.slot, fC.slot] ∧ D'.slots[fV.slot]? = some (.ref s.heap.size) ∧ D'.slots[fC.slot]? = some (.int 0) ∧ Arr .byte s.heap.size V u ∧ V.vm = .none ∧ u.vm.findClass "[B" = some V.cls ∧ V.slots.size = len ∧ (∀ j, j < len → V.slots[j]? = some (.int (lo8 (cv A (o + j))))) ∧ (∀ (y : Addr) (c : Cell), y ≠ a → s.heap[y]? = some c → u.heap[y]? = some c) ∧ u.heap.size = s.heap.size + 1
theorem Got.mv {a : Addr} {D A : Cell} {fV fC : Field} {o len : Nat} : ∀ r (U U' V V' : State), U'.heap = U.heap → V.vm.Alike V'.vm → V'.heap = V.heap → Got a D fV fC A o len r U V → Got a D fV fC A o len r U' V' :=
  fun r U U' V V' h1 hal h2 ⟨e0, D', X, a1, a2, a3, a4, a5, a6, a7, a8, a9, a10, a11⟩ => ⟨e0, D', X, a1.mv hal h2, a2, by rw [h1]; exact a3, a4, by rw [h1]; exact a5.mv hal h2, a6, by rw [hal.findClass]; exact a7, a8, a9, by rw [h1, h2]; exact a10, by rw [h1, h2]; exact a11⟩
namespace New4
def yN : MethodName := ⟨"java/lang/String", "<init>", "([CIILjava/lang/Void;)V"⟩
abbrev yB : ByteArray := jdk_42_method_149_code
theorem d0 : decode yB 0 = .ok (.aload_n 0, 1) := by decide +kernel
theorem d1 : decode yB 1 = .ok (.invokespecial 1, 3) := by decide +kernel
theorem d4 : decode yB 4 = .ok (.iload_n 3, 1) := by decide +kernel
theorem d5 : decode yB 5 = .ok (.ifCond (.ne) 22, 3) := by decide +kernel
theorem d27 : decode yB 27 = .ok (.getstatic 38, 3) := by decide +kernel
theorem d30 : decode yB 30 = .ok (.ifCond (.eq) 28, 3) := by decide +kernel
theorem d33 : decode yB 33 = .ok (.aload_n 1, 1) := by decide +kernel
theorem d34 : decode yB 34 = .ok (.iload_n 2, 1) := by decide +kernel
theorem d35 : decode yB 35 = .ok (.iload_n 3, 1) := by decide +kernel
theorem d36 : decode yB 36 = .ok (.invokestatic 177, 3) := by decide +kernel
theorem d39 : decode yB 39 = .ok (.astore 5, 2) := by decide +kernel
theorem d41 : decode yB 41 = .ok (.aload_n 0, 1) := by decide +kernel
theorem d42 : decode yB 42 = .ok (.aload 5, 2) := by decide +kernel
theorem d44 : decode yB 44 = .ok (.iload_n 3, 1) := by decide +kernel
theorem d45 : decode yB 45 = .ok (.invokestatic 47, 3) := by decide +kernel
theorem d48 : decode yB 48 = .ok (.putfield 15, 3) := by decide +kernel
theorem d51 : decode yB 51 = .ok (.aload_n 0, 1) := by decide +kernel
theorem d52 : decode yB 52 = .ok (.aload 5, 2) := by decide +kernel
theorem d54 : decode yB 54 = .ok (.putfield 9, 3) := by decide +kernel
theorem d57 : decode yB 57 = .ok (.return_, 1) := by decide +kernel
def site : List Cond := [.fieldLink "java/lang/String" 38 "java/lang/String" "COMPACT_STRINGS" "Z", Cmp3.tab, CodL.tab, .laysFinal "java/lang/String" "java/lang/String" "value" "[B", .fieldLink "java/lang/String" 9 "java/lang/String" "value" "[B", .laysFinal "java/lang/String" "java/lang/String" "coder" "B", .fieldLink "java/lang/String" 15 "java/lang/String" "coder" "B"] ++ objW "java/lang/String" 1 ++ staticW "java/lang/String" 177 Cmp3.yN ++ staticW "java/lang/String" 47 CodL.yN
def tab : Cond := tabOf yN yB 6 none site
def P (a : Addr) (D : Cell) (fV fC : Field) (b : Addr) (A : Cell) (z : Int32) (o len : Nat) (args : Array Value) (s : State) : Prop := args = #[.ref a, .ref b, .int (Int32.ofNat o), .int (Int32.ofNat len), .null] ∧ Blank "java/lang/String" a D s ∧ Found "java/lang/String" "value" "[B" fV s ∧ Found "java/lang/String" "coder" "B" fC s ∧ Ch b A s ∧ StaticIs s "java/lang/String" "COMPACT_STRINGS" "Z" (.int z) ∧ ¬ z = 0 ∧ 0 < len ∧ o + len ≤ A.slots.size ∧ len ≤ 536870912 ∧ ∀ i, i < len → ¬ 255 < cv A (o + i)
def E (a : Addr) (D : Cell) (fV fC : Field) (A : Cell) (o len : Nat) (r : Option Value) (s u : State) : Prop := Got a D fV fC A o len r s u
/-- len > 0, no char of the range above 255: a Latin-1 String of their low bytes -/
theorem law (l : Launch) (a : Addr) (D : Cell) (fV fC : Field) (b : Addr) (A : Cell) (z : Int32) (o len : Nat) : Law l yN 5 4 2 35 yB 6 none site (P a D fV fC b A z o len) (E a D fV fC A o len) [⟨a, fC.slot⟩, ⟨a, fV.slot⟩] 1 len := by
  refine Law.of_walk (plainFor_of_name (by decide +kernel)) (by decide +kernel) (by decide +kernel) (by decide) (fun _ _ h => by rw [h.1]; rfl) (fun _ U U' hal hh h => ⟨h.1, h.2.1.mv hal hh, h.2.2.1.al hal, h.2.2.2.1.al hal, h.2.2.2.2.1.mv hal hh, h.2.2.2.2.2.1.there hal hh, h.2.2.2.2.2.2⟩) (fun r U U' V V' h1 hal h2 h => Got.mv r U U' V V' h1 hal h2 h) ?_
  intro p e s m args below meth c s₁ X0 hexec hbytes hml hret hlk hnm hown hh0 W hP
  obtain ⟨rfl, hB, f1, f2, hA, s1, hz, l0, l1, l2, hp⟩ := hP
  have a31 := hA.1.2.2.2
  have c1 : Steps p.tables e below (s₁.setTop (entryFrame m #[.ref a, .ref b, .int (Int32.ofNat o), .int (Int32.ofNat len), .null] 6)) (s₁.setTop (mkF m 0 #[.val (.ref a), .val (.ref b), .val (.int (Int32.ofNat o)), .val (.int (Int32.ofNat len)), .val .null, .unset] [])) := entry rfl
  have c2 : Steps p.tables e below (s₁.setTop (entryFrame m #[.ref a, .ref b, .int (Int32.ofNat o), .int (Int32.ofNat len), .null] 6)) (s₁.setTop (mkF m 1 #[.val (.ref a), .val (.ref b), .val (.int (Int32.ofNat o)), .val (.int (Int32.ofNat len)), .val .null, .unset] [.ref a])) := c1.trans (by
    refine XS.aloadN X0.here hexec rfl (hb hbytes d0) rfl rfl ?_
    exact Steps.refl _)
  obtain ⟨T3, X3, q3, st3⟩ := X0.oinit hexec hown (wks W (objW "java/lang/String" 1)) (g := (mkF m 1 #[.val (.ref a), .val (.ref b), .val (.int (Int32.ofNat o)), .val (.int (Int32.ofNat len)), .val .null, .unset] [.ref a])) rfl (by rw [hml]; rfl) (rest := []) rfl (hb hbytes d1) (W := 0) (by show 2 * 0 + 0 ≤ _; decide) (Nat.le_of_ble_eq_true rfl) (Nat.le_of_ble_eq_true rfl)
  have hh3 := q3.trans hh0
  have c4 : Steps p.tables e below (s₁.setTop (entryFrame m #[.ref a, .ref b, .int (Int32.ofNat o), .int (Int32.ofNat len), .null] 6)) (T3.setTop (mkF m 27 #[.val (.ref a), .val (.ref b), .val (.int (Int32.ofNat o)), .val (.int (Int32.ofNat len)), .val .null, .unset] [])) := (c2.trans (st3 _ (Steps.refl _))).trans (by
    refine XS.iloadN X3.here hexec rfl (hb hbytes d4) rfl ?_
    refine XS.ifYes X3.here hexec rfl (pc0 := 5) rfl (hb hbytes d5) rfl (i0_ne_t (nz32 (by omega) l0)) (by decide) rfl ?_
    exact Steps.refl _)
  obtain ⟨T5, X5, q5, st5⟩ := X3.sget hexec hown (wk W (.fieldLink "java/lang/String" 38 "java/lang/String" "COMPACT_STRINGS" "Z")) s1 (fun _ _ h => by rw [hh3]; exact h) (g := (mkF m 27 #[.val (.ref a), .val (.ref b), .val (.int (Int32.ofNat o)), .val (.int (Int32.ofNat len)), .val .null, .unset] [])) rfl (hb hbytes d27)
  have hh5 := q5.trans hh3
  have c6 : Steps p.tables e below (s₁.setTop (entryFrame m #[.ref a, .ref b, .int (Int32.ofNat o), .int (Int32.ofNat len), .null] 6)) (T5.setTop (mkF m 30 #[.val (.ref a), .val (.ref b), .val (.int (Int32.ofNat o)), .val (.int (Int32.ofNat len)), .val .null, .unset] [.int z])) := c4.trans (st5 _ (Steps.refl _))
  have c7 : Steps p.tables e below (s₁.setTop (entryFrame m #[.ref a, .ref b, .int (Int32.ofNat o), .int (Int32.ofNat len), .null] 6)) (T5.setTop (mkF m 36 #[.val (.ref a), .val (.ref b), .val (.int (Int32.ofNat o)), .val (.int (Int32.ofNat len)), .val .null, .unset] [.int (Int32.ofNat len), .int (Int32.ofNat o), .ref b])) := c6.trans (by
    refine XS.ifNo X5.here hexec rfl (hb hbytes d30) rfl (i0_eq_f hz) ?_
    refine XS.aloadN X5.here hexec rfl (hb hbytes d33) rfl rfl ?_
    refine XS.iloadN X5.here hexec rfl (hb hbytes d34) rfl ?_
    refine XS.iloadN X5.here hexec rfl (hb hbytes d35) rfl ?_
    exact Steps.refl _)
  obtain ⟨v8, T8, X8, E8, g8⟩ := X5.callS hexec (Cmp3.law l b A o len) hown (wks W (staticW "java/lang/String" 177 Cmp3.yN)) (wk W Cmp3.tab) (W := 0) (Nat.le_of_ble_eq_true rfl) (Nat.le_of_ble_eq_true rfl) (Nat.le_refl _) (by show 0 + len ≤ len; omega) (g := (mkF m 36 #[.val (.ref a), .val (.ref b), .val (.int (Int32.ofNat o)), .val (.int (Int32.ofNat len)), .val .null, .unset] [.int (Int32.ofNat len), .int (Int32.ofNat o), .ref b])) rfl (by rw [hml]; rfl) c7 (argsL := [.ref b, .int (Int32.ofNat o), .int (Int32.ofNat len)]) (rest := []) rfl rfl (by show 2 * 0 + 0 ≤ _; decide) (hb hbytes d36) (⟨rfl, hA.mv X5.warmed.alike hh5, l1, l2, hp⟩)
  obtain ⟨e8, z8⟩ := E8
  obtain ⟨rfl, N, n1, n2, n3, n4, n5, n6⟩ := NewArr.mv _ T5 s _ _ hh5.symm (Vm.Alike.refl _) rfl e8
  rw [hh5] at z8
  have hB1 := hB.keep X8.warmed.alike (n6 _ _ hB.1)
  have hne : s.heap.size ≠ a := (Nat.ne_of_lt (Array.getElem?_eq_some_iff.mp hB.1).1).symm
  have c9 : Steps p.tables e below (s₁.setTop (entryFrame m #[.ref a, .ref b, .int (Int32.ofNat o), .int (Int32.ofNat len), .null] 6)) (T8.setTop (mkF m 39 #[.val (.ref a), .val (.ref b), .val (.int (Int32.ofNat o)), .val (.int (Int32.ofNat len)), .val .null, .unset] [.ref s.heap.size])) := g8
  have c10 : Steps p.tables e below (s₁.setTop (entryFrame m #[.ref a, .ref b, .int (Int32.ofNat o), .int (Int32.ofNat len), .null] 6)) (T8.setTop (mkF m 45 #[.val (.ref a), .val (.ref b), .val (.int (Int32.ofNat o)), .val (.int (Int32.ofNat len)), .val .null, .val (.ref s.heap.size)] [.int (Int32.ofNat N.slots.size), .ref s.heap.size, .ref a])) := by
    have hc : Steps p.tables e below (s₁.setTop (entryFrame m #[.ref a, .ref b, .int (Int32.ofNat o), .int (Int32.ofNat len), .null] 6)) (T8.setTop (mkF m 45 #[.val (.ref a), .val (.ref b), .val (.int (Int32.ofNat o)), .val (.int (Int32.ofNat len)), .val .null, .val (.ref s.heap.size)] [.int (Int32.ofNat len), .ref s.heap.size, .ref a])) := c9.trans (by
      refine XS.astore X8.here hexec rfl (hb hbytes d39) rfl rfl rfl ?_
      refine XS.aloadN X8.here hexec rfl (hb hbytes d41) rfl rfl ?_
      refine XS.aload X8.here hexec rfl (hb hbytes d42) rfl rfl ?_
      refine XS.iloadN X8.here hexec rfl (hb hbytes d44) rfl ?_
      exact Steps.refl _)
    rw [n4]; exact hc
  obtain ⟨v11, T11, X11, E11, g11⟩ := X8.callS hexec (CodL.law l s.heap.size N) hown (wks W (staticW "java/lang/String" 47 CodL.yN)) (wk W CodL.tab) (W := 1) (Nat.le_of_ble_eq_true rfl) (Nat.le_of_ble_eq_true rfl) (Nat.le_refl _) (by show 0 + len + 0 ≤ len; omega) (g := (mkF m 45 #[.val (.ref a), .val (.ref b), .val (.int (Int32.ofNat o)), .val (.int (Int32.ofNat len)), .val .null, .val (.ref s.heap.size)] [.int (Int32.ofNat N.slots.size), .ref s.heap.size, .ref a])) rfl (by rw [hml]; rfl) c10 (argsL := [.ref s.heap.size, .int (Int32.ofNat N.slots.size)]) (rest := [.ref a]) rfl rfl (by show 2 * 0 + (1 + 0) ≤ _; decide) (hb hbytes d45) (⟨rfl, n1⟩)
  obtain ⟨rfl, q11⟩ := E11
  have hB11 := hB1.mv (X8.warmed.alike.symm.trans X11.warmed.alike) q11
  have c12 : Steps p.tables e below (s₁.setTop (entryFrame m #[.ref a, .ref b, .int (Int32.ofNat o), .int (Int32.ofNat len), .null] 6)) (T11.setTop (mkF m 48 #[.val (.ref a), .val (.ref b), .val (.int (Int32.ofNat o)), .val (.int (Int32.ofNat len)), .val .null, .val (.ref s.heap.size)] [.int 0, .ref a])) := g11
  obtain ⟨T13, X13, p13, bl13, sl13, st13⟩ := X11.finit hexec hown (wk W (.fieldLink "java/lang/String" 15 "java/lang/String" "coder" "B")) (Or.inr ⟨_, (wk W (.laysFinal "java/lang/String" "java/lang/String" "coder" "B"))⟩) (Or.inl ⟨rfl, hnm⟩) f2 (Or.inl rfl) hB11 (t := .byte) (by decide +kernel) rfl (g := (mkF m 48 #[.val (.ref a), .val (.ref b), .val (.int (Int32.ofNat o)), .val (.int (Int32.ofNat len)), .val .null, .val (.ref s.heap.size)] [.int 0, .ref a])) rfl (rest := []) rfl (hb hbytes d48)
  have c14 : Steps p.tables e below (s₁.setTop (entryFrame m #[.ref a, .ref b, .int (Int32.ofNat o), .int (Int32.ofNat len), .null] 6)) (T13.setTop (mkF m 54 #[.val (.ref a), .val (.ref b), .val (.int (Int32.ofNat o)), .val (.int (Int32.ofNat len)), .val .null, .val (.ref s.heap.size)] [.ref s.heap.size, .ref a])) := (c12.trans (st13 _ (Steps.refl _))).trans (by
    refine XS.aloadN X13.here hexec rfl (hb hbytes d51) rfl rfl ?_
    refine XS.aload X13.here hexec rfl (hb hbytes d52) rfl rfl ?_
    exact Steps.refl _)
  obtain ⟨T15, X15, p15, bl15, sl15, st15⟩ := X13.finit hexec hown (wk W (.fieldLink "java/lang/String" 9 "java/lang/String" "value" "[B")) (Or.inr ⟨_, (wk W (.laysFinal "java/lang/String" "java/lang/String" "value" "[B"))⟩) (Or.inl ⟨rfl, hnm⟩) f1 (Or.inl rfl) bl13 (t := (.array .byte)) (by decide +kernel) rfl (g := (mkF m 54 #[.val (.ref a), .val (.ref b), .val (.int (Int32.ofNat o)), .val (.int (Int32.ofNat len)), .val .null, .val (.ref s.heap.size)] [.ref s.heap.size, .ref a])) rfl (rest := []) rfl (hb hbytes d54)
  have c16 : Steps p.tables e below (s₁.setTop (entryFrame m #[.ref a, .ref b, .int (Int32.ofNat o), .int (Int32.ofNat len), .null] 6)) (T15.setTop (mkF m 57 #[.val (.ref a), .val (.ref b), .val (.int (Int32.ofNat o)), .val (.int (Int32.ofNat len)), .val .null, .val (.ref s.heap.size)] [])) := c14.trans (st15 _ (Steps.refl _))
  have ap := apart (Or.inr ⟨_, (wk W (.laysFinal "java/lang/String" "java/lang/String" "value" "[B"))⟩) (Or.inr ⟨_, (wk W (.laysFinal "java/lang/String" "java/lang/String" "coder" "B"))⟩) f1 f2 (t₁ := .array .byte) (t₂ := .byte) (by decide +kernel) (by decide +kernel) (by decide)
  have al := X8.warmed.alike.symm.trans X15.warmed.alike
  have n7 : T11.heap[s.heap.size]? = some N := by rw [q11]; exact n1.1
  exact ⟨T15, none, _, _, _, X15, by simp, rfl, by omega, (fun _ => rfl), ⟨rfl, _, N, bl15, ((Same.refl D _).set _ (by simp)).set _ (by simp), sl15, (Cell.slots_setSlot_ne _ ap).trans sl13, n1.keep al (p15.other hne (p13.other hne n7)), n2, by rw [al.findClass]; exact n3, n4, n5, fun y c h1 h2 => p15.other h1 (p13.other h1 (by rw [q11]; exact n6 y c h2)), by rw [p15.2.2, p13.2.2, q11]; exact z8⟩, fun fs hl => c16.trans (X15.returnOut hexec hret (hb hbytes d57) hl)⟩
end New4
namespace New1
def yN : MethodName := ⟨"java/lang/String", "<init>", "([C)V"⟩
abbrev yB : ByteArray := jdk_42_method_3_code
theorem d0 : decode yB 0 = .ok (.aload_n 0, 1) := by decide +kernel
theorem d1 : decode yB 1 = .ok (.aload_n 1, 1) := by decide +kernel
theorem d2 : decode yB 2 = .ok (.iconst 0, 1) := by decide +kernel
theorem d3 : decode yB 3 = .ok (.aload_n 1, 1) := by decide +kernel
theorem d4 : decode yB 4 = .ok (.arraylength, 1) := by decide +kernel
theorem d5 : decode yB 5 = .ok (.aconst_null, 1) := by decide +kernel
theorem d6 : decode yB 6 = .ok (.invokespecial 27, 3) := by decide +kernel
theorem d9 : decode yB 9 = .ok (.return_, 1) := by decide +kernel
def site : List Cond := [New4.tab] ++ initW "java/lang/String" 27 New4.yN
def tab : Cond := tabOf yN yB 2 none site
def P (a : Addr) (D : Cell) (fV fC : Field) (b : Addr) (A : Cell) (z : Int32) (args : Array Value) (s : State) : Prop := args = #[.ref a, .ref b] ∧ Blank "java/lang/String" a D s ∧ Found "java/lang/String" "value" "[B" fV s ∧ Found "java/lang/String" "coder" "B" fC s ∧ Ch b A s ∧ StaticIs s "java/lang/String" "COMPACT_STRINGS" "Z" (.int z) ∧ ¬ z = 0 ∧ 0 < A.slots.size ∧ A.slots.size ≤ 536870912 ∧ ∀ i, i < A.slots.size → ¬ 255 < cv A i
def E (a : Addr) (D : Cell) (fV fC : Field) (A : Cell) (r : Option Value) (s u : State) : Prop := Got a D fV fC A 0 A.slots.size r s u
/-- new String(chars), not empty, no char above 255: a Latin-1 String of their low bytes -/
theorem law (l : Launch) (a : Addr) (D : Cell) (fV fC : Field) (b : Addr) (A : Cell) (z : Int32) : Law l yN 2 1 3 52 yB 2 none site (P a D fV fC b A z) (E a D fV fC A) [⟨a, fC.slot⟩, ⟨a, fV.slot⟩] 1 A.slots.size := by
  refine Law.of_walk (plainFor_of_name (by decide +kernel)) (by decide +kernel) (by decide +kernel) (by decide) (fun _ _ h => by rw [h.1]; rfl) (fun _ U U' hal hh h => ⟨h.1, h.2.1.mv hal hh, h.2.2.1.al hal, h.2.2.2.1.al hal, h.2.2.2.2.1.mv hal hh, h.2.2.2.2.2.1.there hal hh, h.2.2.2.2.2.2⟩) (fun r U U' V V' h1 hal h2 h => Got.mv r U U' V V' h1 hal h2 h) ?_
  intro p e s m args below meth c s₁ X0 hexec hbytes hml hret hlk hnm hown hh0 W hP
  obtain ⟨rfl, hB, f1, f2, hA, s1, hz, l0, l2, hp⟩ := hP
  have c1 : Steps p.tables e below (s₁.setTop (entryFrame m #[.ref a, .ref b] 2)) (s₁.setTop (mkF m 0 #[.val (.ref a), .val (.ref b)] [])) := entry rfl
  have c2 : Steps p.tables e below (s₁.setTop (entryFrame m #[.ref a, .ref b] 2)) (s₁.setTop (mkF m 6 #[.val (.ref a), .val (.ref b)] [.null, .int (Int32.ofNat A.slots.size), .int 0, .ref b, .ref a])) := c1.trans (by
    refine XS.aloadN X0.here hexec rfl (hb hbytes d0) rfl rfl ?_
    refine XS.aloadN X0.here hexec rfl (hb hbytes d1) rfl rfl ?_
    refine iconstV X0.here hexec rfl 0 (hb hbytes d2) (by decide) ?_
    refine XS.aloadN X0.here hexec rfl (hb hbytes d3) rfl rfl ?_
    refine X0.alen hexec (hA.1.mv X0.warmed.alike hh0) rfl rfl (hb hbytes d4) ?_
    refine XS.aconstNull X0.here hexec rfl (hb hbytes d5) ?_
    exact Steps.refl _)
  obtain ⟨v3, T3, X3, E3, g3⟩ := X0.callN hexec (New4.law l a D fV fC b A z 0 A.slots.size) rfl hown (wks W (initW "java/lang/String" 27 New4.yN)) (W New4.tab (by simp only [site, List.mem_cons, List.mem_append, true_or, or_true])) (W := 0) (Nat.le_of_ble_eq_true rfl) (Nat.le_of_ble_eq_true rfl) (Nat.le_refl _) (by show 0 + A.slots.size ≤ A.slots.size; omega) (g := (mkF m 6 #[.val (.ref a), .val (.ref b)] [.null, .int (Int32.ofNat A.slots.size), .int (Int32.ofNat 0), .ref b, .ref a])) rfl (by rw [hml]; rfl) c2 (argsL := [.ref b, .int (Int32.ofNat 0), .int (Int32.ofNat A.slots.size), .null]) (rest := []) rfl rfl (by show 2 * 0 + 0 ≤ _; decide) (hb hbytes d6) (⟨rfl, hB.mv X0.warmed.alike hh0, f1.al X0.warmed.alike, f2.al X0.warmed.alike, hA.mv X0.warmed.alike hh0, s1.there X0.warmed.alike hh0, hz, l0, by omega, l2, fun i hi => by rw [Nat.zero_add]; exact hp i hi⟩)
  have e0 := Got.mv _ s₁ s _ _ hh0.symm (Vm.Alike.refl _) rfl E3
  obtain rfl := e0.1
  have c4 : Steps p.tables e below (s₁.setTop (entryFrame m #[.ref a, .ref b] 2)) (T3.setTop (mkF m 9 #[.val (.ref a), .val (.ref b)] [])) := g3
  exact ⟨T3, none, _, _, _, X3, by simp, rfl, by omega, (fun _ => rfl), e0, fun fs hl => c4.trans (X3.returnOut hexec hret (hb hbytes d9) hl)⟩
theorem pays {l : Launch} {R : Room} {p : Program} {e : Env} {below : List Frame} {s : State} {sargs : Array Value} {len W : Nat} (a : Addr) (D : Cell) (fV fC : Field) (b : Addr) (A : Cell) (z : Int32) (htab : tab.before sargs s = true) (hfr : 4 ≤ R.frames) (hlo : W + 65 ≤ R.locals) :
    Back l R p e below s sargs yN len W (fun A₁ a₁ => A₁.cells + 1 ≤ R.cells ∧ A₁.slots + A.slots.size ≤ R.slots ∧ P a D fV fC b A z a₁ A₁.U) (fun A₁ _ v₁ B₁ => E a D fV fC A v₁ A₁.U B₁.U ∧ B₁.locs = A₁.locs ++ [⟨a, fC.slot⟩, ⟨a, fV.slot⟩] ∧ B₁.cells = A₁.cells + 1 ∧ B₁.slots = A₁.slots + A.slots.size) :=
  (law l a D fV fC b A z).pays htab hfr (by omega)
end New1
end StrChars
namespace StrChars.Road
open Jvm Sem ClassFile Op Lib Jvm.Stand Jvm.Free Jvm.Free.XT
open Jvm.Lib.Cold (StaticIs)
abbrev ST : String := "java/lang/String"
/-- every table word that New1's law asks, flat -/
abbrev words : List Jvm.Cond := [.code New1.yN New1.yB 2 none, .initialized ST, .methodLink ST 27 New4.yN, .instanceMethod New4.yN,
  .code New4.yN New4.yB 6 none, .fieldLink ST 38 ST "COMPACT_STRINGS" "Z", .laysFinal ST ST "value" "[B", .fieldLink ST 9 ST "value" "[B", .laysFinal ST ST "coder" "B", .fieldLink ST 15 ST "coder" "B",
  .methodLink ST 1 Lib.objectInit, .instanceMethod Lib.objectInit, .code Lib.objectInit ⟨#[0xb1]⟩ 1 none, .methodLink ST 177 Cmp3.yN, .static Cmp3.yN, .methodLink ST 47 CodL.yN, .static CodL.yN,
  .code Cmp3.yN Cmp3.yB 6 (some (.array .byte)), .initialized U16, .arrayClass .byte, .methodLink U16 115 Cmp5.yN, .static Cmp5.yN, .code Cmp5.yN Cmp5.yB 7 (some .int), .code CodL.yN CodL.yB 2 (some .byte)]
theorem tab_of {a : Array Value} {s : State} (h : ∀ w ∈ words, w.before a s = true) : New1.tab.before a s = true := by
  have h5 : Cmp5.tab.before a s = true := unparts (wk h (.code Cmp5.yN Cmp5.yB 7 (some .int))) (wks h (.initialized Cmp5.yN.cls :: Cmp5.site))
  have hc : CodL.tab.before a s = true := unparts (wk h (.code CodL.yN CodL.yB 2 (some .byte))) (wks h (.initialized CodL.yN.cls :: CodL.site))
  have q5 : ∀ w ∈ Cmp5.tab :: words, w.before a s = true := fun w hw => (List.mem_cons.mp hw).elim (fun e => e ▸ h5) (h w)
  have h3 : Cmp3.tab.before a s = true := unparts (wk q5 (.code Cmp3.yN Cmp3.yB 6 (some (.array .byte)))) (wks q5 (.initialized Cmp3.yN.cls :: Cmp3.site))
  have q3 : ∀ w ∈ Cmp3.tab :: CodL.tab :: words, w.before a s = true := fun w hw => (List.mem_cons.mp hw).elim (fun e => e ▸ h3) fun hw => (List.mem_cons.mp hw).elim (fun e => e ▸ hc) (h w)
  have h4 : New4.tab.before a s = true := unparts (wk q3 (.code New4.yN New4.yB 6 none)) (wks q3 (.initialized New4.yN.cls :: New4.site))
  have q4 : ∀ w ∈ New4.tab :: words, w.before a s = true := fun w hw => (List.mem_cons.mp hw).elim (fun e => e ▸ h4) (h w)
  exact unparts (wk q4 (.code New1.yN New1.yB 2 none)) (wks q4 (.initialized New1.yN.cls :: New1.site))
/-- the words ride from the start Z to the walk's own state -/
theorem moved {Z s : State} {a0 args : Array Value} (hZ : Z.Warmed39 s.vm) (hw : ∀ d ∈ words, d.before a0 Z = true) : ∀ d ∈ words, d.before args s = true := fun d hd => by
  have q := hw d hd
  have t : ∀ d ∈ words, d = .arrayClass .byte ∨ (d.onTables && d.keepsFace) = true := by decide +kernel
  rcases t d hd with rfl | t
  · exact RoadKit.mvA hZ q
  · exact RoadKit.mv hZ q t
/-- WHAT COMES BACK, over the tables of the start Z: h the heap at the call, h' behind it -/
def Q (Z : State) (x : Addr) (A : Cell) (h : Heap) (v : Option Value) (h' : Heap) (L : List Loc) : Prop := v = none ∧ (∀ y ∈ L, y.base = x) ∧ RoadKit.Keep h h' [x] ∧ h'.size = h.size + 1 ∧ RoadKit.Exa Z h' x ST ∧ RoadKit.Fld Z h' x ST "value" "[B" (.ref h.size) ∧ RoadKit.Fld Z h' x ST "coder" "B" (.int 0) ∧
  (∃ V : Cell, RoadKit.Arr Z h' h.size V .byte ∧ V.vm = .none ∧ Z.vm.findClass "[B" = some V.cls ∧ V.slots.size = A.slots.size ∧ ∀ j, j < A.slots.size → V.slots[j]? = some (.int (lo8 (cv A j)))) ∧
  ∀ (O n d : String) (w : Value), RoadKit.Fld Z h x O n d w → RoadKit.slotOf Z O n d ≠ RoadKit.slotOf Z ST "value" "[B" → RoadKit.slotOf Z O n d ≠ RoadKit.slotOf Z ST "coder" "B" → RoadKit.Fld Z h' x O n d w
/-- **new String(chars) AT A CALL, IN THE ROAD'S FORM**: for specialBack behind newO: x the fresh String, b the char[] with the cell A -/
theorem back {p : Program} {l : Launch} {e : Env} {R : Room} {s : State} {args : Array Value} {below : List Frame} {len W : Nat} {Z : State} {a0 : Array Value} {h : Heap} (hZ : Z.Warmed39 s.vm) (hw : ∀ d ∈ words, d.before a0 Z = true) {kI : Nat} (wi : (Jvm.Cond.instantiable ST kI).before a0 Z = true)
    {x b : Addr} {A : Cell} {z : Int32} {v0 c0 : Value} (E : RoadKit.Exa Z h x ST) (V : RoadKit.Fld Z h x ST "value" "[B" v0) (C : RoadKit.Fld Z h x ST "coder" "B" c0) (K : RoadKit.Arr Z h b A .char) (hty : Typed .char A) (S : RoadKit.Sta Z h ST "COMPACT_STRINGS" "Z" (.int z)) (hz : ¬ z = 0)
    (l0 : 0 < A.slots.size) (l2 : A.slots.size ≤ 536870912) (hp : ∀ i, i < A.slots.size → ¬ 255 < cv A i) (hfr : 4 ≤ R.frames) (hlo : W + 65 ≤ R.locals) :
    Back l R p e below s args New1.yN len W (fun P a => a = #[.ref x, .ref b] ∧ P.U.heap = h ∧ P.cells + 1 ≤ R.cells ∧ P.slots + A.slots.size ≤ R.slots)
      (fun P _ v B => ∃ L, Q Z x A h v B.U.heap L ∧ B.locs = P.locs ++ L ∧ B.cells = P.cells + 1 ∧ B.slots = P.slots + A.slots.size) := by
  intro m meth c P g ig mk a X hg hsize hdg hW hn hp'
  obtain ⟨rfl, rfl, r1, r2⟩ := hp'
  have al : Z.vm.Alike P.U.vm := hZ.alike.trans X.warmed.alike
  obtain ⟨D, cfV, kV, iV, fV, hD, gV, stV, knV, obV, asV, slV⟩ := id V
  obtain ⟨D', cfC, kC, iC, fC, hD', gC, stC, -, -, asC, slC⟩ := id C
  cases hD.symm.trans hD'
  obtain ⟨D2, kD, e1, e2, e3, e4, e5⟩ := id E
  cases hD.symm.trans e1
  obtain ⟨c2, k2, i1, i2, i3, -⟩ := Cond.instantiable_spec wi
  cases e2.symm.trans i1
  cases e3.symm.trans i2
  obtain ⟨kU, u1, u2⟩ := al.2.2 _ _ e3
  have hB : Blank ST x D P.U := ⟨hD, ⟨knV, fun q hq => by rw [hq] at obV; cases obV⟩, by rw [al.findClass]; exact e2, kU, u1, by rw [u2]; exact i3, by rw [u2]; exact e5 i3⟩
  have F1 : Found ST "value" "[B" fV P.U := ⟨SBG.found_only al ⟨cfV, kV, iV, gV⟩, stV⟩
  have F2 : Found ST "coder" "B" fC P.U := ⟨SBG.found_only al ⟨cfC, kC, iC, gC⟩, stC⟩
  have hA : Ch b A P.U := ⟨⟨K.1, State.isArrayOf_alike al K.2.1, K.2.2, by omega⟩, hty⟩
  have hS : StaticIs P.U ST "COMPACT_STRINGS" "Z" (.int z) := by
    obtain ⟨cfS, iS, kS, fS, st, cS, t1, t2, t3, t4, t5, t6, t7⟩ := S
    exact StaticIs.there (s := { Z with heap := P.U.heap }) ⟨cfS, iS, kS, fS, st, cS, t1, t2, t3, t4, t5, (fun q => by rw [q] at t6; cases t6), t7⟩ al rfl
  obtain ⟨v, B, X', ⟨⟨hv, E', V', q1, q2, q3, q4, q5, q6, q7, q8, q9, q10, q11⟩, hl, hc, hs⟩, st⟩ := New1.pays x D fV fC b A z (tab_of (moved hZ hw)) hfr hlo m meth c P g ig mk _ X hg hsize hdg hW hn ⟨r1, r2, rfl, hB, F1, F2, hA, hS, hz, l0, l2, hp⟩
  have al' : Z.vm.Alike B.U.vm := hZ.alike.trans X'.warmed.alike
  have hsz : E'.slots.size = D.slots.size := by
    obtain ⟨-, -, -, kB, w1, w2, w3⟩ := q1
    obtain ⟨kB', y1, y2⟩ := al'.2.2 _ _ e3
    rw [q2.2.1] at w1
    cases w1.symm.trans y1
    rw [w3, e5 i3, y2]
  refine ⟨v, B, X', ⟨_, ⟨hv, ?_, ⟨by omega, fun y cy hy hn' => q10 y cy (by simpa using hn') hy, fun y cy hy => ?_⟩, q11, ⟨E', _, q1.1, by rw [q2.2.1]; exact e2, by rw [q2.2.1]; exact e3, by rw [q2.1]; exact obV, fun _ => by rw [hsz]; exact e5 i3⟩,
    ⟨E', cfV, kV, iV, fV, q1.1, gV, stV, by rw [q2.1]; exact knV, by rw [q2.1]; exact obV, by rw [q2.2.1]; exact asV, q3⟩, ⟨E', cfC, kC, iC, fC, q1.1, gC, stC, by rw [q2.1]; exact knV, by rw [q2.1]; exact obV, by rw [q2.2.1]; exact asC, q4⟩,
    ⟨V', ⟨q5.1, State.isArrayOf_alike al'.symm q5.2.1, q5.2.2.1⟩, q6, by rw [← al'.findClass]; exact q7, q8, fun j hj => by have := q9 j hj; rwa [Nat.zero_add] at this⟩, fun O n d w F n1 n2 => ?_⟩, hl, hc, hs⟩, st⟩
  · intro y hy
    simp only [List.mem_cons, List.not_mem_nil, or_false] at hy
    rcases hy with rfl | rfl <;> rfl
  · by_cases q : y = x
    · subst q
      cases hD.symm.trans hy
      exact ⟨E', q1.1, q2.2.1, q2.1, hsz⟩
    · exact ⟨cy, q10 y cy q hy, rfl, rfl, rfl⟩
  · obtain ⟨D3, cf, k, i, f, g1, g2, g3, g4, g5, g6, g7⟩ := F
    cases hD.symm.trans g1
    simp only [RoadKit.slotOf, g2, gV, gC, Option.map_some, Option.getD_some] at n1 n2
    exact ⟨E', cf, k, i, f, q1.1, g2, g3, by rw [q2.1]; exact g4, by rw [q2.1]; exact g5, by rw [q2.2.1]; exact g6, by rw [q2.2.2 f.slot (by simp [n1, n2])]; exact g7⟩
end StrChars.Road
namespace StrChars.Road
open Jvm Sem ClassFile Op Lib Jvm.Stand Jvm.Free Jvm.Free.XT
/-- WHAT COMES BACK, the byte[] as a list of values -/
def QA (Z : State) (x : Addr) (zn : Int32) (cs : List Int32) (h : Heap) (v : Option Value) (h' : Heap) (L : List Loc) : Prop := v = none ∧ (∀ y ∈ L, y.base = x) ∧ RoadKit.Keep h h' [x] ∧ h'.size = h.size + 1 ∧ RoadKit.Exa Z h' x ST ∧ RoadKit.Fld Z h' x ST "value" "[B" (.ref h.size) ∧ RoadKit.Fld Z h' x ST "coder" "B" (.int 0) ∧
  (∃ kb, Z.vm.findClass "[B" = some kb ∧ RoadKit.Arv Z h' h.size kb .byte zn (cs.map fun c => .int (lo8 c)) (.int 0)) ∧
  ∀ (O n d : String) (w : Value), RoadKit.Fld Z h x O n d w → RoadKit.slotOf Z O n d ≠ RoadKit.slotOf Z ST "value" "[B" → RoadKit.slotOf Z O n d ≠ RoadKit.slotOf Z ST "coder" "B" → RoadKit.Fld Z h' x O n d w
/-- **new String(chars) AT A CALL, THE ARRAYS AS LISTS**: the char[] at b holds cs, not empty, no char above 255 -/
theorem backArv {p : Program} {l : Launch} {e : Env} {R : Room} {s : State} {args : Array Value} {below : List Frame} {len W : Nat} {Z : State} {a0 : Array Value} {h : Heap} (hZ : Z.Warmed39 s.vm) (hw : ∀ d ∈ words, d.before a0 Z = true) {kI : Nat} (wi : (Jvm.Cond.instantiable ST kI).before a0 Z = true)
    {x b : Addr} {k : ClassId} {zn z : Int32} {cs : List Int32} {dv v0 c0 : Value} (E : RoadKit.Exa Z h x ST) (V : RoadKit.Fld Z h x ST "value" "[B" v0) (C : RoadKit.Fld Z h x ST "coder" "B" c0) (K : RoadKit.Arv Z h b k .char zn (cs.map Value.int) dv) (S : RoadKit.Sta Z h ST "COMPACT_STRINGS" "Z" (.int z)) (hz : ¬ z = 0)
    (hlen : zn.toNatClampNeg = cs.length) (h0 : 0 < cs.length) (hbig : cs.length ≤ 536870912) (hall : ∀ c ∈ cs, ¬ 255 < c) (hfr : 4 ≤ R.frames) (hlo : W + 65 ≤ R.locals) :
    Back l R p e below s args New1.yN len W (fun P a => a = #[.ref x, .ref b] ∧ P.U.heap = h ∧ P.cells + 1 ≤ R.cells ∧ P.slots + cs.length ≤ R.slots)
      (fun P _ v B => ∃ L, QA Z x zn cs h v B.U.heap L ∧ B.locs = P.locs ++ L ∧ B.cells = P.cells + 1 ∧ B.slots = P.slots + cs.length) := by
  obtain ⟨A, K1, K2, K3, K4, K5, K6⟩ := K
  have e : A.slots.size = cs.length := K3.trans hlen
  have hat : ∀ (i : Nat) (hi : i < cs.length), A.slots[i]? = some (.int cs[i]) := fun i hi => by rw [K5 i (by omega)]; simp [List.getD_eq_getElem?_getD, hi]
  have hcv : ∀ (i : Nat) (hi : i < cs.length), cv A i = cs[i] := fun i hi => by unfold cv; rw [hat i hi]
  have hty : Typed .char A := fun i v hv => by
    have hi : i < A.slots.size := (Array.getElem?_eq_some_iff.mp hv).1
    have q := K5 i hi
    rw [hv] at q
    rw [Option.some.inj q]
    exact K6 i hi
  refine Back.mono (back hZ hw wi E V C K1 hty S hz (by omega) (by omega) (fun i hi => by rw [hcv i (by omega)]; exact hall _ (List.getElem_mem _)) hfr hlo) (fun P a hp => ⟨hp.1, hp.2.1, hp.2.2.1, by rw [e]; exact hp.2.2.2⟩) (fun P a v B hp hq => ?_)
  obtain ⟨L, ⟨q1, q2, q3, q4, q5, q6, q7, ⟨V', v1, v2, v3, v4, v5⟩, q9⟩, hl, hc, hs⟩ := hq
  refine ⟨L, ⟨q1, q2, q3, q4, q5, q6, q7, ⟨V'.cls, v3, V', v1, rfl, by rw [v4, e, hlen], K4, fun i hi => ?_, fun i hi => ?_⟩, q9⟩, hl, hc, by rw [hs, e]⟩
  · have hi' : i < cs.length := by omega
    rw [v5 i (by omega), hcv i hi']; simp [List.getD_eq_getElem?_getD, hi']
  · have hi' : i < cs.length := by omega
    simp only [List.getD_eq_getElem?_getD, List.getElem?_map, List.getElem?_eq_getElem hi', Option.map_some, Option.getD_some]
    exact fits_lo8 _
end StrChars.Road
namespace StrChars.Road
open Jvm Sem ClassFile Op Lib Jvm.Stand Jvm.Free Jvm.Free.XT
/-- WHAT COMES BACK, in the writer's own shape -/
def QV (Z : State) (x : Addr) (N : Int32) (bs : List Int32) (h : Heap) (n0 : Nat) (v : Option Value) (h' : Heap) (L : List Loc) : Prop := v = none ∧ RoadKit.Fr n0 L ∧ RoadKit.Keep h h' [x] ∧ RoadKit.Exa Z h' x ST ∧ RoadKit.Fld Z h' x ST "coder" "B" (.int 0) ∧
  ∃ (t : Addr) (kb : ClassId), n0 ≤ t ∧ h.size ≤ t ∧ ¬ t = x ∧ RoadKit.Fld Z h' x ST "value" "[B" (.ref t) ∧ RoadKit.Arv Z h' t kb .byte N (bs.map Value.int) (.int 0)
/-- **new String(chars) AT A CALL, FOR THE WRITER**: a char[] of n known ints, each 0 to 255 -/
theorem backV {p : Program} {l : Launch} {e : Env} {R : Room} {s : State} {args : Array Value} {below : List Frame} {len W : Nat} {Z : State} {a0 : Array Value} {h : Heap} (hZ : Z.Warmed39 s.vm) (hw : ∀ d ∈ words, d.before a0 Z = true) {kI : Nat} (wi : (Jvm.Cond.instantiable ST kI).before a0 Z = true)
    {x b : Addr} {kC : ClassId} {cs bs : List Int32} {d v0 c0 : Value} {z N : Int32} {n n0 : Nat} (hx0 : n0 ≤ x) (hh0 : n0 ≤ h.size) (E : RoadKit.Exa Z h x ST) (V : RoadKit.Fld Z h x ST "value" "[B" v0) (C : RoadKit.Fld Z h x ST "coder" "B" c0) (K : RoadKit.Arv Z h b kC .char N (cs.map Value.int) d) (S : RoadKit.Sta Z h ST "COMPACT_STRINGS" "Z" (.int z)) (hz : ¬ z = 0)
    (hn : cs.length = n) (hN : N = Int32.ofNat n) (l0 : 0 < n) (l2 : n ≤ 4000) (hp : ∀ c ∈ cs, ¬ c < 0 ∧ ¬ (255 : Int32) < c) (hb : bs = cs.map (fun c => c.toInt8.toInt32)) (hfr : 4 ≤ R.frames) (hlo : W + 65 ≤ R.locals) :
    Back l R p e below s args (⟨"java/lang/String", "<init>", "([C)V"⟩ : MethodName) len W (fun P a => a = #[.ref x, .ref b] ∧ P.U.heap = h ∧ P.cells + 1 ≤ R.cells ∧ P.slots + n ≤ R.slots)
      (fun P _ v B => ∃ L, QV Z x N bs h n0 v B.U.heap L ∧ B.locs = P.locs ++ L ∧ B.cells = P.cells + 1 ∧ B.slots = P.slots + n) := by
  subst hn hN hb
  refine Back.mono (backArv hZ hw wi E V C K S hz (n32 (by omega)) l0 (by omega) (fun c hc => (hp c hc).2) hfr hlo) (fun P a hp => hp) (fun P a v B hp hq => ?_)
  obtain ⟨L, ⟨q1, q2, q3, q4, q5, q6, q7, ⟨kb, v1, v2⟩, q9⟩, hl, hc, hs⟩ := hq
  exact ⟨L, ⟨q1, fun y hy => by rw [q2 y hy]; exact hx0, q3, q5, q7, h.size, kb, hh0, Nat.le_refl _, Nat.ne_of_gt E.lt, q6, by rw [List.map_map]; exact v2⟩, hl, hc, hs⟩
end StrChars.Road
namespace StrChars
open Jvm Sem ClassFile Op Lib Jvm.Stand Jvm.Free.XT Jvm.Free.ALB Jvm.Free.JM Jvm.Free
open Jvm.Lib.Cold (StaticIs)
def hi8 (x : Int32) : Int32 := lo8 (x >>> ((8 : Int32) &&& 31))
end StrChars
namespace StrChars.Road
open Jvm Sem ClassFile Op Lib Jvm.Stand Jvm.Free Jvm.Free.XT
open Jvm.Lib.Cold (StaticIs)
/-- the bytes of the chars cs, low before high -/
def wideBytes : List Int32 → List Value
  | [] => []
  | c :: cs => .int (lo8 c) :: .int (hi8 c) :: wideBytes cs
/-- an array of N2 bytes vs codes the chars cs by the coder cd -/
def CodA (cs : List Int32) (cd N2 : Int32) (vs : List Value) : Prop := (cd = 0 ∧ N2 = Int32.ofNat cs.length ∧ vs = (cs.map fun c => Value.int (lo8 c)) ∧ ∀ c ∈ cs, ¬ 255 < c) ∨ (cd = 1 ∧ N2 = Int32.ofNat (2 * cs.length) ∧ vs = wideBytes cs ∧ ∃ c ∈ cs, 255 < c)
end StrChars.Road
namespace StrChars.Road
open Jvm Sem ClassFile Op Lib Jvm.Stand Jvm.Free Jvm.Free.XT
open Jvm.Lib.Cold (StaticIs)
/-- what backV says of its String, as the contracts of this text ask it: cs's low bytes, coder 0 -/
theorem codOf {cs : List Int32} {n : Nat} (hn : cs.length = n) (hb : ∀ c ∈ cs, ¬ 255 < c) : CodA cs 0 (Int32.ofNat n) ((cs.map lo8).map Value.int) := Or.inl ⟨rfl, by rw [hn], by simp [List.map_map, Function.comp_def], hb⟩
end StrChars.Road
end Jvm.Pilot.@@N@@

namespace Jvm.Pilot.@@N@@
open Jvm Jvm.ClassFile Sem Op Lib Jvm.Free Jvm.Stand Jvm.LawKit Jvm.RoadKit Bundle
namespace Own
section K1
variable {p : Program} {l : Launch} {e : Env} {R : Room} {s : State} {m : MethodId} {args : Array Value} {below : List Frame} {meth : Method} {c : Code} {y : MethodName} {bc : ByteArray} {mL : Nat} {rt : Option FieldType} {Z : State} {a0 : Array Value} {EL : List (String × Nat)} {nw : Bool} {h0 h h' : Heap} {T T' : State} {fr fr' fr0 : List Addr} {ce sl : Nat} {rm : Room} {Q : Option Value → Heap → Prop}
/-- where a walk stands: tables, heap, places freed, what may be written, what the frame's method is -/
def Wk (p : Program) (l : Launch) (e : Env) (R : Room) (s : State) (m : MethodId) (args : Array Value) (below : List Frame) (meth : Method) (c : Code) (y : MethodName) (bc : ByteArray) (mL : Nat) (rt : Option FieldType) (Z : State) (a0 : Array Value) (EL : List (String × Nat)) (nw : Bool) (h0 : Heap) (T : State) (h : Heap) (fr : List Addr) (ce sl : Nat) : Prop :=
  ∃ (vm : Vm) (k : Nat) (locs : List Loc), Stand p l e R (s.setVm vm) m args below meth c T locs ce sl ∧ T.heap = h ∧ (s.Since vm k ∧ k ≤ h.size ∧ Z.Warmed39 vm ∧ vm.findClass y.cls = some m.cls ∧ (nw = true → s.WarmedH vm)) ∧
    (EW Z a0 EL ∧ CHr Z EL s.vm h0 vm h) ∧ (Fr Z.heap.size locs ∧ Ext Z.heap h ∧ ∀ x ∈ fr, Z.heap.size ≤ x ∧ x < h.size ∧ Safe Z EL vm h x) ∧ p.tables.exec = Jvm.exec ∧ c.code = bc ∧ c.maxLocals = mL ∧ meth.sig.returnType = rt ∧ meth.locks = false ∧ meth.name = y.name
/-- how a call ends -/
def Post (Z : State) (EL : List (String × Nat)) (nw : Bool) (s : State) (h0 : Heap) (fr0 : List Addr) (Q : Option Value → Heap → Prop) (rm : Room) (o : Outcome) (U : State) : Prop :=
  ∃ v L, o = .returned v ∧ (Keep h0 U.heap fr0 ∧ Q v U.heap ∧ Fr Z.heap.size L) ∧ CHr Z EL s.vm h0 U.vm U.heap ∧ (nw = true → s.WarmedH U.vm) ∧ ReturnedEndW s o U L rm.cells rm.slots
/-- from here the body comes to its end -/
def Goes (p : Program) (e : Env) (below : List Frame) (s : State) (Z : State) (EL : List (String × Nat)) (nw : Bool) (h0 : Heap) (fr0 : List Addr) (Q : Option Value → Heap → Prop) (rm : Room) (T : State) (g : JFrame) : Prop :=
  ∃ s₂ o, Steps p.tables e below (T.setTop g) s₂ ∧ s₂.status = .running ∧ Ended s₂ below o ∧ Post Z EL nw s h0 fr0 Q rm o s₂
/-- a method's contract -/
def Met (l : Launch) (Z : State) (EL : List (String × Nat)) (nw : Bool) (y : MethodName) (bc : ByteArray) (mL : Nat) (rt : Option FieldType) (ws : List Jvm.Cond) (rm : Room) (as : Array Value) (h : Heap) (fr : List Addr) (Q : Option Value → Heap → Prop) : Prop :=
  MetFree l y (head1 (Jvm.Cond.code y bc mL rt :: ws) rm) (fun a U => a = as ∧ Z.Warmed39 U.vm ∧ U.heap = h ∧ CHv Z EL U.vm h ∧ ∀ x ∈ fr, Safe Z EL U.vm h x) (fun _ _ _ _ _ => True) (fun _ U o U' => Post Z EL nw U h fr Q rm o U')
theorem Wk.here (W : Wk p l e R s m args below meth c y bc mL rt Z a0 EL nw h0 T h fr ce sl) : At T m c below := by obtain ⟨vm, k, locs, X, -⟩ := W; exact X.here
theorem Wk.hx (W : Wk p l e R s m args below meth c y bc mL rt Z a0 EL nw h0 T h fr ce sl) : p.tables.exec = Jvm.exec := by obtain ⟨vm, k, locs, -, -, -, -, -, hx, -⟩ := W; exact hx
theorem Wk.hby (W : Wk p l e R s m args below meth c y bc mL rt Z a0 EL nw h0 T h fr ce sl) : c.code = bc := by obtain ⟨vm, k, locs, -, -, -, -, -, -, hb, -⟩ := W; exact hb
theorem Wk.hml (W : Wk p l e R s m args below meth c y bc mL rt Z a0 EL nw h0 T h fr ce sl) : c.maxLocals = mL := by obtain ⟨vm, k, locs, -, -, -, -, -, -, -, hb, -⟩ := W; exact hb
theorem Wk.ext (W : Wk p l e R s m args below meth c y bc mL rt Z a0 EL nw h0 T h fr ce sl) : Ext Z.heap h := by obtain ⟨vm, k, locs, -, -, -, -, ⟨-, q, -⟩, -⟩ := W; exact q
theorem Wk.frs (W : Wk p l e R s m args below meth c y bc mL rt Z a0 EL nw h0 T h fr ce sl) : ∀ x ∈ fr, Z.heap.size ≤ x ∧ x < h.size := by obtain ⟨vm, k, locs, -, -, -, -, ⟨-, -, q⟩, -⟩ := W; exact fun x hx => ⟨(q x hx).1, (q x hx).2.1⟩
theorem Wk.ew (W : Wk p l e R s m args below meth c y bc mL rt Z a0 EL nw h0 T h fr ce sl) : EW Z a0 EL := by obtain ⟨vm, k, locs, -, -, -, ⟨q, -⟩, -⟩ := W; exact q
theorem Wk.less (W : Wk p l e R s m args below meth c y bc mL rt Z a0 EL nw h0 T h fr ce sl) (q : ∀ x ∈ fr', x ∈ fr) : Wk p l e R s m args below meth c y bc mL rt Z a0 EL nw h0 T h fr' ce sl := by
  obtain ⟨vm, k, locs, X, w1, w2, w3, ⟨w4, w5, w6⟩, w7⟩ := W
  exact ⟨vm, k, locs, X, w1, w2, w3, ⟨w4, w5, fun x hx => w6 x (q x hx)⟩, w7⟩
theorem Goes.step {g g' : JFrame} (st : ∀ t, Steps p.tables e below (T'.setTop g') t → Steps p.tables e below (T.setTop g) t) (K : Goes p e below s Z EL nw h0 fr0 Q rm T' g') : Goes p e below s Z EL nw h0 fr0 Q rm T g := by
  obtain ⟨s2, o, q1, q2⟩ := K; exact ⟨s2, o, st _ q1, q2⟩
theorem Goes.cast {g g' : JFrame} (q : g = g') (K : Goes p e below s Z EL nw h0 fr0 Q rm T g') : Goes p e below s Z EL nw h0 fr0 Q rm T g := q ▸ K
theorem Met.intro {ws : List Jvm.Cond} {as : Array Value} (hn : plainFor y = true) (hEL : EW Z a0 EL) (hX : Ext Z.heap h) (hfr : ∀ x ∈ fr, Z.heap.size ≤ x ∧ x < h.size)
    (body : ∀ p e s m below meth c T, Wk p l e rm s m as below meth c y bc mL rt Z a0 EL nw h T h fr 0 0 → Goes p e below s Z EL nw h fr Q rm T (entryFrame m as mL)) : Met l Z EL nw y bc mL rt ws rm as h fr Q := by
  refine MetFree.of_bodySF hn hisR ?_
  intro p e s m args below meth c s₁ Bd hml hP hK
  obtain ⟨rfl, hZ, hh, hC, hS⟩ := hP
  have e0 : s₁.heap = h := by rw [← hh, Bd.state]; rfl
  have hX0 : Stand p l e rm s m args below meth c s₁ [] 0 0 := Stand.of_body Bd
  exact body p e s m below meth c s₁ ⟨s.vm, 0, [], hX0, e0, ⟨(State.WarmedH.refl s).since 0, Nat.zero_le _, hZ, findClass_of_methodNamed Bd.named, fun _ => State.WarmedH.refl s⟩, ⟨hEL, CHr.refl hC⟩, ⟨Fr.nil _, hX, fun x hx => ⟨(hfr x hx).1, (hfr x hx).2, hS x hx⟩⟩, Bd.exec, Bd.bytes, hml, Bd.returns, Bd.notSynchronized, (name_of_methodNamed Bd.named Bd.method).1⟩
/-- the end -/
theorem fin {pc : Nat} {L : Array Slot} {S : List Value} {v : Option Value} (W : Wk p l e R s m args below meth c y bc mL rt Z a0 EL nw h0 T h fr ce sl) (hv : rt = none → v = none) (hK : Keep h0 h fr0) (hQ : Q v h) (hc : ce ≤ rm.cells) (hs : sl ≤ rm.slots)
    (st : ∀ locs vm, Stand p l e R (s.setVm vm) m args below meth c T locs ce sl → meth.sig.returnType = rt → ∀ fs : List Frame, (∀ (f : JFrame) (acts : List Action), f.method = m → f.locked = none → f.entered = [] → (doReturn e (T.setTop f) acts v).1 = T.setFrames fs) → Steps p.tables e below (T.setTop (mkF m pc L S)) (T.setFrames fs)) :
    Goes p e below s Z EL nw h0 fr0 Q rm T (mkF m pc L S) := by
  obtain ⟨vm, k, locs, X, eT, ⟨a1, a2, a3, a4, a5⟩, ⟨b1, b2⟩, ⟨d1, d2, d3⟩, hx, hby, hml, hrt, hlk, hnm⟩ := W
  subst eT
  obtain ⟨fs, q1, q2, q3, q4⟩ := X.leaveW a1 a2 (v := v) (fun z => hv (hrt.symm.trans z)) hlk
  refine ⟨_, _, st locs vm X hrt fs q1, q2, q3, v, locs, rfl, ⟨hK, hQ, d1⟩, ?_, fun z => ?_, q4.1, q4.2.1, q4.2.2.1, q4.2.2.2.mono hc hs⟩
  · show CHr Z EL s.vm h0 T.vm T.heap
    exact b2.trans (CHv.at X a3 b1 b2.1)
  · show s.WarmedH T.vm
    exact State.WarmedH.trans (t := s.setVm vm) (a5 z) X.warmed
theorem g_return {pc : Nat} {L : Array Slot} (W : Wk p l e R s m args below meth c y bc mL none Z a0 EL nw h0 T h fr ce sl) (hd : decode bc pc = .ok (.return_, 1)) (hK : Keep h0 h fr0) (hQ : Q none h) (hc : ce ≤ rm.cells) (hs : sl ≤ rm.slots) : Goes p e below s Z EL nw h0 fr0 Q rm T (mkF m pc L []) :=
  fin W (fun _ => rfl) hK hQ hc hs fun locs vm X hrt fs q => X.returnOut W.hx hrt (hb W.hby hd) q
theorem g_areturn {pc : Nat} {L : Array Slot} {S : List Value} {w : Value} {t : FieldType} (W : Wk p l e R s m args below meth c y bc mL (some t) Z a0 EL nw h0 T h fr ce sl) (hd : decode bc pc = .ok (.areturn, 1)) (ht : t.isReference = true) (hw : w.isRef = true) (hn : narrow t w = w) (hK : Keep h0 h fr0) (hQ : Q (some w) h) (hc : ce ≤ rm.cells) (hs : sl ≤ rm.slots) : Goes p e below s Z EL nw h0 fr0 Q rm T (mkF m pc L (w :: S)) :=
  fin W (fun z => nomatch z) hK hQ hc hs fun locs vm X hrt fs q => retOut X W.hx hrt hn (Or.inr (Or.inr (Or.inr (Or.inr ⟨rfl, ht, hw⟩)))) (hb W.hby hd) q
theorem g_ireturn {pc : Nat} {L : Array Slot} {S : List Value} {z : Int32} {t : FieldType} (W : Wk p l e R s m args below meth c y bc mL (some t) Z a0 EL nw h0 T h fr ce sl) (hd : decode bc pc = .ok (.ireturn, 1)) (ht : t = .int ∨ t = .boolean ∨ t = .byte ∨ t = .char ∨ t = .short) (hn : narrow t (.int z) = .int z) (hK : Keep h0 h fr0) (hQ : Q (some (.int z)) h) (hc : ce ≤ rm.cells) (hs : sl ≤ rm.slots) : Goes p e below s Z EL nw h0 fr0 Q rm T (mkF m pc L (.int z :: S)) :=
  fin W (fun z => nomatch z) hK hQ hc hs fun locs vm X hrt fs q => retOut X W.hx hrt hn (Or.inl ⟨rfl, ht, z, rfl⟩) (hb W.hby hd) q
theorem g_ireturnN {pc : Nat} {L : Array Slot} {S : List Value} {z : Int32} {t : FieldType} (W : Wk p l e R s m args below meth c y bc mL (some t) Z a0 EL nw h0 T h fr ce sl) (hd : decode bc pc = .ok (.ireturn, 1)) (ht : t = .boolean ∨ t = .byte ∨ t = .char ∨ t = .short) (hK : Keep h0 h fr0) (hQ : Q (some (.int (RoadKit.nar t z))) h) (hc : ce ≤ rm.cells) (hs : sl ≤ rm.slots) : Goes p e below s Z EL nw h0 fr0 Q rm T (mkF m pc L (.int z :: S)) :=
  fin W (fun z => nomatch z) hK hQ hc hs fun locs vm X hrt fs q => retN X W.hx hrt ht (hb W.hby hd) q
/-- a step that writes nothing of the heap: a new Stand at the same heap -/
theorem Wk.same {T' : State} (W : Wk p l e R s m args below meth c y bc mL rt Z a0 EL nw h0 T h fr ce sl) (q : ∀ vm locs, Z.Warmed39 vm → vm.findClass y.cls = some m.cls → Stand p l e R (s.setVm vm) m args below meth c T locs ce sl → Stand p l e R (s.setVm vm) m args below meth c T' locs ce sl) (e' : T'.heap = h) : Wk p l e R s m args below meth c y bc mL rt Z a0 EL nw h0 T' h fr ce sl := by
  obtain ⟨vm, k, locs, X, eT, w2, w3, w4, w5⟩ := W
  exact ⟨vm, k, locs, q vm locs w2.2.2.1 w2.2.2.2.1 X, e', w2, w3, w4, w5⟩
theorem g_getfield (W : Wk p l e R s m args below meth c y bc mL rt Z a0 EL nw h0 T h fr ce sl) {R0 O n d host : String} {index pc pc' : Nat} {L : Array Slot} {S : List Value} {a : Addr} {v : Value} (hd : decode bc pc = .ok (.getfield index, 3)) (hp : pc + 3 = pc') (w : (Jvm.Cond.fieldLink y.cls index R0 n d).before a0 Z = true ∨ (Jvm.Cond.fieldLinkNest y.cls index R0 n d host).before a0 Z = true) (via : Via Z R0 O n d) (F : Fld Z h a O n d v)
    (K : ∀ T', Wk p l e R s m args below meth c y bc mL rt Z a0 EL nw h0 T' h fr ce sl → Goes p e below s Z EL nw h0 fr0 Q rm T' (mkF m pc' L (v :: S))) : Goes p e below s Z EL nw h0 fr0 Q rm T (mkF m pc L (.ref a :: S)) := by
  have hx := W.hx
  have hby := W.hby
  obtain ⟨vm, k, locs, X, eT, w2, w3, w4, w5⟩ := W
  subst hp
  obtain ⟨T', X', e', st⟩ := getF X hx w2.2.2.1 (own := y.cls) w2.2.2.2.1 w via eT F (g := mkF m pc L (.ref a :: S)) rfl rfl (hb hby hd)
  exact Goes.step st (K T' ⟨vm, k, locs, X', e', w2, w3, w4, w5⟩)
theorem g_getstatic (W : Wk p l e R s m args below meth c y bc mL rt Z a0 EL nw h0 T h fr ce sl) {R0 O n d : String} {index pc pc' : Nat} {L : Array Slot} {S : List Value} {v : Value} (hd : decode bc pc = .ok (.getstatic index, 3)) (hp : pc + 3 = pc') (w : (Jvm.Cond.fieldLink y.cls index R0 n d).before a0 Z = true) (via : Via Z R0 O n d) (F : Sta Z Z.heap O n d v)
    (K : ∀ T', Wk p l e R s m args below meth c y bc mL rt Z a0 EL nw h0 T' h fr ce sl → Goes p e below s Z EL nw h0 fr0 Q rm T' (mkF m pc' L (v :: S))) : Goes p e below s Z EL nw h0 fr0 Q rm T (mkF m pc L S) := by
  have hx := W.hx
  have hby := W.hby
  have hE := W.ext
  obtain ⟨vm, k, locs, X, eT, w2, w3, w4, w5⟩ := W
  subst hp
  obtain ⟨T', X', e', st⟩ := getS X hx w2.2.2.1 (own := y.cls) (host := "") w2.2.2.2.1 w via eT (F.ext hE) (g := mkF m pc L S) rfl (hb hby hd)
  exact Goes.step st (K T' ⟨vm, k, locs, X', e', w2, w3, w4, w5⟩)
theorem g_checkcast (W : Wk p l e R s m args below meth c y bc mL rt Z a0 EL nw h0 T h fr ce sl) {K0 : String} {index pc pc' : Nat} {L : Array Slot} {S : List Value} {a : Addr} (hd : decode bc pc = .ok (.checkcast index, 3)) (hp : pc + 3 = pc') (w : (Jvm.Cond.classLink y.cls index K0).before a0 Z = true) (F : Ins Z h a K0 true)
    (K : ∀ T', Wk p l e R s m args below meth c y bc mL rt Z a0 EL nw h0 T' h fr ce sl → Goes p e below s Z EL nw h0 fr0 Q rm T' (mkF m pc' L (.ref a :: S))) : Goes p e below s Z EL nw h0 fr0 Q rm T (mkF m pc L (.ref a :: S)) := by
  have hx := W.hx
  have hby := W.hby
  obtain ⟨vm, k, locs, X, eT, w2, w3, w4, w5⟩ := W
  subst hp
  obtain ⟨T', X', e', st⟩ := castY X hx w2.2.2.1 (own := y.cls) w2.2.2.2.1 w eT F (g := mkF m pc L (.ref a :: S)) rfl rfl (hb hby hd)
  exact Goes.step st (K T' ⟨vm, k, locs, X', e', w2, w3, w4, w5⟩)
theorem g_instY (W : Wk p l e R s m args below meth c y bc mL rt Z a0 EL nw h0 T h fr ce sl) {K0 : String} {index pc pc' : Nat} {L : Array Slot} {S : List Value} {a : Addr} (hd : decode bc pc = .ok (.instanceof index, 3)) (hp : pc + 3 = pc') (w : (Jvm.Cond.classLink y.cls index K0).before a0 Z = true) (F : Ins Z h a K0 true)
    (K : ∀ T', Wk p l e R s m args below meth c y bc mL rt Z a0 EL nw h0 T' h fr ce sl → Goes p e below s Z EL nw h0 fr0 Q rm T' (mkF m pc' L (.int 1 :: S))) : Goes p e below s Z EL nw h0 fr0 Q rm T (mkF m pc L (.ref a :: S)) := by
  have hx := W.hx
  have hby := W.hby
  obtain ⟨vm, k, locs, X, eT, w2, w3, w4, w5⟩ := W
  subst hp
  obtain ⟨T', X', e', st⟩ := instY X hx w2.2.2.1 (own := y.cls) w2.2.2.2.1 w eT F (g := mkF m pc L (.ref a :: S)) rfl rfl (hb hby hd)
  exact Goes.step st (K T' ⟨vm, k, locs, X', e', w2, w3, w4, w5⟩)
theorem g_initO (W : Wk p l e R s m args below meth c y bc mL rt Z a0 EL nw h0 T h fr ce sl) {idx pc pc' Wd : Nat} {L : Array Slot} {S : List Value} {a : Addr} (hd : decode bc pc = .ok (.invokespecial idx, 3)) (hp : pc + 3 = pc') (w1 : (Jvm.Cond.methodLink y.cls idx Lib.objectInit).before a0 Z = true) (w2 : (Jvm.Cond.instanceMethod Lib.objectInit).before a0 Z = true) (w3 : (Jvm.Cond.code Lib.objectInit ⟨#[0xb1]⟩ 1 none).before a0 Z = true)
    (hL : L.size = mL) (hW : (S.map fun v => v.category).sum = Wd) (hf : 1 ≤ R.frames) (hl : Wd + 12 ≤ R.locals)
    (K : ∀ T', Wk p l e R s m args below meth c y bc mL rt Z a0 EL nw h0 T' h fr ce sl → Goes p e below s Z EL nw h0 fr0 Q rm T' (mkF m pc' L S)) : Goes p e below s Z EL nw h0 fr0 Q rm T (mkF m pc L (.ref a :: S)) := by
  have hx := W.hx
  have hby := W.hby
  have hml := W.hml
  obtain ⟨vm, k, locs, X, eT, q2, q3, q4, q5⟩ := W
  subst hp
  obtain ⟨T', X', e', st⟩ := initO X hx q2.2.2.1 (own := y.cls) q2.2.2.2.1 w1 w2 w3 eT (g := mkF m pc L (.ref a :: S)) rfl (by rw [hml]; exact hL) rfl (hb hby hd) hf (W := Wd) (by show 2 * 0 + _ ≤ _; rw [hW]; exact Nat.le_of_eq (Nat.zero_add _)) hl
  exact Goes.step st (K T' ⟨vm, k, locs, X', e', q2, q3, q4, q5⟩)
/-- a fresh place may be written -/
theorem g_new (W : Wk p l e R s m args below meth c y bc mL rt Z a0 EL nw h0 T h fr ce sl) {C : String} {index n pc pc' : Nat} {L : Array Slot} {S : List Value} (hd : decode bc pc = .ok (.new index, 3)) (hp : pc + 3 = pc') (w : (Jvm.Cond.classLink y.cls index C).before a0 Z = true) (wi : (Jvm.Cond.instantiable C n).before a0 Z = true) (wz : (Jvm.Cond.initialized C).before a0 Z = true) (hc : ce + 1 ≤ R.cells) (hs : sl + n ≤ R.slots)
    (K : ∀ T' h' a, a = h.size → Wk p l e R s m args below meth c y bc mL rt Z a0 EL nw h0 T' h' (a :: fr) (ce + 1) (sl + n) → Ext h h' → Exa Z h' a C → (∀ {O nm d : String} {ty : FieldType}, Laid Z a0 C O nm d → parseFieldDescriptor d = some ty → Fld Z h' a O nm d (defaultValue ty)) → Goes p e below s Z EL nw h0 fr0 Q rm T' (mkF m pc' L (.ref a :: S))) : Goes p e below s Z EL nw h0 fr0 Q rm T (mkF m pc L S) := by
  have hx := W.hx
  have hby := W.hby
  have hE := W.ext
  obtain ⟨vm, k, locs, X, eT, q2, q3, q4, q5⟩ := W
  subst hp
  obtain ⟨T', h', X', e', E, A, D, -, st⟩ := newO X hx q2.2.2.1 (own := y.cls) q2.2.2.2.1 w wi wz eT (g := mkF m pc L S) rfl (hb hby hd) hc hs
  refine Goes.step st (K T' h' _ rfl ⟨vm, k, locs, X', e', ⟨q2.1, Nat.le_trans q2.2.1 E.1, q2.2.2⟩, ⟨q3.1, q3.2.trans (CHr.ext E q3.2.1)⟩, ⟨q4.1, ⟨Nat.le_trans hE.1 E.1, fun a c q => E.2 a c (hE.2 a c q)⟩, fun x hx => ?_⟩, q5⟩ E A D)
  rcases List.mem_cons.mp hx with rfl | hx
  · exact ⟨hE.1, A.lt, (Safe.new (Nat.le_refl _)).ext E q3.2.1⟩
  · exact ⟨(q4.2.2 x hx).1, Nat.lt_of_lt_of_le (q4.2.2 x hx).2.1 E.1, (q4.2.2 x hx).2.2.ext E q3.2.1⟩
theorem g_newarray (W : Wk p l e R s m args below meth c y bc mL rt Z a0 EL nw h0 T h fr ce sl) {aty : ArrayType} {pc pc' cap : Nat} {L : Array Slot} {S : List Value} {n : Int32} (hd : decode bc pc = .ok (.newarray aty, 2)) (hp : pc + 2 = pc') (w : (Jvm.Cond.arrayClass (newarray.typeOf aty)).before a0 Z = true) (hn : ¬ n < 0) (hcap : n.toNatClampNeg ≤ cap) (hbig : cap * 8 ≤ 536870912) (hc : ce + 1 ≤ R.cells) (hs : sl + cap ≤ R.slots)
    (K : ∀ T' h' a kA, a = h.size → Wk p l e R s m args below meth c y bc mL rt Z a0 EL nw h0 T' h' (a :: fr) (ce + 1) (sl + cap) → Ext h h' → Arv Z h' a kA (newarray.typeOf aty) n [] (defaultValue (newarray.typeOf aty)) → Goes p e below s Z EL nw h0 fr0 Q rm T' (mkF m pc' L (.ref a :: S))) : Goes p e below s Z EL nw h0 fr0 Q rm T (mkF m pc L (.int n :: S)) := by
  have hx := W.hx
  have hby := W.hby
  have hE := W.ext
  obtain ⟨vm, k, locs, X, eT, q2, q3, q4, q5⟩ := W
  subst hp
  obtain ⟨T', h', kA, X', e', E, A, st⟩ := newP X hx q2.2.2.1 w eT (g := mkF m pc L (.int n :: S)) rfl (hb hby hd) rfl hn hcap hbig hc hs
  refine Goes.step st (K T' h' _ kA rfl ⟨vm, k, locs, X', e', ⟨q2.1, Nat.le_trans q2.2.1 E.1, q2.2.2⟩, ⟨q3.1, q3.2.trans (CHr.ext E q3.2.1)⟩, ⟨q4.1, ⟨Nat.le_trans hE.1 E.1, fun a c q => E.2 a c (hE.2 a c q)⟩, fun x hx => ?_⟩, q5⟩ E (Arv.new A hn))
  rcases List.mem_cons.mp hx with rfl | hx
  · exact ⟨hE.1, A.lt, (Safe.new (Nat.le_refl _)).ext E q3.2.1⟩
  · exact ⟨(q4.2.2 x hx).1, Nat.lt_of_lt_of_le (q4.2.2 x hx).2.1 E.1, (q4.2.2 x hx).2.2.ext E q3.2.1⟩
/-- behind one write -/
theorem Wk.wrote {vm : Vm} {k : Nat} {locs : List Loc} {a : Addr} {j : Nat} {v : Value} (hm : a ∈ fr) (Wr0 : Wr h h' a j v)
    (X' : Stand p l e R (s.setVm vm) m args below meth c T' (locs ++ [⟨a, j⟩]) ce sl) (e' : T'.heap = h') (q2 : s.Since vm k ∧ k ≤ h.size ∧ Z.Warmed39 vm ∧ vm.findClass y.cls = some m.cls ∧ (nw = true → s.WarmedH vm)) (q3 : EW Z a0 EL ∧ CHr Z EL s.vm h0 vm h) (q4 : Fr Z.heap.size locs ∧ Ext Z.heap h ∧ ∀ x ∈ fr, Z.heap.size ≤ x ∧ x < h.size ∧ Safe Z EL vm h x) (q5 : p.tables.exec = Jvm.exec ∧ c.code = bc ∧ c.maxLocals = mL ∧ meth.sig.returnType = rt ∧ meth.locks = false ∧ meth.name = y.name) :
    Wk p l e R s m args below meth c y bc mL rt Z a0 EL nw h0 T' h' fr ce sl := by
  have hS := (q4.2.2 a hm).2.2
  have K0 := Keep.of_wr Wr0
  exact ⟨vm, k, _, X', e', ⟨q2.1, Nat.le_trans q2.2.1 K0.1, q2.2.2⟩, ⟨q3.1, q3.2.trans (CHr.wr Wr0 hS q3.2.1)⟩, ⟨Fr.snoc X' q4.1 (q4.2.2 a hm).1, ((show Old Z Z.heap.size h from ⟨rfl, q4.2.1⟩).wr Wr0 (q4.2.2 a hm).1).2, fun x hx => ⟨(q4.2.2 x hx).1, Nat.lt_of_lt_of_le (q4.2.2 x hx).2.1 K0.1, Safe.wr Wr0 hS q3.2.1 (q4.2.2 x hx).2.2⟩⟩, q5⟩
theorem g_putfield (W : Wk p l e R s m args below meth c y bc mL rt Z a0 EL nw h0 T h fr ce sl) {R0 O n d host C : String} {index kk pc pc' : Nat} {ty : FieldType} {L : Array Slot} {S : List Value} {a : Addr} {v old : Value} (hd : decode bc pc = .ok (.putfield index, 3)) (hp : pc + 3 = pc') (w : (Jvm.Cond.fieldLink y.cls index R0 n d).before a0 Z = true ∨ (Jvm.Cond.fieldLinkNest y.cls index R0 n d host).before a0 Z = true) (via : Via Z R0 O n d) (F : Fld Z h a O n d old) (E : Exa Z h a C)
    (Lw : (Jvm.Cond.lays C O n d).before a0 Z = true ∨ ((Jvm.Cond.laysFinal C O n d).before a0 Z = true ∧ y.cls = O ∧ y.name = "<init>")) (wi : (Jvm.Cond.instantiable C kk).before a0 Z = true) (hty : parseFieldDescriptor d = some ty) (hn : narrow ty v = v) (hf : fits ty v = true) (hm : a ∈ fr)
    (K : ∀ T' h', Wk p l e R s m args below meth c y bc mL rt Z a0 EL nw h0 T' h' fr ce sl → Wr h h' a (RoadKit.slotOf Z O n d) v → Goes p e below s Z EL nw h0 fr0 Q rm T' (mkF m pc' L S)) : Goes p e below s Z EL nw h0 fr0 Q rm T (mkF m pc L (v :: .ref a :: S)) := by
  have hx := W.hx
  have hby := W.hby
  obtain ⟨vm, k, locs, X, eT, q2, q3, q4, q5⟩ := W
  subst hp
  obtain ⟨T', h', X', e', W', st⟩ := putF X hx q2.2.2.1 (own := y.cls) q2.2.2.2.1 w via eT F E (Lw.imp id fun z => ⟨z.1, z.2.1, q5.2.2.2.2.2.trans z.2.2⟩) wi hty hn hf (g := mkF m pc L (v :: .ref a :: S)) rfl rfl (hb hby hd)
  exact Goes.step st (K T' h' (Wk.wrote hm W' X' e' q2 q3 q4 q5) W')
theorem g_castore (W : Wk p l e R s m args below meth c y bc mL rt Z a0 EL nw h0 T h fr ce sl) {pc pc' i : Nat} {kA : ClassId} {L : Array Slot} {S : List Value} {a : Addr} {j x x' n : Int32} {vs : List Value} {dv : Value} (hd : decode bc pc = .ok (.castore, 1)) (hp : pc + 1 = pc') (hx' : RoadKit.nar .char x = x') (A : Arv Z h a kA .char n vs dv) (hj : ¬ j < 0 ∧ j < n) (hi : j.toNatClampNeg = i) (hl : i < vs.length) (hm : a ∈ fr)
    (K : ∀ T' h', Wk p l e R s m args below meth c y bc mL rt Z a0 EL nw h0 T' h' fr ce sl → Wr h h' a j.toNatClampNeg (.int x') → Arv Z h' a kA .char n (vs.set i (.int x')) dv → Goes p e below s Z EL nw h0 fr0 Q rm T' (mkF m pc' L S)) : Goes p e below s Z EL nw h0 fr0 Q rm T (mkF m pc L (.int x :: .int j :: .ref a :: S)) := by
  have hx := W.hx
  have hby := W.hby
  obtain ⟨vm, k, locs, X, eT, q2, q3, q4, q5⟩ := W
  subst hp hx'
  obtain ⟨cl, A1, A2, A3, A4, A5, A6⟩ := A
  obtain ⟨T', h', X', e', W', st⟩ := stC X hx q2.2.2.1 eT A1 (j := j) (x := x) (inb_of A3 hj) (g := mkF m pc L (.int x :: .int j :: .ref a :: S)) rfl rfl (hb hby hd)
  exact Goes.step st (K T' h' (Wk.wrote hm W' X' e' q2 q3 q4 q5) W' (Arv.set A1 A2 A3 A4 A5 A6 (fits_nar_char _) W' i hi hl))
theorem g_bastore (W : Wk p l e R s m args below meth c y bc mL rt Z a0 EL nw h0 T h fr ce sl) {pc pc' i : Nat} {kA : ClassId} {L : Array Slot} {S : List Value} {a : Addr} {j x x' n : Int32} {vs : List Value} {dv : Value} (hd : decode bc pc = .ok (.bastore, 1)) (hp : pc + 1 = pc') (hx' : RoadKit.nar .byte x = x') (A : Arv Z h a kA .byte n vs dv) (hj : ¬ j < 0 ∧ j < n) (hi : j.toNatClampNeg = i) (hl : i < vs.length) (hm : a ∈ fr)
    (K : ∀ T' h', Wk p l e R s m args below meth c y bc mL rt Z a0 EL nw h0 T' h' fr ce sl → Wr h h' a j.toNatClampNeg (.int x') → Arv Z h' a kA .byte n (vs.set i (.int x')) dv → Goes p e below s Z EL nw h0 fr0 Q rm T' (mkF m pc' L S)) : Goes p e below s Z EL nw h0 fr0 Q rm T (mkF m pc L (.int x :: .int j :: .ref a :: S)) := by
  have hx := W.hx
  have hby := W.hby
  obtain ⟨vm, k, locs, X, eT, q2, q3, q4, q5⟩ := W
  subst hp hx'
  obtain ⟨cl, A1, A2, A3, A4, A5, A6⟩ := A
  obtain ⟨T', h', X', e', W', st⟩ := stB X hx q2.2.2.1 eT A1 (j := j) (x := x) (inb_of A3 hj) (g := mkF m pc L (.int x :: .int j :: .ref a :: S)) rfl rfl (hb hby hd)
  exact Goes.step st (K T' h' (Wk.wrote hm W' X' e' q2 q3 q4 q5) W' (Arv.set A1 A2 A3 A4 A5 A6 (fits_nar_byte _) W' i hi hl))
theorem g_arraylength (W : Wk p l e R s m args below meth c y bc mL rt Z a0 EL nw h0 T h fr ce sl) {pc pc' : Nat} {kA : ClassId} {ty : FieldType} {L : Array Slot} {S vs : List Value} {a : Addr} {n : Int32} {dv : Value} (hd : decode bc pc = .ok (.arraylength, 1)) (hp : pc + 1 = pc') (A : Arv Z h a kA ty n vs dv) (K : Goes p e below s Z EL nw h0 fr0 Q rm T (mkF m pc' L (.int n :: S))) : Goes p e below s Z EL nw h0 fr0 Q rm T (mkF m pc L (.ref a :: S)) := by
  have hx := W.hx
  have hby := W.hby
  obtain ⟨vm, k, locs, X, eT, q2, q3, q4, q5⟩ := W
  subst hp
  obtain ⟨cl, A1, A2, A3, A4, A5, A6⟩ := A
  refine Goes.step (fun t q => X.arraylength hx (by rw [eT]; exact A1.1) (State.isArrayOf_alike q2.2.2.1.alike A1.2.1) (g := mkF m pc L (.ref a :: S)) rfl rfl (hb hby hd) t ?_) K
  rw [len_of A3 A4]; exact q
theorem g_caload (W : Wk p l e R s m args below meth c y bc mL rt Z a0 EL nw h0 T h fr ce sl) {pc pc' : Nat} {kA : ClassId} {L : Array Slot} {S vs : List Value} {a : Addr} {n j : Int32} {dv v : Value} (hd : decode bc pc = .ok (.caload, 1)) (hp : pc + 1 = pc') (A : Arv Z h a kA .char n vs dv) (hj : ¬ j < 0 ∧ j < n) (hv : vs.getD j.toNatClampNeg dv = v) (K : Goes p e below s Z EL nw h0 fr0 Q rm T (mkF m pc' L (v :: S))) : Goes p e below s Z EL nw h0 fr0 Q rm T (mkF m pc L (.int j :: .ref a :: S)) := by
  have hx := W.hx
  have hby := W.hby
  obtain ⟨vm, k, locs, X, eT, q2, q3, q4, q5⟩ := W
  subst hp
  obtain ⟨cl, A1, A2, A3, A4, A5, A6⟩ := A
  exact Goes.step (fun t q => X.caload hx (j := j) (v := v) (by rw [eT]; exact A1.1) (State.isArrayOf_alike q2.2.2.1.alike A1.2.1) A1.2.2 (inb_of A3 hj) (A5.at (inb_of A3 hj) hv) (g := mkF m pc L (.int j :: .ref a :: S)) rfl rfl (hb hby hd) t q) K
theorem g_baload (W : Wk p l e R s m args below meth c y bc mL rt Z a0 EL nw h0 T h fr ce sl) {pc pc' : Nat} {kA : ClassId} {L : Array Slot} {S vs : List Value} {a : Addr} {n j : Int32} {dv v : Value} (hd : decode bc pc = .ok (.baload, 1)) (hp : pc + 1 = pc') (A : Arv Z h a kA .byte n vs dv) (hj : ¬ j < 0 ∧ j < n) (hv : vs.getD j.toNatClampNeg dv = v) (K : Goes p e below s Z EL nw h0 fr0 Q rm T (mkF m pc' L (v :: S))) : Goes p e below s Z EL nw h0 fr0 Q rm T (mkF m pc L (.int j :: .ref a :: S)) := by
  have hx := W.hx
  have hby := W.hby
  obtain ⟨vm, k, locs, X, eT, q2, q3, q4, q5⟩ := W
  subst hp
  obtain ⟨cl, A1, A2, A3, A4, A5, A6⟩ := A
  exact Goes.step (fun t q => X.baloadBytes hx (j := j) (v := v) (by rw [eT]; exact A1.1) (State.isArrayOf_alike q2.2.2.1.alike A1.2.1) A1.2.2 (inb_of A3 hj) (A5.at (inb_of A3 hj) hv) (g := mkF m pc L (.int j :: .ref a :: S)) rfl rfl (hb hby hd) t q) K
theorem g_aaload (W : Wk p l e R s m args below meth c y bc mL rt Z a0 EL nw h0 T h fr ce sl) {pc pc' : Nat} {kA : ClassId} {ty : FieldType} {L : Array Slot} {S vs : List Value} {a : Addr} {n j : Int32} {dv v : Value} (hd : decode bc pc = .ok (.aaload, 1)) (hp : pc + 1 = pc') (A : Arv Z h a kA ty n vs dv) (hty : ty.isReference = true) (hj : ¬ j < 0 ∧ j < n) (hv : vs.getD j.toNatClampNeg dv = v) (K : Goes p e below s Z EL nw h0 fr0 Q rm T (mkF m pc' L (v :: S))) : Goes p e below s Z EL nw h0 fr0 Q rm T (mkF m pc L (.int j :: .ref a :: S)) := by
  have hx := W.hx
  have hby := W.hby
  obtain ⟨vm, k, locs, X, eT, q2, q3, q4, q5⟩ := W
  subst hp
  obtain ⟨cl, A1, A2, A3, A4, A5, A6⟩ := A
  exact Goes.step (fun t q => X.aaload hx (j := j) (v := v) (by rw [eT]; exact A1.1) (State.isArrayOf_alike q2.2.2.1.alike A1.2.1) hty A1.2.2 (inb_of A3 hj) (A5.at (inb_of A3 hj) hv) (g := mkF m pc L (.int j :: .ref a :: S)) rfl rfl (hb hby hd) t q) K
theorem g_irem (W : Wk p l e R s m args below meth c y bc mL rt Z a0 EL nw h0 T h fr ce sl) {pc pc' : Nat} {L : Array Slot} {S : List Value} {x z : Int32} (hd : decode bc pc = .ok (.irem, 1)) (hp : pc + 1 = pc') (hz : z ≠ 0) (K : Goes p e below s Z EL nw h0 fr0 Q rm T (mkF m pc' L (.int (x % z) :: S))) : Goes p e below s Z EL nw h0 fr0 Q rm T (mkF m pc L (.int z :: .int x :: S)) := by
  have hx := W.hx
  have hby := W.hby
  obtain ⟨vm, k, locs, X, -⟩ := W
  subst hp
  exact Goes.step (fun t q => iremM X hx (g := mkF m pc L (.int z :: .int x :: S)) rfl (hb hby hd) rfl hz q) K
theorem g_ldcI (W : Wk p l e R s m args below meth c y bc mL rt Z a0 EL nw h0 T h fr ce sl) {pc pc' index : Nat} {L : Array Slot} {S : List Value} {v : Int32} (hd : decode bc pc = .ok (.ldc index, 2)) (hp : pc + 2 = pc') (w : (Jvm.Cond.constant y.cls index v).before a0 Z = true) (K : Goes p e below s Z EL nw h0 fr0 Q rm T (mkF m pc' L (.int v :: S))) : Goes p e below s Z EL nw h0 fr0 Q rm T (mkF m pc L S) := by
  have hx := W.hx
  have hby := W.hby
  obtain ⟨vm, k, locs, X, eT, q2, q3, q4, q5⟩ := W
  subst hp
  exact Goes.step (fun t q => X.ldcI hx (own := y.cls) q2.2.2.2.1 (mvT q2.2.2.1 w) (g := mkF m pc L S) rfl (hb hby hd) q) K
end K1
section K2
variable {p : Program} {l : Launch} {e : Env} {R : Room} {s : State} {m : MethodId} {args : Array Value} {below : List Frame} {meth : Method} {c : Code} {y z : MethodName} {bc bc' : ByteArray} {mL mL' : Nat} {rt rt' : Option FieldType} {Z : State} {a0 : Array Value} {EL : List (String × Nat)} {nw : Bool} {h0 h h' : Heap} {T T' U : State} {fr fr' fr0 : List Addr} {ce sl kc ks len Wd : Nat} {rm rm' : Room} {Q Q' : Option Value → Heap → Prop} {as : Array Value}
theorem safe_at {vm vm1 : Vm} {x : Addr} (A : CHr Z EL vm h vm1 h) (S : Safe Z EL vm h x) : Safe Z EL vm1 h x := fun B => by
  rcases A.2.2 x B with q | q
  · exact S q
  · obtain ⟨cell, hc⟩ := Bk.there B
    exact absurd (Array.getElem?_eq_some_iff.mp hc).1 (Nat.not_lt.mpr q)
/-- who pays a call -/
def Pays (l : Launch) (R : Room) (p : Program) (e : Env) (below : List Frame) (s : State) (args : Array Value) (Z : State) (EL : List (String × Nat)) (nw : Bool) (y : MethodName) (len Wd : Nat) (as : Array Value) (h : Heap) (fr' : List Addr) (Q : Option Value → Heap → Prop) (kc ks : Nat) : Prop :=
  ∀ vm : Vm, Z.Warmed39 vm → CHv Z EL vm h → (∀ x ∈ fr', Safe Z EL vm h x) → BackS l R p e below (s.setVm vm) args y len Wd (fun A a => a = as ∧ A.U.heap = h ∧ A.cells + kc ≤ R.cells ∧ A.slots + ks ≤ R.slots)
    (fun A _ v B => ∃ L, (Keep h B.U.heap fr' ∧ Q v B.U.heap ∧ Fr Z.heap.size L) ∧ B.locs = A.locs ++ L ∧ B.cells = A.cells + kc ∧ B.slots = A.slots + ks ∧ CHr Z EL vm h B.U.vm B.U.heap ∧ (nw = true → (s.setVm vm).WarmedH B.U.vm))
theorem Met.pays (M : Met l Z EL nw y bc mL rt [] rm as h fr' Q) (wc : (Jvm.Cond.code y bc mL rt).before a0 Z = true) (wz : (Jvm.Cond.initialized y.cls).before a0 Z = true) (hEL : EW Z a0 EL) (hf : rm.frames + 1 ≤ R.frames) (hl : Wd + (mL + 11) + rm.locals ≤ R.locals) :
    Pays l R p e below s args Z EL nw y len Wd as h fr' Q rm.cells rm.slots := fun vm hZ H hS =>
  BackS.of_freeW (bytes := bc) (maxL := mL) (ret := rt) (E := fun _ first o t L k n => k = rm.cells ∧ n = rm.slots ∧ ∃ v, o = .returned v ∧ (Keep h t.heap fr' ∧ Q v t.heap ∧ Fr Z.heap.size L) ∧ CHr Z EL first.vm h t.vm t.heap ∧ (nw = true → first.WarmedH t.vm)) M hf hl
    (fun m meth c A a Y hp => have hU : Z.Warmed39 A.U.vm := wtrans (s := s.setVm vm) hZ Y.warmed
      ⟨by show (Jvm.Cond.and _ .tt).before a A.U = true; rw [Cond.before_and, mv hU wc]; rfl, mv hU wc, mv hU wz, hp.2.2.1, hp.2.2.2⟩)
    (fun m meth c A a g mk Y hp => by
      have C0 := CHv.at Y hZ hEL H
      exact ⟨hp.1, wtrans (s := s.setVm vm) hZ Y.warmed, hp.2.1, C0.1, fun x hx => safe_at C0 (hS x hx)⟩) (fun _ _ _ _ _ _ _ _ _ => trivial)
    (fun _ _ _ _ ⟨v, L, g1, g2, g3, g4, g5⟩ => ⟨L, _, _, g5, rfl, rfl, v, g1, g2, g3, g4⟩)
    (fun m meth c A a g mk v t L k n Y hp _ _ ⟨e1, e2, v', e3, e4, e5, e6⟩ => by
      cases e3; subst e1 e2
      exact ⟨L, e4, rfl, rfl, rfl, (CHv.at Y hZ hEL H).trans e5, fun q => State.WarmedH.trans (s := s.setVm vm) Y.warmed (e6 q)⟩)
theorem pays_back {Q0 : Option Value → Heap → List Loc → Prop} (hEL : EW Z a0 EL)
    (K : ∀ vm : Vm, Z.Warmed39 vm → Back l R p e below (s.setVm vm) args y len Wd (fun P a => a = as ∧ P.U.heap = h ∧ P.cells + kc ≤ R.cells ∧ P.slots + ks ≤ R.slots) (fun P _ v B => ∃ L, Q0 v B.U.heap L ∧ B.locs = P.locs ++ L ∧ B.cells = P.cells + kc ∧ B.slots = P.slots + ks))
    (q : ∀ v h' L, Q0 v h' L → Keep h h' fr' ∧ Q v h' ∧ Fr Z.heap.size L) : Pays l R p e below s args Z EL nw y len Wd as h fr' Q kc ks := fun vm hZ H hS m meth c A g ig mk a X hg hsize hdg hW hn hp => by
  obtain ⟨v, B, X', ⟨L, hq, e1, e2, e3⟩, st⟩ := K vm hZ m meth c A g ig mk a X hg hsize hdg hW hn hp
  obtain ⟨k1, k2, k3⟩ := q _ _ _ hq
  refine ⟨v, B, X'.retabled X'.warmed.wide, X'.warmed.since _, ?_, ⟨L, ⟨k1, k2, k3⟩, e1, e2, e3, ?_, fun _ => X'.warmed⟩, st⟩
  · rw [hp.2.1]; exact k1.1
  · exact (CHr.keep k1 hS H).trans (CHv.at X' hZ hEL (CHv.keep k1 hS H))
theorem Wk.back {vm : Vm} {k : Nat} {locs L' : List Loc} (eT : T.heap = h) (q2 : s.Since vm k ∧ k ≤ h.size ∧ Z.Warmed39 vm ∧ vm.findClass y.cls = some m.cls ∧ (nw = true → s.WarmedH vm)) (q3 : EW Z a0 EL ∧ CHr Z EL s.vm h0 vm h) (q4 : Fr Z.heap.size locs ∧ Ext Z.heap h ∧ ∀ x ∈ fr, Z.heap.size ≤ x ∧ x < h.size ∧ Safe Z EL vm h x) (q5 : p.tables.exec = Jvm.exec ∧ c.code = bc ∧ c.maxLocals = mL ∧ meth.sig.returnType = rt ∧ meth.locks = false ∧ meth.name = y.name)
    (hm : ∀ x ∈ fr', x ∈ fr) (X' : Stand p l e R ((s.setVm vm).setVm U.vm) m args below meth c U (locs ++ L') (ce + kc) (sl + ks)) (hS' : (s.setVm vm).Since U.vm U.heap.size) (hg : T.heap.size ≤ U.heap.size) (k1 : Keep h U.heap fr') (k3 : Fr Z.heap.size L') (hC : CHr Z EL vm h U.vm U.heap) (hN : nw = true → (s.setVm vm).WarmedH U.vm) :
    Wk p l e R s m args below meth c y bc mL rt Z a0 EL nw h0 U U.heap fr (ce + kc) (sl + ks) :=
  ⟨U.vm, U.heap.size, locs ++ L', X', rfl, ⟨q2.1.trans hS' (Nat.le_trans q2.2.1 (eT ▸ hg)), Nat.le_refl _, State.Warmed39.trans (t := s.setVm vm) q2.2.2.1 hS'.1, (hS'.1.alike.findClass _ _).trans q2.2.2.2.1, fun w => State.WarmedH.trans (t := s.setVm vm) (q2.2.2.2.2 w) (hN w)⟩,
    ⟨q3.1, q3.2.trans hC⟩, ⟨q4.1.app k3, ((show Old Z Z.heap.size h from ⟨rfl, q4.2.1⟩).keep k1 fun x hx => (q4.2.2 x (hm x hx)).1).2, fun x hx => ⟨(q4.2.2 x hx).1, Nat.lt_of_lt_of_le (q4.2.2 x hx).2.1 k1.1, hC.safe (q4.2.2 x hx).2.1 (q4.2.2 x hx).2.2⟩⟩, q5⟩
theorem g_static (W : Wk p l e R s m args below meth c y bc mL rt Z a0 EL nw h0 T h fr ce sl) {index pc pc' : Nat} {L : Array Slot} {S argsL rest : List Value} (hd : decode bc pc = .ok (.invokestatic index, 3)) (hp : pc + 3 = pc')
    (wl : (Jvm.Cond.methodLink y.cls index z).before a0 Z = true) (ws : (Jvm.Cond.static z).before a0 Z = true) (wz : (Jvm.Cond.initialized z.cls).before a0 Z = true) (wc : (Jvm.Cond.code z bc' mL' rt').before a0 Z = true) (hy : z.cls ≠ "java/lang/invoke/MethodHandle" ∧ z.cls ≠ "java/lang/invoke/VarHandle")
    (hL : L.size = mL) (hSt : S = argsL.reverse ++ rest) (hlen : ∀ sig, parseMethodDescriptor z.desc = some sig → argsL.length = sig.parameters.length) (hW : (rest.map fun v => v.category).sum = Wd) (hm : ∀ x ∈ fr', x ∈ fr) (hc : ce + kc ≤ R.cells) (hs : sl + ks ≤ R.slots)
    (P : Pays l R p e below s args Z EL nw z 3 Wd argsL.toArray h fr' Q' kc ks)
    (K : ∀ v T' h', Wk p l e R s m args below meth c y bc mL rt Z a0 EL nw h0 T' h' fr (ce + kc) (sl + ks) → Keep h h' fr' → Q' v h' → Goes p e below s Z EL nw h0 fr0 Q rm T' (mkF m pc' L (v.toList ++ rest))) : Goes p e below s Z EL nw h0 fr0 Q rm T (mkF m pc L S) := by
  have hx := W.hx
  have hby := W.hby
  have hml := W.hml
  obtain ⟨vm, k, locs, X, eT, q2, q3, q4, q5⟩ := W
  subst hp
  obtain ⟨v, vm1, ⟨U, Lc, kc', ks'⟩, hv1, X', hS', hg, ⟨L', ⟨k1, k2, k3⟩, e1, e2, e3, hC, hN⟩, st⟩ := callSS X hx (own := y.cls) q2.2.2.2.1 (mvT q2.2.2.1 wl) (mvT q2.2.2.1 ws) (mvT q2.2.2.1 wz) (mvT q2.2.2.1 wc) hy (P vm q2.2.2.1 q3.2.1 fun x hx => (q4.2.2 x (hm x hx)).2.2) (g := mkF m pc L S) rfl (by rw [hml]; exact hL) (argsL := argsL) (rest := rest) hlen hSt (by show 2 * 0 + _ ≤ _; rw [hW]; exact Nat.le_of_eq (Nat.zero_add _)) (hb hby hd) (fun _ _ => ⟨rfl, eT, hc, hs⟩)
  dsimp only [Pt.U, Pt.locs, Pt.cells, Pt.slots] at X' hS' hg k1 k2 e1 e2 e3 hC hN st
  subst e1 e2 e3
  exact Goes.step (fun t q => st.trans q) (K v U U.heap (Wk.back eT q2 q3 q4 q5 hm X' hS' hg k1 k3 hC hN) k1 k2)
theorem g_special (W : Wk p l e R s m args below meth c y bc mL rt Z a0 EL nw h0 T h fr ce sl) {index pc pc' : Nat} {L : Array Slot} {S argsL rest : List Value} {a : Addr} (hd : decode bc pc = .ok (.invokespecial index, 3)) (hp : pc + 3 = pc') (hi : z.name = "<init>")
    (wl : (Jvm.Cond.methodLink y.cls index z).before a0 Z = true) (wi : (Jvm.Cond.instanceMethod z).before a0 Z = true) (wc : (Jvm.Cond.code z bc' mL' none).before a0 Z = true) (hy : z.cls ≠ "java/lang/invoke/MethodHandle" ∧ z.cls ≠ "java/lang/invoke/VarHandle")
    (hL : L.size = mL) (hSt : S = argsL.reverse ++ .ref a :: rest) (hlen : ∀ sig, parseMethodDescriptor z.desc = some sig → argsL.length = sig.parameters.length) (hW : (rest.map fun v => v.category).sum = Wd) (hm : ∀ x ∈ fr', x ∈ fr) (hc : ce + kc ≤ R.cells) (hs : sl + ks ≤ R.slots)
    (P : Pays l R p e below s args Z EL nw z 3 Wd (.ref a :: argsL).toArray h fr' Q' kc ks)
    (K : ∀ v T' h', Wk p l e R s m args below meth c y bc mL rt Z a0 EL nw h0 T' h' fr (ce + kc) (sl + ks) → Keep h h' fr' → Q' v h' → Goes p e below s Z EL nw h0 fr0 Q rm T' (mkF m pc' L (v.toList ++ rest))) : Goes p e below s Z EL nw h0 fr0 Q rm T (mkF m pc L S) := by
  have hx := W.hx
  have hby := W.hby
  have hml := W.hml
  obtain ⟨vm, k, locs, X, eT, q2, q3, q4, q5⟩ := W
  subst hp
  obtain ⟨v, vm1, ⟨U, Lc, kc', ks'⟩, hv1, X', hS', hg, ⟨L', ⟨k1, k2, k3⟩, e1, e2, e3, hC, hN⟩, st⟩ := X.specialBackS hx hi (own := y.cls) q2.2.2.2.1 (mvT q2.2.2.1 wl) (mvT q2.2.2.1 wi) (mvT q2.2.2.1 wc) hy (P vm q2.2.2.1 q3.2.1 fun x hx => (q4.2.2 x (hm x hx)).2.2) (g := mkF m pc L S) rfl (by rw [hml]; exact hL) (Steps.refl _) (a := a) (argsL := argsL) (rest := rest) hlen hSt (by show 2 * 0 + _ ≤ _; rw [hW]; exact Nat.le_of_eq (Nat.zero_add _)) (hb hby hd) (fun _ _ => ⟨rfl, eT, hc, hs⟩)
  dsimp only [Pt.U, Pt.locs, Pt.cells, Pt.slots] at X' hS' hg k1 k2 e1 e2 e3 hC hN st
  subst e1 e2 e3
  exact Goes.step (fun t q => st.trans q) (K v U U.heap (Wk.back eT q2 q3 q4 q5 hm X' hS' hg k1 k3 hC hN) k1 k2)
theorem g_virtual (W : Wk p l e R s m args below meth c y bc mL rt Z a0 EL nw h0 T h fr ce sl) {y' : MethodName} {C : String} {index pc pc' : Nat} {L : Array Slot} {S argsL rest : List Value} {a : Addr} (hd : decode bc pc = .ok (.invokevirtual index, 3)) (hp : pc + 3 = pc')
    (wl : (Jvm.Cond.methodLink y.cls index y').before a0 Z = true) (wd : (Jvm.Cond.declares y').before a0 Z = true) (ws : (Jvm.Cond.selects C y' y').before a0 Z = true) (wi : (Jvm.Cond.instanceMethod y').before a0 Z = true) (hy : y'.cls ≠ "java/lang/invoke/MethodHandle" ∧ y'.cls ≠ "java/lang/invoke/VarHandle") (E : Exa Z h a C)
    (hL : L.size = mL) (hSt : S = argsL.reverse ++ .ref a :: rest) (hlen : ∀ sig, parseMethodDescriptor y'.desc = some sig → argsL.length = sig.parameters.length) (hW : (rest.map fun v => v.category).sum = Wd) (hm : ∀ x ∈ fr', x ∈ fr) (hc : ce + kc ≤ R.cells) (hs : sl + ks ≤ R.slots)
    (P : Pays l R p e below s args Z EL nw y' 3 Wd (.ref a :: argsL).toArray h fr' Q' kc ks)
    (K : ∀ v T' h', Wk p l e R s m args below meth c y bc mL rt Z a0 EL nw h0 T' h' fr (ce + kc) (sl + ks) → Keep h h' fr' → Q' v h' → Goes p e below s Z EL nw h0 fr0 Q rm T' (mkF m pc' L (v.toList ++ rest))) : Goes p e below s Z EL nw h0 fr0 Q rm T (mkF m pc L S) := by
  have hx := W.hx
  have hby := W.hby
  have hml := W.hml
  obtain ⟨vm, k, locs, X, eT, q2, q3, q4, q5⟩ := W
  subst hp
  obtain ⟨cB, kB, r1, r2, r3⟩ := isOf (s := s.setVm vm) q2.2.2.1 eT E
  obtain ⟨v, vm1, ⟨U, Lc, kc', ks'⟩, hv1, X', hS', hg, ⟨L', ⟨k1, k2, k3⟩, e1, e2, e3, hC, hN⟩, st⟩ := X.virtualBackS hx (own := y.cls) q2.2.2.2.1 (mvT q2.2.2.1 wl) (mvT q2.2.2.1 wd) (notFace_of_selects (args := #[]) (mvT q2.2.2.1 ws)) (mvT q2.2.2.1 ws) (mvT q2.2.2.1 wi) hy (P vm q2.2.2.1 q3.2.1 fun x hx => (q4.2.2 x (hm x hx)).2.2) r1 r3 (g := mkF m pc L S) rfl (by rw [hml]; exact hL) (Steps.refl _) (argsL := argsL) (rest := rest) hlen hSt (by show 2 * 0 + _ ≤ _; rw [hW]; exact Nat.le_of_eq (Nat.zero_add _)) (hb hby hd) (fun _ _ => ⟨rfl, eT, hc, hs⟩)
  dsimp only [Pt.U, Pt.locs, Pt.cells, Pt.slots] at X' hS' hg k1 k2 e1 e2 e3 hC hN st
  subst e1 e2 e3
  exact Goes.step (fun t q => st.trans q) (K v U U.heap (Wk.back eT q2 q3 q4 q5 hm X' hS' hg k1 k3 hC hN) k1 k2)
/-- ldc of a String constant -/
theorem g_ldc (W : Wk p l e R s m args below meth c y bc mL rt Z a0 EL false h0 T h fr ce sl) {text : String} {index pc pc' n : Nat} {L : Array Slot} {S vs : List Value} {zz : Int32} (hd : decode bc pc = .ok (.ldc index, 2)) (hp : pc + 2 = pc') (w : (Jvm.Cond.stringLink y.cls index text).before a0 Z = true) (wS : ∀ a ∈ Bundle.stringAtoms, a.before a0 Z = true) (hmem : (y.cls, index) ∈ EL)
    (ht : (∀ c ∈ text.toList, c.toNat < 256) ∧ text.toList.map (fun c => Value.int (Jvm.Lit.byteI c.toNat.toUInt16)) = vs) (hz : ¬ zz < 0) (hl : zz.toNatClampNeg = vs.length) (hn : 4 * text.toList.length ≤ n) (hbig : n ≤ 536870912) (hc : ce + 2 ≤ R.cells) (hs : sl + (n + 4) ≤ R.slots)
    (K : ∀ T' h' a b k, Wk p l e R s m args below meth c y bc mL rt Z a0 EL false h0 T' h' fr (ce + 2) (sl + (n + 4)) → Ext h h' → Exa Z h' a "java/lang/String" → Fld Z h' a "java/lang/String" "coder" "B" (.int 0) → Fld Z h' a "java/lang/String" "value" "[B" (.ref b) → Arv Z h' b k .byte zz vs (.int 0) → (∀ x ∈ fr, x ≠ a ∧ x ≠ b) → Goes p e below s Z EL false h0 fr0 Q rm T' (mkF m pc' L (.ref a :: S))) : Goes p e below s Z EL false h0 fr0 Q rm T (mkF m pc L S) := by
  have hx := W.hx
  have hby := W.hby
  obtain ⟨vm, k, locs, X, eT, q2, q3, q4, q5⟩ := W
  subst hp
  obtain ⟨a, T', h', k1, b, kb, X', e', E, hS, hk, hZ, hf, x1, x2, x3, x4, x5, x6, hC, -, hne, st⟩ := ldcCH X hx q2.2.2.1 (own := y.cls) q2.2.2.2.1 w wS eT q2.1 q2.2.1 q3.1 hmem q3.2.1 ht hz hl (g := mkF m pc L S) rfl (hb hby hd) hn hbig hc hs
  have hfr : ∀ x ∈ fr, Safe Z EL T'.vm h' x := fun x hx => hC.safe (q4.2.2 x hx).2.1 (q4.2.2 x hx).2.2
  exact Goes.step st (K T' h' a b kb ⟨T'.vm, k1, locs, X', e', ⟨hS, hk, hZ, hf, fun w => nomatch w⟩, ⟨q3.1, q3.2.trans hC⟩, ⟨q4.1, ⟨Nat.le_trans q4.2.1.1 E.1, fun a c q => E.2 a c (q4.2.1.2 a c q)⟩, fun x hx => ⟨(q4.2.2 x hx).1, Nat.lt_of_lt_of_le (q4.2.2 x hx).2.1 E.1, hfr x hx⟩⟩, q5⟩ E x1 x2 x3 x4 fun x hx => hne x (hfr x hx))
/-- ldc of a String constant of which nothing is known -/
theorem g_ldcO (W : Wk p l e R s m args below meth c y bc mL rt Z a0 EL false h0 T h fr ce sl) {text : String} {index pc pc' n : Nat} {L : Array Slot} {S : List Value} (hd : decode bc pc = .ok (.ldc index, 2)) (hp : pc + 2 = pc') (w : (Jvm.Cond.stringLink y.cls index text).before a0 Z = true) (wS : ∀ a ∈ Bundle.stringAtoms, a.before a0 Z = true)
    (hn : 4 * text.toList.length ≤ n) (hbig : n ≤ 536870912) (hc : ce + 2 ≤ R.cells) (hs : sl + (n + 4) ≤ R.slots)
    (K : ∀ T' h' a, Wk p l e R s m args below meth c y bc mL rt Z a0 EL false h0 T' h' fr (ce + 2) (sl + (n + 4)) → Ext h h' → Goes p e below s Z EL false h0 fr0 Q rm T' (mkF m pc' L (.ref a :: S))) : Goes p e below s Z EL false h0 fr0 Q rm T (mkF m pc L S) := by
  have hx := W.hx
  have hby := W.hby
  obtain ⟨vm, k, locs, X, eT, q2, q3, q4, q5⟩ := W
  subst hp
  obtain ⟨a, T', h', k1, X', e', E, hS, hk, hZ, hf, hC, -, st⟩ := ldcOH X hx q2.2.2.1 (own := y.cls) q2.2.2.2.1 w wS eT q2.1 q2.2.1 q3.1 q3.2.1 (g := mkF m pc L S) rfl (hb hby hd) hn hbig hc hs
  have hfr : ∀ x ∈ fr, Safe Z EL T'.vm h' x := fun x hx => hC.safe (q4.2.2 x hx).2.1 (q4.2.2 x hx).2.2
  exact Goes.step st (K T' h' a ⟨T'.vm, k1, locs, X', e', ⟨hS, hk, hZ, hf, fun w => nomatch w⟩, ⟨q3.1, q3.2.trans hC⟩, ⟨q4.1, ⟨Nat.le_trans q4.2.1.1 E.1, fun a c q => E.2 a c (q4.2.1.2 a c q)⟩, fun x hx => ⟨(q4.2.2 x hx).1, Nat.lt_of_lt_of_le (q4.2.2 x hx).2.1 E.1, hfr x hx⟩⟩, q5⟩ E)
end K2
section K3
variable {p : Program} {l : Launch} {e : Env} {R : Room} {s : State} {m : MethodId} {args : Array Value} {below : List Frame} {meth : Method} {c : Code} {y : MethodName} {bc : ByteArray} {mL : Nat} {rt : Option FieldType} {Z : State} {a0 : Array Value} {EL : List (String × Nat)} {nw : Bool} {h0 h h' : Heap} {T : State} {fr fr0 : List Addr} {ce sl : Nat} {rm : Room} {Q : Option Value → Heap → Prop}
theorem g_aload_n (W : Wk p l e R s m args below meth c y bc mL rt Z a0 EL nw h0 T h fr ce sl) {pc pc' : Nat} {L : Array Slot} {S : List Value} {k : Fin 4} {v : Value} (hd : decode bc pc = .ok (.aload_n k, 1)) (hp : pc + 1 = pc') (hl : L[k.val]? = some (.val v)) (hv : v.isRef = true) (K : Goes p e below s Z EL nw h0 fr0 Q rm T (mkF m pc' L (v :: S))) : Goes p e below s Z EL nw h0 fr0 Q rm T (mkF m pc L S) := by
  subst hp
  exact Goes.step (fun _ q => XS.aloadN W.here W.hx rfl (hb W.hby hd) hl hv q) K
theorem g_aload (W : Wk p l e R s m args below meth c y bc mL rt Z a0 EL nw h0 T h fr ce sl) {pc pc' : Nat} {L : Array Slot} {S : List Value} {k : Nat} {v : Value} (hd : decode bc pc = .ok (.aload k, 2)) (hp : pc + 2 = pc') (hl : L[k]? = some (.val v)) (hv : v.isRef = true) (K : Goes p e below s Z EL nw h0 fr0 Q rm T (mkF m pc' L (v :: S))) : Goes p e below s Z EL nw h0 fr0 Q rm T (mkF m pc L S) := by
  subst hp
  exact Goes.step (fun _ q => XS.aload W.here W.hx rfl (hb W.hby hd) hl hv q) K
theorem g_iload_n (W : Wk p l e R s m args below meth c y bc mL rt Z a0 EL nw h0 T h fr ce sl) {pc pc' : Nat} {L : Array Slot} {S : List Value} {k : Fin 4} {v : Int32} (hd : decode bc pc = .ok (.iload_n k, 1)) (hp : pc + 1 = pc') (hl : L[k.val]? = some (.val (.int v))) (K : Goes p e below s Z EL nw h0 fr0 Q rm T (mkF m pc' L (.int v :: S))) : Goes p e below s Z EL nw h0 fr0 Q rm T (mkF m pc L S) := by
  subst hp
  exact Goes.step (fun _ q => XS.iloadN W.here W.hx rfl (hb W.hby hd) hl q) K
theorem g_iload (W : Wk p l e R s m args below meth c y bc mL rt Z a0 EL nw h0 T h fr ce sl) {pc pc' : Nat} {L : Array Slot} {S : List Value} {k : Nat} {v : Int32} (hd : decode bc pc = .ok (.iload k, 2)) (hp : pc + 2 = pc') (hl : L[k]? = some (.val (.int v))) (K : Goes p e below s Z EL nw h0 fr0 Q rm T (mkF m pc' L (.int v :: S))) : Goes p e below s Z EL nw h0 fr0 Q rm T (mkF m pc L S) := by
  subst hp
  exact Goes.step (fun _ q => XS.iload W.here W.hx rfl (hb W.hby hd) hl q) K
theorem g_lload_n (W : Wk p l e R s m args below meth c y bc mL rt Z a0 EL nw h0 T h fr ce sl) {pc pc' : Nat} {L : Array Slot} {S : List Value} {k : Fin 4} {v : Int64} (hd : decode bc pc = .ok (.lload_n k, 1)) (hp : pc + 1 = pc') (hl : L[k.val]? = some (.val (.long v))) (K : Goes p e below s Z EL nw h0 fr0 Q rm T (mkF m pc' L (.long v :: S))) : Goes p e below s Z EL nw h0 fr0 Q rm T (mkF m pc L S) := by
  subst hp
  exact Goes.step (fun _ q => Jvm.Free.XT.lloadN W.here W.hx rfl (hb W.hby hd) hl q) K
theorem g_lload (W : Wk p l e R s m args below meth c y bc mL rt Z a0 EL nw h0 T h fr ce sl) {pc pc' : Nat} {L : Array Slot} {S : List Value} {k : Nat} {v : Int64} (hd : decode bc pc = .ok (.lload k, 2)) (hp : pc + 2 = pc') (hl : L[k]? = some (.val (.long v))) (K : Goes p e below s Z EL nw h0 fr0 Q rm T (mkF m pc' L (.long v :: S))) : Goes p e below s Z EL nw h0 fr0 Q rm T (mkF m pc L S) := by
  subst hp
  exact Goes.step (fun _ q => Jvm.Free.XT.lload W.here W.hx rfl (hb W.hby hd) hl q) K
theorem g_iconst (W : Wk p l e R s m args below meth c y bc mL rt Z a0 EL nw h0 T h fr ce sl) {pc pc' : Nat} {L : Array Slot} {S : List Value} {i : Int} {v : Int32} (hd : decode bc pc = .ok (.iconst i, 1)) (hp : pc + 1 = pc') (hv : Int32.ofInt i = v) (K : Goes p e below s Z EL nw h0 fr0 Q rm T (mkF m pc' L (.int v :: S))) : Goes p e below s Z EL nw h0 fr0 Q rm T (mkF m pc L S) := by
  subst hp
  exact Goes.step (fun _ q => Jvm.Free.XT.iconstV W.here W.hx rfl v (hb W.hby hd) hv q) K
theorem g_bipush (W : Wk p l e R s m args below meth c y bc mL rt Z a0 EL nw h0 T h fr ce sl) {pc pc' : Nat} {L : Array Slot} {S : List Value} {i : Int} {v : Int32} (hd : decode bc pc = .ok (.bipush i, 2)) (hp : pc + 2 = pc') (hv : (Int8.ofInt i).toInt32 = v) (K : Goes p e below s Z EL nw h0 fr0 Q rm T (mkF m pc' L (.int v :: S))) : Goes p e below s Z EL nw h0 fr0 Q rm T (mkF m pc L S) := by
  subst hp
  exact Goes.step (fun _ q => Jvm.Free.XT.bipushV W.here W.hx rfl v (hb W.hby hd) hv q) K
theorem g_sipush (W : Wk p l e R s m args below meth c y bc mL rt Z a0 EL nw h0 T h fr ce sl) {pc pc' : Nat} {L : Array Slot} {S : List Value} {i : Int} {v : Int32} (hd : decode bc pc = .ok (.sipush i, 3)) (hp : pc + 3 = pc') (hv : (Int16.ofInt i).toInt32 = v) (K : Goes p e below s Z EL nw h0 fr0 Q rm T (mkF m pc' L (.int v :: S))) : Goes p e below s Z EL nw h0 fr0 Q rm T (mkF m pc L S) := by
  subst hp
  exact Goes.step (fun _ q => Jvm.Free.XT.sipushV W.here W.hx rfl v (hb W.hby hd) hv q) K
theorem g_aconst_null (W : Wk p l e R s m args below meth c y bc mL rt Z a0 EL nw h0 T h fr ce sl) {pc pc' : Nat} {L : Array Slot} {S : List Value}  (hd : decode bc pc = .ok (.aconst_null, 1)) (hp : pc + 1 = pc')  (K : Goes p e below s Z EL nw h0 fr0 Q rm T (mkF m pc' L (.null :: S))) : Goes p e below s Z EL nw h0 fr0 Q rm T (mkF m pc L S) := by
  subst hp
  exact Goes.step (fun _ q => XS.aconstNull W.here W.hx rfl (hb W.hby hd)  q) K
theorem g_iadd (W : Wk p l e R s m args below meth c y bc mL rt Z a0 EL nw h0 T h fr ce sl) {pc pc' : Nat} {L : Array Slot} {S : List Value} {x z : Int32} (hd : decode bc pc = .ok (.iadd, 1)) (hp : pc + 1 = pc')  (K : Goes p e below s Z EL nw h0 fr0 Q rm T (mkF m pc' L (.int (x + z) :: S))) : Goes p e below s Z EL nw h0 fr0 Q rm T (mkF m pc L (.int z :: .int x :: S)) := by
  subst hp
  exact Goes.step (fun _ q => XS.iadd W.here W.hx rfl (hb W.hby hd) rfl q) K
theorem g_isub (W : Wk p l e R s m args below meth c y bc mL rt Z a0 EL nw h0 T h fr ce sl) {pc pc' : Nat} {L : Array Slot} {S : List Value} {x z : Int32} (hd : decode bc pc = .ok (.isub, 1)) (hp : pc + 1 = pc')  (K : Goes p e below s Z EL nw h0 fr0 Q rm T (mkF m pc' L (.int (x - z) :: S))) : Goes p e below s Z EL nw h0 fr0 Q rm T (mkF m pc L (.int z :: .int x :: S)) := by
  subst hp
  exact Goes.step (fun _ q => XS.isub W.here W.hx rfl (hb W.hby hd) rfl q) K
theorem g_iand (W : Wk p l e R s m args below meth c y bc mL rt Z a0 EL nw h0 T h fr ce sl) {pc pc' : Nat} {L : Array Slot} {S : List Value} {x z : Int32} (hd : decode bc pc = .ok (.iand, 1)) (hp : pc + 1 = pc')  (K : Goes p e below s Z EL nw h0 fr0 Q rm T (mkF m pc' L (.int (x &&& z) :: S))) : Goes p e below s Z EL nw h0 fr0 Q rm T (mkF m pc L (.int z :: .int x :: S)) := by
  subst hp
  exact Goes.step (fun _ q => XS.iand W.here W.hx rfl (hb W.hby hd) rfl q) K
theorem g_imul (W : Wk p l e R s m args below meth c y bc mL rt Z a0 EL nw h0 T h fr ce sl) {pc pc' : Nat} {L : Array Slot} {S : List Value} {x z : Int32} (hd : decode bc pc = .ok (.imul, 1)) (hp : pc + 1 = pc')  (K : Goes p e below s Z EL nw h0 fr0 Q rm T (mkF m pc' L (.int (x * z) :: S))) : Goes p e below s Z EL nw h0 fr0 Q rm T (mkF m pc L (.int z :: .int x :: S)) := by
  subst hp
  exact Goes.step (fun _ q => XS.imul W.here W.hx rfl (hb W.hby hd) rfl q) K
theorem g_ior (W : Wk p l e R s m args below meth c y bc mL rt Z a0 EL nw h0 T h fr ce sl) {pc pc' : Nat} {L : Array Slot} {S : List Value} {x z : Int32} (hd : decode bc pc = .ok (.ior, 1)) (hp : pc + 1 = pc')  (K : Goes p e below s Z EL nw h0 fr0 Q rm T (mkF m pc' L (.int (x ||| z) :: S))) : Goes p e below s Z EL nw h0 fr0 Q rm T (mkF m pc L (.int z :: .int x :: S)) := by
  subst hp
  exact Goes.step (fun _ q => Jvm.Free.XT.ior W.here W.hx rfl (hb W.hby hd) rfl q) K
theorem g_ixor (W : Wk p l e R s m args below meth c y bc mL rt Z a0 EL nw h0 T h fr ce sl) {pc pc' : Nat} {L : Array Slot} {S : List Value} {x z : Int32} (hd : decode bc pc = .ok (.ixor, 1)) (hp : pc + 1 = pc')  (K : Goes p e below s Z EL nw h0 fr0 Q rm T (mkF m pc' L (.int (x ^^^ z) :: S))) : Goes p e below s Z EL nw h0 fr0 Q rm T (mkF m pc L (.int z :: .int x :: S)) := by
  subst hp
  exact Goes.step (fun _ q => Jvm.Free.XT.ixor W.here W.hx rfl (hb W.hby hd) rfl q) K
theorem g_ishl (W : Wk p l e R s m args below meth c y bc mL rt Z a0 EL nw h0 T h fr ce sl) {pc pc' : Nat} {L : Array Slot} {S : List Value} {x z : Int32} (hd : decode bc pc = .ok (.ishl, 1)) (hp : pc + 1 = pc')  (K : Goes p e below s Z EL nw h0 fr0 Q rm T (mkF m pc' L (.int (x <<< (z &&& 31)) :: S))) : Goes p e below s Z EL nw h0 fr0 Q rm T (mkF m pc L (.int z :: .int x :: S)) := by
  subst hp
  exact Goes.step (fun _ q => Jvm.Free.XT.ishl W.here W.hx rfl (hb W.hby hd) rfl q) K
theorem g_ishr (W : Wk p l e R s m args below meth c y bc mL rt Z a0 EL nw h0 T h fr ce sl) {pc pc' : Nat} {L : Array Slot} {S : List Value} {x z : Int32} (hd : decode bc pc = .ok (.ishr, 1)) (hp : pc + 1 = pc')  (K : Goes p e below s Z EL nw h0 fr0 Q rm T (mkF m pc' L (.int (x >>> (z &&& 31)) :: S))) : Goes p e below s Z EL nw h0 fr0 Q rm T (mkF m pc L (.int z :: .int x :: S)) := by
  subst hp
  exact Goes.step (fun _ q => Jvm.Free.XT.ishr W.here W.hx rfl (hb W.hby hd) rfl q) K
theorem g_iushr (W : Wk p l e R s m args below meth c y bc mL rt Z a0 EL nw h0 T h fr ce sl) {pc pc' : Nat} {L : Array Slot} {S : List Value} {x z : Int32} (hd : decode bc pc = .ok (.iushr, 1)) (hp : pc + 1 = pc')  (K : Goes p e below s Z EL nw h0 fr0 Q rm T (mkF m pc' L (.int ((x.toUInt32 >>> (z &&& 31).toUInt32).toInt32) :: S))) : Goes p e below s Z EL nw h0 fr0 Q rm T (mkF m pc L (.int z :: .int x :: S)) := by
  subst hp
  exact Goes.step (fun _ q => Jvm.Free.XT.iushr W.here W.hx rfl (hb W.hby hd) rfl q) K
theorem g_land (W : Wk p l e R s m args below meth c y bc mL rt Z a0 EL nw h0 T h fr ce sl) {pc pc' : Nat} {L : Array Slot} {S : List Value} {x z : Int64} (hd : decode bc pc = .ok (.land, 1)) (hp : pc + 1 = pc')  (K : Goes p e below s Z EL nw h0 fr0 Q rm T (mkF m pc' L (.long (x &&& z) :: S))) : Goes p e below s Z EL nw h0 fr0 Q rm T (mkF m pc L (.long z :: .long x :: S)) := by
  subst hp
  exact Goes.step (fun _ q => Jvm.Free.XT.land W.here W.hx rfl (hb W.hby hd) rfl q) K
theorem g_lxor (W : Wk p l e R s m args below meth c y bc mL rt Z a0 EL nw h0 T h fr ce sl) {pc pc' : Nat} {L : Array Slot} {S : List Value} {x z : Int64} (hd : decode bc pc = .ok (.lxor, 1)) (hp : pc + 1 = pc')  (K : Goes p e below s Z EL nw h0 fr0 Q rm T (mkF m pc' L (.long (x ^^^ z) :: S))) : Goes p e below s Z EL nw h0 fr0 Q rm T (mkF m pc L (.long z :: .long x :: S)) := by
  subst hp
  exact Goes.step (fun _ q => Jvm.Free.XT.lxor W.here W.hx rfl (hb W.hby hd) rfl q) K
theorem g_lushr (W : Wk p l e R s m args below meth c y bc mL rt Z a0 EL nw h0 T h fr ce sl) {pc pc' : Nat} {L : Array Slot} {S : List Value} {x : Int64} {z : Int32} (hd : decode bc pc = .ok (.lushr, 1)) (hp : pc + 1 = pc')  (K : Goes p e below s Z EL nw h0 fr0 Q rm T (mkF m pc' L (.long (Jvm.Free.XT.ushrL x z) :: S))) : Goes p e below s Z EL nw h0 fr0 Q rm T (mkF m pc L (.int z :: .long x :: S)) := by
  subst hp
  exact Goes.step (fun _ q => Jvm.Free.XT.lushr W.here W.hx rfl (hb W.hby hd) rfl q) K
theorem g_lshr (W : Wk p l e R s m args below meth c y bc mL rt Z a0 EL nw h0 T h fr ce sl) {pc pc' : Nat} {L : Array Slot} {S : List Value} {x : Int64} {z : Int32} (hd : decode bc pc = .ok (.lshr, 1)) (hp : pc + 1 = pc')  (K : Goes p e below s Z EL nw h0 fr0 Q rm T (mkF m pc' L (.long (x >>> (z.toInt64 &&& 63)) :: S))) : Goes p e below s Z EL nw h0 fr0 Q rm T (mkF m pc L (.int z :: .long x :: S)) := by
  subst hp
  exact Goes.step (fun _ q => Jvm.Free.XT.lshr W.here W.hx rfl (hb W.hby hd) rfl q) K
theorem g_l2i (W : Wk p l e R s m args below meth c y bc mL rt Z a0 EL nw h0 T h fr ce sl) {pc pc' : Nat} {L : Array Slot} {S : List Value} {x : Int64} (hd : decode bc pc = .ok (.l2i, 1)) (hp : pc + 1 = pc')  (K : Goes p e below s Z EL nw h0 fr0 Q rm T (mkF m pc' L (.int x.toInt32 :: S))) : Goes p e below s Z EL nw h0 fr0 Q rm T (mkF m pc L (.long x :: S)) := by
  subst hp
  exact Goes.step (fun _ q => Jvm.Free.XT.l2i W.here W.hx rfl (hb W.hby hd) rfl q) K
theorem g_i2l (W : Wk p l e R s m args below meth c y bc mL rt Z a0 EL nw h0 T h fr ce sl) {pc pc' : Nat} {L : Array Slot} {S : List Value} {x : Int32} (hd : decode bc pc = .ok (.i2l, 1)) (hp : pc + 1 = pc')  (K : Goes p e below s Z EL nw h0 fr0 Q rm T (mkF m pc' L (.long x.toInt64 :: S))) : Goes p e below s Z EL nw h0 fr0 Q rm T (mkF m pc L (.int x :: S)) := by
  subst hp
  exact Goes.step (fun _ q => Jvm.Free.XT.i2l W.here W.hx rfl (hb W.hby hd) rfl q) K
theorem g_i2b (W : Wk p l e R s m args below meth c y bc mL rt Z a0 EL nw h0 T h fr ce sl) {pc pc' : Nat} {L : Array Slot} {S : List Value} {x : Int32} (hd : decode bc pc = .ok (.i2b, 1)) (hp : pc + 1 = pc')  (K : Goes p e below s Z EL nw h0 fr0 Q rm T (mkF m pc' L (.int x.toInt8.toInt32 :: S))) : Goes p e below s Z EL nw h0 fr0 Q rm T (mkF m pc L (.int x :: S)) := by
  subst hp
  exact Goes.step (fun _ q => Jvm.Free.XT.i2b W.here W.hx rfl (hb W.hby hd) rfl q) K
theorem g_i2c (W : Wk p l e R s m args below meth c y bc mL rt Z a0 EL nw h0 T h fr ce sl) {pc pc' : Nat} {L : Array Slot} {S : List Value} {x : Int32} (hd : decode bc pc = .ok (.i2c, 1)) (hp : pc + 1 = pc')  (K : Goes p e below s Z EL nw h0 fr0 Q rm T (mkF m pc' L (.int x.toUInt32.toUInt16.toUInt32.toInt32 :: S))) : Goes p e below s Z EL nw h0 fr0 Q rm T (mkF m pc L (.int x :: S)) := by
  subst hp
  exact Goes.step (fun _ q => Jvm.Free.XT.i2c W.here W.hx rfl (hb W.hby hd) rfl q) K
theorem g_dup (W : Wk p l e R s m args below meth c y bc mL rt Z a0 EL nw h0 T h fr ce sl) {pc pc' : Nat} {L : Array Slot} {S : List Value} {v : Value} (hd : decode bc pc = .ok (.dup, 1)) (hp : pc + 1 = pc') (hc : v.category = 1) (K : Goes p e below s Z EL nw h0 fr0 Q rm T (mkF m pc' L (v :: v :: S))) : Goes p e below s Z EL nw h0 fr0 Q rm T (mkF m pc L (v :: S)) := by
  subst hp
  exact Goes.step (fun _ q => XS.dup W.here W.hx rfl (hb W.hby hd) rfl hc q) K
theorem g_dup_x1 (W : Wk p l e R s m args below meth c y bc mL rt Z a0 EL nw h0 T h fr ce sl) {pc pc' : Nat} {L : Array Slot} {S : List Value} {v w : Value} (hd : decode bc pc = .ok (.dup_x1, 1)) (hp : pc + 1 = pc') (hc : v.category = 1) (hc' : w.category = 1) (K : Goes p e below s Z EL nw h0 fr0 Q rm T (mkF m pc' L (v :: w :: v :: S))) : Goes p e below s Z EL nw h0 fr0 Q rm T (mkF m pc L (v :: w :: S)) := by
  subst hp
  exact Goes.step (fun _ q => Jvm.Free.XT.dupX1 W.here W.hx rfl (hb W.hby hd) rfl hc hc' q) K
theorem g_pop (W : Wk p l e R s m args below meth c y bc mL rt Z a0 EL nw h0 T h fr ce sl) {pc pc' : Nat} {L : Array Slot} {S : List Value} {v : Value} (hd : decode bc pc = .ok (.pop, 1)) (hp : pc + 1 = pc') (hc : v.category = 1) (K : Goes p e below s Z EL nw h0 fr0 Q rm T (mkF m pc' L S)) : Goes p e below s Z EL nw h0 fr0 Q rm T (mkF m pc L (v :: S)) := by
  subst hp
  exact Goes.step (fun _ q => Jvm.Free.XT.pop W.here W.hx rfl (hb W.hby hd) rfl hc q) K
theorem g_istore_n (W : Wk p l e R s m args below meth c y bc mL rt Z a0 EL nw h0 T h fr ce sl) {pc pc' : Nat} {L : Array Slot} {S : List Value} {k : Fin 4} {x : Int32} {L' : Array Slot} (hd : decode bc pc = .ok (.istore_n k, 1)) (hp : pc + 1 = pc') (hl : storeLocals L k.val (.int x) = some L') (K : Goes p e below s Z EL nw h0 fr0 Q rm T (mkF m pc' L' S)) : Goes p e below s Z EL nw h0 fr0 Q rm T (mkF m pc L (.int x :: S)) := by
  subst hp
  exact Goes.step (fun _ q => XS.istoreN W.here W.hx rfl (hb W.hby hd) rfl hl q) K
theorem g_istore (W : Wk p l e R s m args below meth c y bc mL rt Z a0 EL nw h0 T h fr ce sl) {pc pc' : Nat} {L : Array Slot} {S : List Value} {k : Nat} {x : Int32} {L' : Array Slot} (hd : decode bc pc = .ok (.istore k, 2)) (hp : pc + 2 = pc') (hl : storeLocals L k (.int x) = some L') (K : Goes p e below s Z EL nw h0 fr0 Q rm T (mkF m pc' L' S)) : Goes p e below s Z EL nw h0 fr0 Q rm T (mkF m pc L (.int x :: S)) := by
  subst hp
  exact Goes.step (fun _ q => XS.istore W.here W.hx rfl (hb W.hby hd) rfl hl q) K
theorem g_astore_n (W : Wk p l e R s m args below meth c y bc mL rt Z a0 EL nw h0 T h fr ce sl) {pc pc' : Nat} {L : Array Slot} {S : List Value} {k : Fin 4} {v : Value} {L' : Array Slot} (hd : decode bc pc = .ok (.astore_n k, 1)) (hp : pc + 1 = pc') (hv : v.isRef = true) (hl : storeLocals L k.val v = some L') (K : Goes p e below s Z EL nw h0 fr0 Q rm T (mkF m pc' L' S)) : Goes p e below s Z EL nw h0 fr0 Q rm T (mkF m pc L (v :: S)) := by
  subst hp
  exact Goes.step (fun _ q => XS.astoreN W.here W.hx rfl (hb W.hby hd) rfl hv hl q) K
theorem g_astore (W : Wk p l e R s m args below meth c y bc mL rt Z a0 EL nw h0 T h fr ce sl) {pc pc' : Nat} {L : Array Slot} {S : List Value} {k : Nat} {v : Value} {L' : Array Slot} (hd : decode bc pc = .ok (.astore k, 2)) (hp : pc + 2 = pc') (hv : v.isRef = true) (hl : storeLocals L k v = some L') (K : Goes p e below s Z EL nw h0 fr0 Q rm T (mkF m pc' L' S)) : Goes p e below s Z EL nw h0 fr0 Q rm T (mkF m pc L (v :: S)) := by
  subst hp
  exact Goes.step (fun _ q => XS.astore W.here W.hx rfl (hb W.hby hd) rfl hv hl q) K
theorem g_lstore_n (W : Wk p l e R s m args below meth c y bc mL rt Z a0 EL nw h0 T h fr ce sl) {pc pc' : Nat} {L : Array Slot} {S : List Value} {k : Fin 4} {x : Int64} {L' : Array Slot} (hd : decode bc pc = .ok (.lstore_n k, 1)) (hp : pc + 1 = pc') (hl : storeLocals L k.val (.long x) = some L') (K : Goes p e below s Z EL nw h0 fr0 Q rm T (mkF m pc' L' S)) : Goes p e below s Z EL nw h0 fr0 Q rm T (mkF m pc L (.long x :: S)) := by
  subst hp
  exact Goes.step (fun _ q => Jvm.Free.XT.lstoreN W.here W.hx rfl (hb W.hby hd) rfl hl q) K
theorem g_lstore (W : Wk p l e R s m args below meth c y bc mL rt Z a0 EL nw h0 T h fr ce sl) {pc pc' : Nat} {L : Array Slot} {S : List Value} {k : Nat} {x : Int64} {L' : Array Slot} (hd : decode bc pc = .ok (.lstore k, 2)) (hp : pc + 2 = pc') (hl : storeLocals L k (.long x) = some L') (K : Goes p e below s Z EL nw h0 fr0 Q rm T (mkF m pc' L' S)) : Goes p e below s Z EL nw h0 fr0 Q rm T (mkF m pc L (.long x :: S)) := by
  subst hp
  exact Goes.step (fun _ q => Jvm.Free.XT.lstore W.here W.hx rfl (hb W.hby hd) rfl hl q) K
theorem g_iinc (W : Wk p l e R s m args below meth c y bc mL rt Z a0 EL nw h0 T h fr ce sl) {pc pc' : Nat} {L : Array Slot} {S : List Value} {k : Nat} {cst : Int} {x v : Int32} {L' : Array Slot} (hd : decode bc pc = .ok (.iinc k cst, 3)) (hp : pc + 3 = pc') (hv : Int32.ofInt cst = v) (hl : L[k]? = some (.val (.int x))) (hl' : storeLocals L k (.int (x + v)) = some L') (K : Goes p e below s Z EL nw h0 fr0 Q rm T (mkF m pc' L' S)) : Goes p e below s Z EL nw h0 fr0 Q rm T (mkF m pc L S) := by
  subst hp
  exact Goes.step (fun _ q => Jvm.Free.XT.iincV W.here W.hx rfl v (hb W.hby hd) hv hl hl' q) K
theorem g_goto (W : Wk p l e R s m args below meth c y bc mL rt Z a0 EL nw h0 T h fr ce sl) {pc pc' : Nat} {o : Int} {L : Array Slot} {S : List Value} (hd : decode bc pc = .ok (.goto o, 3)) (ho : 0 ≤ (pc : Int) + o) (hp : ((pc : Int) + o).toNat = pc') (K : Goes p e below s Z EL nw h0 fr0 Q rm T (mkF m pc' L S)) : Goes p e below s Z EL nw h0 fr0 Q rm T (mkF m pc L S) :=
  Goes.step (fun _ q => XS.goto W.here W.hx rfl rfl (hb W.hby hd) ho hp q) K
theorem g_ifY (W : Wk p l e R s m args below meth c y bc mL rt Z a0 EL nw h0 T h fr ce sl) {pc pc' : Nat} {o : Int} {L : Array Slot} {S : List Value} {cd : ClassFile.Cond} {x : Int32} (hd : decode bc pc = .ok (.ifCond cd o, 3)) (ho : 0 ≤ (pc : Int) + o) (hp : ((pc : Int) + o).toNat = pc') (hc : ifCond.holds cd x = true) (K : Goes p e below s Z EL nw h0 fr0 Q rm T (mkF m pc' L S)) : Goes p e below s Z EL nw h0 fr0 Q rm T (mkF m pc L (.int x :: S)) :=
  Goes.step (fun _ q => XS.ifYes W.here W.hx rfl rfl (hb W.hby hd) rfl hc ho hp q) K
theorem g_icmpY (W : Wk p l e R s m args below meth c y bc mL rt Z a0 EL nw h0 T h fr ce sl) {pc pc' : Nat} {o : Int} {L : Array Slot} {S : List Value} {cd : ClassFile.Cond} {x z : Int32} (hd : decode bc pc = .ok (.if_icmp cd o, 3)) (ho : 0 ≤ (pc : Int) + o) (hp : ((pc : Int) + o).toNat = pc') (hc : if_icmp.holds cd x z = true) (K : Goes p e below s Z EL nw h0 fr0 Q rm T (mkF m pc' L S)) : Goes p e below s Z EL nw h0 fr0 Q rm T (mkF m pc L (.int z :: .int x :: S)) :=
  Goes.step (fun _ q => XS.icmpYes W.here W.hx rfl rfl (hb W.hby hd) rfl hc ho hp q) K
theorem g_nullY (W : Wk p l e R s m args below meth c y bc mL rt Z a0 EL nw h0 T h fr ce sl) {pc pc' : Nat} {o : Int} {L : Array Slot} {S : List Value} {v : Value} (hd : decode bc pc = .ok (.ifnull o, 3)) (ho : 0 ≤ (pc : Int) + o) (hp : ((pc : Int) + o).toNat = pc') (hv : v = .null) (K : Goes p e below s Z EL nw h0 fr0 Q rm T (mkF m pc' L S)) : Goes p e below s Z EL nw h0 fr0 Q rm T (mkF m pc L (v :: S)) :=
  Goes.step (fun _ q => Jvm.Free.XT.nullYes W.here W.hx rfl rfl (hb W.hby hd) rfl hv ho hp q) K
theorem g_nonnullY (W : Wk p l e R s m args below meth c y bc mL rt Z a0 EL nw h0 T h fr ce sl) {pc pc' : Nat} {o : Int} {L : Array Slot} {S : List Value} {v : Value} (hd : decode bc pc = .ok (.ifnonnull o, 3)) (ho : 0 ≤ (pc : Int) + o) (hp : ((pc : Int) + o).toNat = pc') (hr : v.isRef = true) (hv : ¬ v = .null) (K : Goes p e below s Z EL nw h0 fr0 Q rm T (mkF m pc' L S)) : Goes p e below s Z EL nw h0 fr0 Q rm T (mkF m pc L (v :: S)) :=
  Goes.step (fun _ q => Jvm.Free.XT.nonnullYes W.here W.hx rfl rfl (hb W.hby hd) rfl hr hv ho hp q) K
theorem g_acmpY (W : Wk p l e R s m args below meth c y bc mL rt Z a0 EL nw h0 T h fr ce sl) {pc pc' : Nat} {o : Int} {L : Array Slot} {S : List Value} {cd : ACond} {v w : Value} (hd : decode bc pc = .ok (.if_acmp cd o, 3)) (ho : 0 ≤ (pc : Int) + o) (hp : ((pc : Int) + o).toNat = pc') (h1 : v.isRef = true) (h2 : w.isRef = true) (hc : Jvm.Free.XT.acmp cd v w = true) (K : Goes p e below s Z EL nw h0 fr0 Q rm T (mkF m pc' L S)) : Goes p e below s Z EL nw h0 fr0 Q rm T (mkF m pc L (w :: v :: S)) :=
  Goes.step (fun _ q => Jvm.Free.XT.acmpYes W.here W.hx rfl rfl (hb W.hby hd) rfl h1 h2 hc ho hp q) K
theorem g_ifN (W : Wk p l e R s m args below meth c y bc mL rt Z a0 EL nw h0 T h fr ce sl) {pc pc' : Nat} {L : Array Slot} {S : List Value} {cd : ClassFile.Cond} {o : Int} {x : Int32} (hd : decode bc pc = .ok (.ifCond cd o, 3)) (hp : pc + 3 = pc') (hc : ifCond.holds cd x = false) (K : Goes p e below s Z EL nw h0 fr0 Q rm T (mkF m pc' L S)) : Goes p e below s Z EL nw h0 fr0 Q rm T (mkF m pc L (.int x :: S)) := by
  subst hp
  exact Goes.step (fun _ q => XS.ifNo W.here W.hx rfl (hb W.hby hd) rfl hc q) K
theorem g_icmpN (W : Wk p l e R s m args below meth c y bc mL rt Z a0 EL nw h0 T h fr ce sl) {pc pc' : Nat} {L : Array Slot} {S : List Value} {cd : ClassFile.Cond} {o : Int} {x z : Int32} (hd : decode bc pc = .ok (.if_icmp cd o, 3)) (hp : pc + 3 = pc') (hc : if_icmp.holds cd x z = false) (K : Goes p e below s Z EL nw h0 fr0 Q rm T (mkF m pc' L S)) : Goes p e below s Z EL nw h0 fr0 Q rm T (mkF m pc L (.int z :: .int x :: S)) := by
  subst hp
  exact Goes.step (fun _ q => XS.icmpNo W.here W.hx rfl (hb W.hby hd) rfl hc q) K
theorem g_nullN (W : Wk p l e R s m args below meth c y bc mL rt Z a0 EL nw h0 T h fr ce sl) {pc pc' : Nat} {L : Array Slot} {S : List Value} {o : Int} {v : Value} (hd : decode bc pc = .ok (.ifnull o, 3)) (hp : pc + 3 = pc') (hr : v.isRef = true) (hv : ¬ v = .null) (K : Goes p e below s Z EL nw h0 fr0 Q rm T (mkF m pc' L S)) : Goes p e below s Z EL nw h0 fr0 Q rm T (mkF m pc L (v :: S)) := by
  subst hp
  exact Goes.step (fun _ q => Jvm.Free.XT.nullNo W.here W.hx rfl (hb W.hby hd) rfl hr hv q) K
theorem g_nonnullN (W : Wk p l e R s m args below meth c y bc mL rt Z a0 EL nw h0 T h fr ce sl) {pc pc' : Nat} {L : Array Slot} {S : List Value} {o : Int} {v : Value} (hd : decode bc pc = .ok (.ifnonnull o, 3)) (hp : pc + 3 = pc') (hv : v = .null) (K : Goes p e below s Z EL nw h0 fr0 Q rm T (mkF m pc' L S)) : Goes p e below s Z EL nw h0 fr0 Q rm T (mkF m pc L (v :: S)) := by
  subst hp
  exact Goes.step (fun _ q => Jvm.Free.XT.nonnullNo W.here W.hx rfl (hb W.hby hd) rfl hv q) K
theorem g_acmpN (W : Wk p l e R s m args below meth c y bc mL rt Z a0 EL nw h0 T h fr ce sl) {pc pc' : Nat} {L : Array Slot} {S : List Value} {cd : ACond} {o : Int} {v w : Value} (hd : decode bc pc = .ok (.if_acmp cd o, 3)) (hp : pc + 3 = pc') (h1 : v.isRef = true) (h2 : w.isRef = true) (hc : Jvm.Free.XT.acmp cd v w = false) (K : Goes p e below s Z EL nw h0 fr0 Q rm T (mkF m pc' L S)) : Goes p e below s Z EL nw h0 fr0 Q rm T (mkF m pc L (w :: v :: S)) := by
  subst hp
  exact Goes.step (fun _ q => Jvm.Free.XT.acmpNo W.here W.hx rfl (hb W.hby hd) rfl h1 h2 hc q) K
end K3
section K4
variable {l : Launch} {Z : State} {a0 : Array Value} {EL : List (String × Nat)} {nw : Bool} {h h' h1 h2 : Heap} {a b : Addr} {C : String} {v old : Value} {ws : List Addr}
theorem cat_ref (a : Addr) : (Value.ref a).category = 1 := rfl
theorem cat_int (x : Int32) : (Value.int x).category = 1 := rfl
theorem cat_null : Value.null.category = 1 := rfl
theorem cat_long (x : Int64) : (Value.long x).category = 2 := rfl
/-- a field's key: owner, name, descriptor -/
abbrev FK := String × String × String
def FldL (Z : State) (h : Heap) (a : Addr) (fs : List (FK × Value)) : Prop := ∀ (i : Nat) (k : FK) (v : Value), fs[i]? = some (k, v) → Fld Z h a k.1 k.2.1 k.2.2 v
theorem FldL.nil : FldL Z h a [] := fun i k v q => by simp at q
theorem FldL.cons {O n d : String} {r : List (FK × Value)} (F : Fld Z h a O n d v) (R : FldL Z h a r) : FldL Z h a (((O, n, d), v) :: r) := fun i k w q => by
  cases i with
  | zero => simp only [List.getElem?_cons_zero, Option.some.injEq, Prod.mk.injEq] at q; obtain ⟨rfl, rfl⟩ := q; exact F
  | succ i => simp only [List.getElem?_cons_succ] at q; exact R i k w q
/-- an object: its exact class, and what its fields hold -/
def Obj (Z : State) (h : Heap) (a : Addr) (C : String) (fs : List (FK × Value)) : Prop := Exa Z h a C ∧ FldL Z h a fs
theorem Obj.get {fs : List (FK × Value)} (F : Obj Z h a C fs) (i : Nat) {O n d : String} (q : fs[i]? = some ((O, n, d), v)) : Fld Z h a O n d v := F.2 i _ _ q
theorem Obj.keep {fs : List (FK × Value)} (F : Obj Z h a C fs) (K : Keep h h' ws) (q : a ∉ ws) : Obj Z h' a C fs := ⟨F.1.keep K, fun i k v z => (F.2 i k v z).keep K q⟩
theorem Obj.mv {fs : List (FK × Value)} (F : Obj Z h a C fs) (K : Keep h h' []) : Obj Z h' a C fs := F.keep K nin0
theorem Obj.ext {fs : List (FK × Value)} (F : Obj Z h a C fs) (E : Ext h h') : Obj Z h' a C fs := ⟨F.1.ext E, fun i k v z => (F.2 i k v z).ext E⟩
theorem Obj.lt {fs : List (FK × Value)} (F : Obj Z h a C fs) : a < h.size := F.1.lt
def Dis (Z : State) (ks : List FK) : Prop := ∀ (i j : Nat) (k k' : FK), i ≠ j → ks[i]? = some k → ks[j]? = some k' → RoadKit.slotOf Z k.1 k.2.1 k.2.2 ≠ RoadKit.slotOf Z k'.1 k'.2.1 k'.2.2
def LaidL (Z : State) (a0 : Array Value) (C : String) (ks : List FK) : Prop := ∀ k ∈ ks, Laid Z a0 C k.1 k.2.1 k.2.2 ∧ ∃ t, parseFieldDescriptor k.2.2 = some t
theorem LaidL.nil : LaidL Z a0 C [] := fun _ q => nomatch q
theorem LaidL.cons {O n d : String} {ks : List FK} (L : Laid Z a0 C O n d) (t : FieldType) (ht : parseFieldDescriptor d = some t) (R : LaidL Z a0 C ks) : LaidL Z a0 C ((O, n, d) :: ks) := fun k q => by
  rcases List.mem_cons.mp q with rfl | q
  · exact ⟨L, t, ht⟩
  · exact R k q
theorem Dis.of {ks : List FK} (L : LaidL Z a0 C ks) (nd : (ks.map fun k => k.2.1).Nodup) : Dis Z ks := fun i j k k' hij hi hj => by
  obtain ⟨l1, t1, p1⟩ := L k (List.mem_of_getElem? hi)
  obtain ⟨l2, t2, p2⟩ := L k' (List.mem_of_getElem? hj)
  refine slot_ne l1 l2 (fun q => hij ?_) p1 p2
  refine (List.getElem?_inj (l := ks.map fun k => k.2.1) ?_ nd).mp ?_
  · rw [List.length_map]; exact (List.getElem?_eq_some_iff.mp hi).1
  · simp [List.getElem?_map, hi, hj, q]
theorem Obj.put {fs : List (FK × Value)} {O n d : String} (F : Obj Z h a C fs) (W : Wr h h' a (RoadKit.slotOf Z O n d) v) (i : Nat) (q : fs[i]? = some ((O, n, d), old)) (D : Dis Z (fs.map Prod.fst)) : Obj Z h' a C (fs.set i ((O, n, d), v)) := by
  refine ⟨F.1.wr W, fun j k w z => ?_⟩
  by_cases e : i = j
  · subst e
    have hlt := (List.getElem?_eq_some_iff.mp q).1
    rw [List.getElem?_set_self hlt] at z
    cases z
    exact (F.2 i _ _ q).same W
  · rw [List.getElem?_set_ne e] at z
    refine (F.2 j k w z).other W (Or.inr (D j i k (O, n, d) (Ne.symm e) ?_ ?_))
    · simp [List.getElem?_map, z]
    · simp [List.getElem?_map, q]
theorem fits_ref0 {t : FieldType} (ht : t.isReference = true) (hv : v.isRef = true) : fits t v = true := by
  rcases ref_cases hv with rfl | ⟨x, rfl⟩ <;> cases t <;> first | rfl | cases ht
theorem narrow_ref0 {t : FieldType} (ht : t.isReference = true) : narrow t v = v := by cases t <;> first | rfl | cases ht
theorem Keep.newInit (E : Ext h h1) (K : Keep h1 h2 [a]) (g : a = h.size) : Keep h h2 [] := ((Keep.refl h []).ext E).trans K fun x q => by cases List.mem_singleton.mp q; exact Or.inr (Nat.le_of_eq g.symm)
theorem Keep.of_ext (E : Ext h h') : Keep h h' [] := (Keep.refl h []).ext E
theorem Keep.next (K : Keep h h1 []) (K' : Keep h1 h2 []) : Keep h h2 [] := K.trans K' fun _ q => nomatch q
theorem Keep.ofEq (e : h' = h) : Keep h h' ws := e ▸ Keep.refl _ _
/-- a getter of a reference or a number -/
theorem met_getter {y : MethodName} {bc : ByteArray} {t : FieldType} {rm : Room} {lc : List Jvm.Cond} {O n d : String} {ix : Nat} (hn : plainFor y = true) (hEL : EW Z a0 EL) (hX : Ext Z.heap h) (d0 : decode bc 0 = .ok (.aload_n 0, 1)) (d1 : decode bc 1 = .ok (.getfield ix, 3)) (w : (Jvm.Cond.fieldLink y.cls ix O n d).before a0 Z = true) (F : Fld Z h a O n d v)
    (hv : (decode bc 4 = .ok (.areturn, 1) ∧ t.isReference = true ∧ v.isRef = true) ∨ (decode bc 4 = .ok (.ireturn, 1) ∧ (t = .int ∨ t = .boolean ∨ t = .byte ∨ t = .char ∨ t = .short) ∧ narrow t v = v ∧ ∃ z, v = .int z)) :
    Met l Z EL nw y bc 1 (some t) lc rm #[.ref a] h [] (fun r h' => h = h' ∧ r = some v) := by
  refine Met.intro hn hEL hX (fun _ q => nomatch q) ?_
  intro p e s m below meth c T W
  refine Goes.cast (show entryFrame m #[.ref a] 1 = mkF m 0 #[.val (.ref a)] [] by simp [entryFrame, mkF, argsToLocals, Value.category]) ?_
  refine g_aload_n W d0 (pc' := 1) rfl rfl rfl ?_
  refine g_getfield W d1 (pc' := 4) (host := "") rfl (Or.inl w) Via.refl F fun T1 W1 => ?_
  rcases hv with ⟨d4, ht, hr⟩ | ⟨d4, ht, hr, z, rfl⟩
  · exact g_areturn W1 d4 ht hr (narrow_ref0 ht) (Keep.refl _ _) ⟨rfl, rfl⟩ (Nat.zero_le _) (Nat.zero_le _)
  · exact g_ireturn W1 d4 ht hr (Keep.refl _ _) ⟨rfl, rfl⟩ (Nat.zero_le _) (Nat.zero_le _)
end K4
section K5
variable {p : Program} {l : Launch} {e : Env} {R : Room} {s : State} {args : Array Value} {below : List Frame} {Z : State} {a0 : Array Value} {EL : List (String × Nat)} {nw : Bool} {h h' : Heap} {Wd len : Nat} {x b : Addr} {cs ds : List Int32}
/-- a String at x spells cs -/
def Str (Z : State) (h : Heap) (x : Addr) (cs : List Int32) : Prop := ∃ (t : Addr) (kb : ClassId) (cd N2 : Int32) (vs : List Value), Exa Z h x "java/lang/String" ∧ Fld Z h x "java/lang/String" "value" "[B" (.ref t) ∧ Fld Z h x "java/lang/String" "coder" "B" (.int cd) ∧ Arv Z h t kb .byte N2 vs (.int 0) ∧ StrChars.Road.CodA cs cd N2 vs ∧ (∀ c ∈ cs, ¬ c < 0 ∧ ¬ (65535 : Int32) < c) ∧ cs.length ≤ 4000
theorem Str.mv (F : Str Z h x cs) (K : Keep h h' []) : Str Z h' x cs := by
  obtain ⟨t, kb, cd, N2, vs, q1, q2, q3, q4, q5⟩ := F
  exact ⟨t, kb, cd, N2, vs, q1.keep K, q2.keep K nin0, q3.keep K nin0, q4.keep K nin0, q5⟩
theorem Str.exa (F : Str Z h x cs) : Exa Z h x "java/lang/String" := by obtain ⟨t, kb, cd, N2, vs, q1, -⟩ := F; exact q1
theorem Str.lt (F : Str Z h x cs) : x < h.size := F.exa.lt
theorem up16 (hp : ∀ c ∈ cs, ¬ c < 0 ∧ ¬ (255 : Int32) < c) : ∀ c ∈ cs, ¬ c < 0 ∧ ¬ (65535 : Int32) < c := fun c q => ⟨(hp c q).1, fun z => (hp c q).2 (by rw [Int32.lt_iff_toInt_lt] at z ⊢; have e1 : (65535 : Int32).toInt = 65535 := (by decide); have e2 : (255 : Int32).toInt = 255 := (by decide); omega)⟩
theorem nar_mask (x : Int32) : RoadKit.nar .char ((x &&& 255).toUInt32.toUInt16.toUInt32.toInt32) = x &&& 255 := by
  show ((x &&& 255).toUInt32.toUInt16.toUInt32.toInt32).toUInt32.toUInt16.toUInt32.toInt32 = x &&& 255
  rw [i2c_mask, i2c_mask]
theorem nar_mask1 (x : Int32) : RoadKit.nar .char (x &&& 255) = x &&& 255 := i2c_mask x
theorem low255 (x : Int32) : ¬ (x &&& 255) < 0 ∧ ¬ (255 : Int32) < (x &&& 255) := by
  have q := c_and x 255 (by decide)
  have e : (255 : Int32).toInt = 255 := (by decide)
  have e0 : (0 : Int32).toInt = 0 := (by decide)
  constructor <;> (rw [Int32.lt_iff_toInt_lt]; omega)
theorem lowN : ∀ c ∈ ([] : List Int32), ¬ c < 0 ∧ ¬ (255 : Int32) < c := fun _ q => nomatch q
theorem lowC (x : Int32) {cs : List Int32} (h : ∀ c ∈ cs, ¬ c < 0 ∧ ¬ (255 : Int32) < c) : ∀ c ∈ (x &&& 255) :: cs, ¬ c < 0 ∧ ¬ (255 : Int32) < c := fun c q => by
  rcases List.mem_cons.mp q with rfl | q
  · exact low255 x
  · exact h c q
theorem lowK {x : Int32} (hx : ¬ x < 0 ∧ ¬ (255 : Int32) < x) {cs : List Int32} (h : ∀ c ∈ cs, ¬ c < 0 ∧ ¬ (255 : Int32) < c) : ∀ c ∈ x :: cs, ¬ c < 0 ∧ ¬ (255 : Int32) < c := fun c q => by
  rcases List.mem_cons.mp q with rfl | q
  · exact hx
  · exact h c q
/-- new String(char[]) of 1 to 4000 chars below 256 -/
theorem pays_newStr {v0 c0 d : Value} {kC : ClassId} {N z : Int32} {n : Nat} (hEL : EW Z a0 EL) (hws : ∀ d ∈ StrChars.Road.words, d.before a0 Z = true) (wi : (Jvm.Cond.instantiable "java/lang/String" 4).before a0 Z = true) (O : Obj Z h x "java/lang/String" [(("java/lang/String", "value", "[B"), v0), (("java/lang/String", "coder", "B"), c0)]) (K : Arv Z h b kC .char N (cs.map Value.int) d) (Sc : Sta Z Z.heap "java/lang/String" "COMPACT_STRINGS" "Z" (.int z)) (hz : ¬ z = 0) (hX : Ext Z.heap h) (hx0 : Z.heap.size ≤ x)
    (hn : cs.length = n) (hN : N = Int32.ofNat n) (l0 : 0 < n) (l2 : n ≤ 4000) (hp : ∀ c ∈ cs, ¬ c < 0 ∧ ¬ (255 : Int32) < c) (hfr : 4 ≤ R.frames) (hlo : Wd + 65 ≤ R.locals) :
    Pays l R p e below s args Z EL nw (⟨"java/lang/String", "<init>", "([C)V"⟩ : MethodName) len Wd #[.ref x, .ref b] h [x] (fun v h' => v = none ∧ Str Z h' x cs) 1 n :=
  pays_back hEL (fun vm hZ => StrChars.Road.backV (W := Wd) (s := s.setVm vm) hZ hws wi hx0 hX.1 O.1 (O.get 0 rfl) (O.get 1 rfl) K (Sc.ext hX) hz hn hN l0 l2 hp rfl hfr hlo) fun v h' L q => by
    obtain ⟨rfl, q1, q2, q3, q4, t, kb, -, -, -, q5, q6⟩ := q
    refine ⟨q2, ⟨rfl, t, kb, 0, N, _, q3, q5, q4, q6, ?_, up16 hp, by rw [hn]; exact l2⟩, q1⟩
    rw [hN]
    exact StrChars.Road.codOf hn fun c q => (hp c q).2
end K5
section K6
theorem of_toInt {x : Int32} {k : Int} {c : Int32} (h : x.toInt = k) (e : c.toInt = k) : x = c := Int32.toInt_inj.mp (h.trans e.symm)
theorem and3 (x : Int32) : x &&& 3 = 0 ∨ x &&& 3 = 1 ∨ x &&& 3 = 2 ∨ x &&& 3 = 3 := by
  have q := c_and x 3 (by decide)
  have e : (3 : Int32).toInt = 3 := (by decide)
  rcases (by omega : (x &&& 3).toInt = 0 ∨ (x &&& 3).toInt = 1 ∨ (x &&& 3).toInt = 2 ∨ (x &&& 3).toInt = 3) with h | h | h | h
  · exact Or.inl (of_toInt h (by decide))
  · exact Or.inr (Or.inl (of_toInt h (by decide)))
  · exact Or.inr (Or.inr (Or.inl (of_toInt h (by decide))))
  · exact Or.inr (Or.inr (Or.inr (of_toInt h (by decide))))
end K6
theorem mod3 (x : Int32) : (x &&& 2147483647) % 3 = 0 ∨ (x &&& 2147483647) % 3 = 1 ∨ (x &&& 2147483647) % 3 = 2 := by
  have q := c_and x 2147483647 (by decide)
  have r := (c_iremV (x &&& 2147483647) 3).1 q.1 (by decide)
  have e : (3 : Int32).toInt = 3 := (by decide)
  rcases (by omega : ((x &&& 2147483647) % 3).toInt = 0 ∨ ((x &&& 2147483647) % 3).toInt = 1 ∨ ((x &&& 2147483647) % 3).toInt = 2) with h | h | h
  · exact Or.inl (of_toInt h (by decide))
  · exact Or.inr (Or.inl (of_toInt h (by decide)))
  · exact Or.inr (Or.inr (of_toInt h (by decide)))
section K7
variable {p : Program} {l : Launch} {e : Env} {R : Room} {s : State} {m : MethodId} {args : Array Value} {below : List Frame} {meth : Method} {c : Code} {y z : MethodName} {bc bc' : ByteArray} {mL mL' : Nat} {rt rt' : Option FieldType} {Z : State} {a0 : Array Value} {EL : List (String × Nat)} {nw : Bool} {h0 h h' : Heap} {T T' U : State} {fr fr' fr0 : List Addr} {ce sl kc ks len Wd : Nat} {rm rm' : Room} {Q Q' : Option Value → Heap → Prop} {as : Array Value}
theorem g_private (W : Wk p l e R s m args below meth c y bc mL rt Z a0 EL nw h0 T h fr ce sl) {index pc pc' : Nat} {L : Array Slot} {S argsL rest : List Value} {a : Addr} {C : String} (hd : decode bc pc = .ok (.invokevirtual index, 3)) (hp : pc + 3 = pc')
    (wl : (Jvm.Cond.methodLink y.cls index z).before a0 Z = true) (wi : (Jvm.Cond.instanceMethod z).before a0 Z = true) (ws : (Jvm.Cond.selects z.cls z z).before a0 Z = true) (wp : (Jvm.Cond.privateMethod z).before a0 Z = true) (wc : (Jvm.Cond.code z bc' mL' rt').before a0 Z = true) (hy : z.cls ≠ "java/lang/invoke/MethodHandle" ∧ z.cls ≠ "java/lang/invoke/VarHandle") (E : Exa Z h a C)
    (hL : L.size = mL) (hSt : S = argsL.reverse ++ .ref a :: rest) (hlen : ∀ sig, parseMethodDescriptor z.desc = some sig → argsL.length = sig.parameters.length) (hW : (rest.map fun v => v.category).sum = Wd) (hm : ∀ x ∈ fr', x ∈ fr) (hc : ce + kc ≤ R.cells) (hs : sl + ks ≤ R.slots)
    (P : Pays l R p e below s args Z EL nw z 3 Wd (.ref a :: argsL).toArray h fr' Q' kc ks)
    (K : ∀ v T' h', Wk p l e R s m args below meth c y bc mL rt Z a0 EL nw h0 T' h' fr (ce + kc) (sl + ks) → Keep h h' fr' → Q' v h' → Goes p e below s Z EL nw h0 fr0 Q rm T' (mkF m pc' L (v.toList ++ rest))) : Goes p e below s Z EL nw h0 fr0 Q rm T (mkF m pc L S) := by
  have hx := W.hx
  have hby := W.hby
  have hml := W.hml
  obtain ⟨vm, k, locs, X, eT, q2, q3, q4, q5⟩ := W
  subst hp
  obtain ⟨cl, hcl, hob⟩ := E.cell
  obtain ⟨v, vm1, ⟨U, Lc, kc', ks'⟩, hv1, X', hS', hg, ⟨L', ⟨k1, k2, k3⟩, e1, e2, e3, hC, hN⟩, st⟩ := X.privateBackS hx (own := y.cls) q2.2.2.2.1 (mvT q2.2.2.1 wl) (mvT q2.2.2.1 wi) (mvT q2.2.2.1 ws) (Cond.privateMethod_at (mvP (s := s.setVm vm) (args := args) q2.2.2.1 wp)) (mvT q2.2.2.1 wc) hy (P vm q2.2.2.1 q3.2.1 fun x hx => (q4.2.2 x (hm x hx)).2.2) (g := mkF m pc L S) rfl (by rw [hml]; exact hL) (Steps.refl _) (a := a) (by rw [eT]; exact hcl) hob (argsL := argsL) (rest := rest) hlen hSt (by show 2 * 0 + _ ≤ _; rw [hW]; exact Nat.le_of_eq (Nat.zero_add _)) (hb hby hd) (fun _ _ => ⟨rfl, eT, hc, hs⟩)
  dsimp only [Pt.U, Pt.locs, Pt.cells, Pt.slots] at X' hS' hg k1 k2 e1 e2 e3 hC hN st
  subst e1 e2 e3
  exact Goes.step (fun t q => st.trans q) (K v U U.heap (Wk.back eT q2 q3 q4 q5 hm X' hS' hg k1 k3 hC hN) k1 k2)
theorem g_interface (W : Wk p l e R s m args below meth c y bc mL rt Z a0 EL nw h0 T h fr ce sl) {xi : MethodName} {C : String} {index count pc pc' : Nat} {L : Array Slot} {S argsL rest : List Value} {a : Addr} (hd : decode bc pc = .ok (.invokeinterface index count, 5)) (hp : pc + 5 = pc')
    (wl : (Jvm.Cond.methodLink y.cls index xi).before a0 Z = true) (wd : (Jvm.Cond.declares xi).before a0 Z = true) (wf : (Jvm.Cond.interfaceMethod xi.cls xi.cls xi.name xi.desc).before a0 Z = true) (ws : (Jvm.Cond.selects C xi z).before a0 Z = true) (wi : (Jvm.Cond.instanceMethod z).before a0 Z = true) (wp : (Jvm.Cond.publicMethod z).before a0 Z = true) (wu : (Jvm.Cond.unhidden C xi.name xi.desc).before a0 Z = true) (wc : (Jvm.Cond.castable C xi.cls).before a0 Z = true) (kf : ((Jvm.Cond.interfaceMethod xi.cls xi.cls xi.name xi.desc).onTables && (Jvm.Cond.interfaceMethod xi.cls xi.cls xi.name xi.desc).keepsFace) = true) (hy : xi.cls ≠ "java/lang/invoke/MethodHandle" ∧ xi.cls ≠ "java/lang/invoke/VarHandle") (E : Exa Z h a C)
    (hL : L.size = mL) (hSt : S = argsL.reverse ++ .ref a :: rest) (hlen : ∀ sig, parseMethodDescriptor xi.desc = some sig → argsL.length = sig.parameters.length) (hW : (rest.map fun v => v.category).sum = Wd) (hm : ∀ x ∈ fr', x ∈ fr) (hc : ce + kc ≤ R.cells) (hs : sl + ks ≤ R.slots)
    (P : Pays l R p e below s args Z EL nw z 5 Wd (.ref a :: argsL).toArray h fr' Q' kc ks)
    (K : ∀ v T' h', Wk p l e R s m args below meth c y bc mL rt Z a0 EL nw h0 T' h' fr (ce + kc) (sl + ks) → Keep h h' fr' → Q' v h' → Goes p e below s Z EL nw h0 fr0 Q rm T' (mkF m pc' L (v.toList ++ rest))) : Goes p e below s Z EL nw h0 fr0 Q rm T (mkF m pc L S) := by
  have hx := W.hx
  have hby := W.hby
  have hml := W.hml
  obtain ⟨vm, k, locs, X, eT, q2, q3, q4, q5⟩ := W
  subst hp
  obtain ⟨cB, kB, r1, r2, r3⟩ := isOf (s := s.setVm vm) q2.2.2.1 eT E
  obtain ⟨v, vm1, ⟨U, Lc, kc', ks'⟩, hv1, X', hS', hg, ⟨L', ⟨k1, k2, k3⟩, e1, e2, e3, hC, hN⟩, st⟩ := X.interfaceBackS hx (own := y.cls) q2.2.2.2.1 (mvT q2.2.2.1 wl) (mvT q2.2.2.1 wd) (mvT q2.2.2.1 wf kf) (mvT q2.2.2.1 ws) (mvT q2.2.2.1 wi) (mvT q2.2.2.1 wp) (mvT q2.2.2.1 wu) (mvT q2.2.2.1 wc) hy (P vm q2.2.2.1 q3.2.1 fun x hx => (q4.2.2 x (hm x hx)).2.2) r1 r2 r3 (g := mkF m pc L S) rfl (by rw [hml]; exact hL) (Steps.refl _) (argsL := argsL) (rest := rest) hlen hSt (by show 2 * 0 + _ ≤ _; rw [hW]; exact Nat.le_of_eq (Nat.zero_add _)) (hb hby hd) (fun _ _ => ⟨rfl, eT, hc, hs⟩)
  dsimp only [Pt.U, Pt.locs, Pt.cells, Pt.slots] at X' hS' hg k1 k2 e1 e2 e3 hC hN st
  subst e1 e2 e3
  exact Goes.step (fun t q => st.trans q) (K v U U.heap (Wk.back eT q2 q3 q4 q5 hm X' hS' hg k1 k3 hC hN) k1 k2)
theorem g_anewarray (W : Wk p l e R s m args below meth c y bc mL rt Z a0 EL nw h0 T h fr ce sl) {C ad : String} {index pc pc' cap : Nat} {L : Array Slot} {S : List Value} {n : Int32} (hd : decode bc pc = .ok (.anewarray index, 3)) (hp : pc + 3 = pc') (w1 : (Jvm.Cond.classLink y.cls index C).before a0 Z = true) (w2 : (Jvm.Cond.arrayOver (.object C)).before a0 Z = true) (hn : ¬ n < 0) (hcap : n.toNatClampNeg ≤ cap) (hbig : cap * 8 ≤ 536870912) (had : "[" ++ (FieldType.object C).toString = ad) (hc : ce + 1 ≤ R.cells) (hs : sl + cap ≤ R.slots)
    (K : ∀ T' h' a kA, a = h.size → Wk p l e R s m args below meth c y bc mL rt Z a0 EL nw h0 T' h' (a :: fr) (ce + 1) (sl + cap) → Ext h h' → Arv Z h' a kA (.object C) n [] .null → Exa Z h' a ad → Ovr Z kA C → Goes p e below s Z EL nw h0 fr0 Q rm T' (mkF m pc' L (.ref a :: S))) : Goes p e below s Z EL nw h0 fr0 Q rm T (mkF m pc L (.int n :: S)) := by
  have hx := W.hx
  have hby := W.hby
  have hE := W.ext
  obtain ⟨vm, k, locs, X, eT, q2, q3, q4, q5⟩ := W
  subst hp
  obtain ⟨T', h', kA, X', e', E, A, x1, x2, st⟩ := newRE X hx q2.2.2.1 (own := y.cls) q2.2.2.2.1 w1 w2 eT (g := mkF m pc L (.int n :: S)) rfl (hb hby hd) rfl hn hcap hbig hc hs had
  refine Goes.step st (K T' h' _ kA rfl ⟨vm, k, locs, X', e', ⟨q2.1, Nat.le_trans q2.2.1 E.1, q2.2.2⟩, ⟨q3.1, q3.2.trans (CHr.ext E q3.2.1)⟩, ⟨q4.1, ⟨Nat.le_trans hE.1 E.1, fun a c q => E.2 a c (hE.2 a c q)⟩, fun x hx => ?_⟩, q5⟩ E (Arv.new A hn) x1 x2)
  rcases List.mem_cons.mp hx with rfl | hx
  · exact ⟨hE.1, A.lt, (Safe.new (Nat.le_refl _)).ext E q3.2.1⟩
  · exact ⟨(q4.2.2 x hx).1, Nat.lt_of_lt_of_le (q4.2.2 x hx).2.1 E.1, (q4.2.2 x hx).2.2.ext E q3.2.1⟩
theorem g_aastore (W : Wk p l e R s m args below meth c y bc mL rt Z a0 EL nw h0 T h fr ce sl) {C : String} {pc pc' i : Nat} {kA : ClassId} {L : Array Slot} {S : List Value} {a b : Addr} {j n : Int32} {vs : List Value} {dv : Value} (hd : decode bc pc = .ok (.aastore, 1)) (hp : pc + 1 = pc') (A : Arv Z h a kA (.object C) n vs dv) (hO : Ovr Z kA C) (hI : Ins Z h b C true) (hj : ¬ j < 0 ∧ j < n) (hi : j.toNatClampNeg = i) (hl : i < vs.length) (hm : a ∈ fr)
    (K : ∀ T' h', Wk p l e R s m args below meth c y bc mL rt Z a0 EL nw h0 T' h' fr ce sl → Wr h h' a j.toNatClampNeg (.ref b) → Arv Z h' a kA (.object C) n (vs.set i (.ref b)) dv → Goes p e below s Z EL nw h0 fr0 Q rm T' (mkF m pc' L S)) : Goes p e below s Z EL nw h0 fr0 Q rm T (mkF m pc L (.ref b :: .int j :: .ref a :: S)) := by
  have hx := W.hx
  have hby := W.hby
  obtain ⟨vm, k, locs, X, eT, q2, q3, q4, q5⟩ := W
  subst hp
  obtain ⟨cl, A1, A2, A3, A4, A5, A6⟩ := A
  obtain ⟨T', h', X', e', W', st⟩ := stR X hx q2.2.2.1 eT A1 (j := j) (v := .ref b) (inb_of A3 hj) rfl (Sto.ofV A1 A2 hO hI) (g := mkF m pc L (.ref b :: .int j :: .ref a :: S)) rfl rfl (hb hby hd)
  exact Goes.step st (K T' h' (Wk.wrote hm W' X' e' q2 q3 q4 q5) W' (Arv.set A1 A2 A3 A4 A5 A6 rfl W' i hi hl))
theorem g_instNo (W : Wk p l e R s m args below meth c y bc mL rt Z a0 EL nw h0 T h fr ce sl) {K0 C : String} {index pc pc' : Nat} {L : Array Slot} {S : List Value} {a : Addr} (hd : decode bc pc = .ok (.instanceof index, 3)) (hp : pc + 3 = pc') (w : (Jvm.Cond.classLink y.cls index K0).before a0 Z = true) (E : Exa Z h a C) (F : ∃ c t, Z.vm.findClass C = some c ∧ Z.vm.findClass K0 = some t ∧ Z.vm.assignable c t = false)
    (K : ∀ T', Wk p l e R s m args below meth c y bc mL rt Z a0 EL nw h0 T' h fr ce sl → Goes p e below s Z EL nw h0 fr0 Q rm T' (mkF m pc' L (.int 0 :: S))) : Goes p e below s Z EL nw h0 fr0 Q rm T (mkF m pc L (.ref a :: S)) := by
  have hx := W.hx
  have hby := W.hby
  obtain ⟨vm, k, locs, X, eT, q2, q3, q4, q5⟩ := W
  subst hp
  obtain ⟨T', X', e', st⟩ := instNo X hx q2.2.2.1 (own := y.cls) q2.2.2.2.1 w eT E F (g := mkF m pc L (.ref a :: S)) rfl rfl (hb hby hd)
  exact Goes.step st (K T' ⟨vm, k, locs, X', e', q2, q3, q4, q5⟩)
theorem Wk.addArv (W : Wk p l e R s m args below meth c y bc mL rt Z a0 EL nw h0 T h fr ce sl) {d : Addr} {k : ClassId} {ty : FieldType} {n : Int32} {vs : List Value} {dv : Value} (A : Arv Z h d k ty n vs dv) (ht : ty ≠ .byte) (g : Z.heap.size ≤ d) : Wk p l e R s m args below meth c y bc mL rt Z a0 EL nw h0 T h (d :: fr) ce sl := by
  obtain ⟨vm, k, locs, X, w1, w2, w3, ⟨w4, w5, w6⟩, w7⟩ := W
  refine ⟨vm, k, locs, X, w1, w2, w3, ⟨w4, w5, fun x hx => ?_⟩, w7⟩
  rcases List.mem_cons.mp hx with rfl | hx
  · exact ⟨g, A.lt, Safe.arv w2.2.2.1.alike A ht⟩
  · exact w6 x hx
theorem Wk.addExa (W : Wk p l e R s m args below meth c y bc mL rt Z a0 EL nw h0 T h fr ce sl) {d : Addr} {C : String} (E : Exa Z h d C) (h1 : C ≠ "java/lang/String") (h2 : C ≠ "[B") (g : Z.heap.size ≤ d) : Wk p l e R s m args below meth c y bc mL rt Z a0 EL nw h0 T h (d :: fr) ce sl := by
  obtain ⟨vm, k, locs, X, w1, w2, w3, ⟨w4, w5, w6⟩, w7⟩ := W
  refine ⟨vm, k, locs, X, w1, w2, w3, ⟨w4, w5, fun x hx => ?_⟩, w7⟩
  rcases List.mem_cons.mp hx with rfl | hx
  · exact ⟨g, E.lt, Safe.exa w2.2.2.1.alike E h1 h2⟩
  · exact w6 x hx
end K7
theorem eqint_v {args : Array Value} {first s : State} {o : Option Outcome} {idx : List Nat} {a : Term} {k : Int32} (h : (Jvm.Cond.eq a (.int k)).value args first o s idx = some true) : a.eval args first o idx s = some (.int k) := by
  have hb : (Term.int k).eval args first o idx s = some (.int k) := Term.int_eval k
  simp only [Cond.value, hb] at h
  cases ha : a.eval args first o idx s with
  | none => simp [ha] at h
  | some v => cases v <;> simp_all
theorem arv0 {Z : State} {args : Array Value} {t : Term} {ty : FieldType} {de : Addr} {dv : Value} (ev : t.eval args Z none [] Z = some (.ref de)) (h1 : (Jvm.Cond.arrayOf t ty).value args Z none Z [] = some true) (h2 : (Jvm.Cond.eq (.length t) (.int 0)).value args Z none Z [] = some true) : ∃ k, Arv Z Z.heap de k ty 0 [] dv := by
  obtain ⟨c, A⟩ := Arr.start ev h1
  have e := eqint_v h2
  have hf : Z.arrayAt? de = some c := A.fin (Vm.Alike.refl _)
  simp [Term.eval, ev, hf] at e
  have e0 : c.slots.size = 0 := by
    have q := len_toInt e.1
    rw [e.2] at q
    have : (0 : Int32).toInt = 0 := (by decide)
    omega
  exact ⟨c.cls, c, A, rfl, by rw [e0]; rfl, by decide, fun i hi => by omega, fun i hi => by omega⟩
open Jvm.Pilot.@@N@@.Jvm.D
abbrev EL1 : List (String × Nat) := [("com/example/tethercall/tethercall/JsonPointerLastPinLaw", 30), ("java/lang/String", 7)]
abbrev NW : Bool := false
abbrev ks_Str : List FK := [("java/lang/String", "value", "[B"), ("java/lang/String", "coder", "B")]
theorem laid_Str {Z : State} {a0 : Array Value} (hw : ∀ d ∈ tables_1, d.before a0 Z = true) : LaidL Z a0 "java/lang/String" ks_Str := LaidL.cons (Or.inr (hw _ (List.mem_of_getElem? (i := 21) rfl))) (.array .byte) (by decide) (LaidL.cons (Or.inr (hw _ (List.mem_of_getElem? (i := 22) rfl))) .byte (by decide) (LaidL.nil))
theorem dis_Str {Z : State} {a0 : Array Value} (hw : ∀ d ∈ tables_1, d.before a0 Z = true) : Dis Z ks_Str := Dis.of (laid_Str hw) (by decide)
theorem new_Str {Z : State} {a0 : Array Value} {h : Heap} {a : Addr} (hw : ∀ d ∈ tables_1, d.before a0 Z = true) (A : Exa Z h a "java/lang/String") (D : ∀ {O nm d : String} {ty : FieldType}, Laid Z a0 "java/lang/String" O nm d → parseFieldDescriptor d = some ty → Fld Z h a O nm d (defaultValue ty)) : Obj Z h a "java/lang/String" [(("java/lang/String", "value", "[B"), .null), (("java/lang/String", "coder", "B"), (.int 0))] := ⟨A, FldL.cons (D (Or.inr (hw _ (List.mem_of_getElem? (i := 21) rfl))) (ty := (.array .byte)) (by decide)) (FldL.cons (D (Or.inr (hw _ (List.mem_of_getElem? (i := 22) rfl))) (ty := .byte) (by decide)) (FldL.nil))⟩
abbrev ks_Jp : List FK := [("com/example/tethercall/tethercall/JsonPointer", "text", "Ljava/lang/String;"), ("com/example/tethercall/tethercall/JsonPointer", "tokens", "Ljava/util/List;")]
theorem laid_Jp {Z : State} {a0 : Array Value} (hw : ∀ d ∈ tables_1, d.before a0 Z = true) : LaidL Z a0 "com/example/tethercall/tethercall/JsonPointer" ks_Jp := LaidL.cons (Or.inr (hw _ (List.mem_of_getElem? (i := 111) rfl))) (.object "java/lang/String") (by decide) (LaidL.cons (Or.inr (hw _ (List.mem_of_getElem? (i := 113) rfl))) (.object "java/util/List") (by decide) (LaidL.nil))
theorem dis_Jp {Z : State} {a0 : Array Value} (hw : ∀ d ∈ tables_1, d.before a0 Z = true) : Dis Z ks_Jp := Dis.of (laid_Jp hw) (by decide)
theorem new_Jp {Z : State} {a0 : Array Value} {h : Heap} {a : Addr} (hw : ∀ d ∈ tables_1, d.before a0 Z = true) (A : Exa Z h a "com/example/tethercall/tethercall/JsonPointer") (D : ∀ {O nm d : String} {ty : FieldType}, Laid Z a0 "com/example/tethercall/tethercall/JsonPointer" O nm d → parseFieldDescriptor d = some ty → Fld Z h a O nm d (defaultValue ty)) : Obj Z h a "com/example/tethercall/tethercall/JsonPointer" [(("com/example/tethercall/tethercall/JsonPointer", "text", "Ljava/lang/String;"), .null), (("com/example/tethercall/tethercall/JsonPointer", "tokens", "Ljava/util/List;"), .null)] := ⟨A, FldL.cons (D (Or.inr (hw _ (List.mem_of_getElem? (i := 111) rfl))) (ty := (.object "java/lang/String")) (by decide)) (FldL.cons (D (Or.inr (hw _ (List.mem_of_getElem? (i := 113) rfl))) (ty := (.object "java/util/List")) (by decide)) (FldL.nil))⟩
theorem wS_of {Z : State} {a0 : Array Value} (hw : ∀ d ∈ tables_1, d.before a0 Z = true) : ∀ a ∈ Bundle.stringAtoms, a.before a0 Z = true := fun d hd => hw d ((by decide +kernel : ∀ d ∈ Bundle.stringAtoms, d ∈ tables_1) d hd)
theorem cod_nil : StrChars.Road.CodA [] 0 0 [] := Or.inl ⟨rfl, rfl, rfl, fun _ q => nomatch q⟩
theorem d_jdk_42_method_149_code_0 : decode jdk_42_method_149_code 0 = .ok (.aload_n 0, 1) := by decide +kernel
theorem d_jdk_42_method_149_code_1 : decode jdk_42_method_149_code 1 = .ok (.invokespecial 1, 3) := by decide +kernel
theorem d_jdk_42_method_149_code_4 : decode jdk_42_method_149_code 4 = .ok (.iload_n 3, 1) := by decide +kernel
theorem d_jdk_42_method_149_code_5 : decode jdk_42_method_149_code 5 = .ok (.ifCond .ne 22, 3) := by decide +kernel
theorem d_jdk_42_method_149_code_8 : decode jdk_42_method_149_code 8 = .ok (.aload_n 0, 1) := by decide +kernel
theorem d_jdk_42_method_149_code_9 : decode jdk_42_method_149_code 9 = .ok (.ldc 7, 2) := by decide +kernel
theorem d_jdk_42_method_149_code_11 : decode jdk_42_method_149_code 11 = .ok (.getfield 9, 3) := by decide +kernel
theorem d_jdk_42_method_149_code_14 : decode jdk_42_method_149_code 14 = .ok (.putfield 9, 3) := by decide +kernel
theorem d_jdk_42_method_149_code_17 : decode jdk_42_method_149_code 17 = .ok (.aload_n 0, 1) := by decide +kernel
theorem d_jdk_42_method_149_code_18 : decode jdk_42_method_149_code 18 = .ok (.ldc 7, 2) := by decide +kernel
theorem d_jdk_42_method_149_code_20 : decode jdk_42_method_149_code 20 = .ok (.getfield 15, 3) := by decide +kernel
theorem d_jdk_42_method_149_code_23 : decode jdk_42_method_149_code 23 = .ok (.putfield 15, 3) := by decide +kernel
theorem d_jdk_42_method_149_code_26 : decode jdk_42_method_149_code 26 = .ok (.return_, 1) := by decide +kernel
theorem pf_0 : plainFor (⟨"java/lang/String", "<init>", "([CIILjava/lang/Void;)V"⟩ : MethodName) = true := by first | (exact plainFor_of_name (by first | (simp [plainName, overriddenIn]; done) | decide +kernel)) | decide +kernel
set_option maxRecDepth 65536 in
set_option maxHeartbeats 40000000 in
theorem rm_new4e {l : Launch} {Z : State} {a0 : Array Value} (hw : ∀ d ∈ tables_1, d.before a0 Z = true) (hEL : EW Z a0 EL1) {zc : Int32} (Sc : Sta Z Z.heap "java/lang/String" "COMPACT_STRINGS" "Z" (.int zc)) (hzc : ¬ zc = 0) (a1 b1 : Addr) (h : Heap) (hX : Ext Z.heap h) (g1 : Z.heap.size ≤ a1) (O1 : Obj Z h a1 "java/lang/String" [(("java/lang/String", "value", "[B"), .null), (("java/lang/String", "coder", "B"), (.int 0))]) : Met l Z EL1 NW (⟨"java/lang/String", "<init>", "([CIILjava/lang/Void;)V"⟩ : MethodName) jdk_42_method_149_code 6 none [] ({ frames := 1, cells := 4, slots := 8, locals := 12 } : Room) #[(.ref a1), (.ref b1), (.int (0 : Int32)), (.int (0 : Int32)), .null] h [a1] (fun v h' => v = none ∧ Str Z h' a1 []) := by
  refine Met.intro pf_0 hEL hX (allS ⟨g1, O1.lt⟩ all0) ?_
  intro p e s m below meth c T W
  refine Goes.cast (show entryFrame m #[(.ref a1), (.ref b1), (.int (0 : Int32)), (.int (0 : Int32)), .null] 6 = mkF m 0 #[.val (.ref a1), .val (.ref b1), .val (.int (0 : Int32)), .val (.int (0 : Int32)), .val .null, .unset] [] by first | (simp [entryFrame, mkF, argsToLocals, Value.category]; done) | rfl) ?_
  refine g_aload_n W d_jdk_42_method_149_code_0 (pc' := 1) rfl rfl rfl ?_
  refine g_initO W d_jdk_42_method_149_code_1 (pc' := 4) (Wd := 0) rfl (hw _ (List.mem_of_getElem? (i := 16) rfl)) (hw _ (List.mem_of_getElem? (i := 17) rfl)) (hw _ (List.mem_of_getElem? (i := 18) rfl)) rfl rfl (by decide) (by decide) fun T1 W2 => ?_
  refine g_iload_n W2 d_jdk_42_method_149_code_4 (pc' := 5) rfl rfl ?_
  refine g_ifN W2 d_jdk_42_method_149_code_5 (pc' := 8) rfl (Jvm.Free.XT.i0_ne_f rfl) ?_
  refine g_aload_n W2 d_jdk_42_method_149_code_8 (pc' := 9) rfl rfl rfl ?_
  refine g_ldc W2 d_jdk_42_method_149_code_9 (pc' := 11) (text := "") (vs := []) (zz := (0 : Int32)) (n := 0) rfl (hw _ (List.mem_of_getElem? (i := 19) rfl)) (wS_of hw) (List.mem_of_getElem? (i := 1) rfl) ⟨by decide +kernel, by decide +kernel⟩ (by decide) (by decide) (by decide +kernel) (by decide) (by decide) (by decide) fun T3 h5 a13 b14 kb12 W4 E6 X7 C8 V9 A10 ne11 => ?_
  refine g_getfield W4 d_jdk_42_method_149_code_11 (pc' := 14) (host := "") rfl (Or.inl (hw _ (List.mem_of_getElem? (i := 25) rfl))) Via.refl V9 fun T15 W16 => ?_
  have K22 : Keep h h5 [] := ((Keep.refl h []).ext E6)
  have F23 := O1.mv K22
  refine g_putfield W16 d_jdk_42_method_149_code_14 (pc' := 17) (host := "") (ty := (.array .byte)) rfl (Or.inl (hw _ (List.mem_of_getElem? (i := 25) rfl))) Via.refl (F23.get 0 rfl) F23.1 (Or.inr ⟨(hw _ (List.mem_of_getElem? (i := 21) rfl)), rfl, rfl⟩) (hw _ (List.mem_of_getElem? (i := 6) rfl)) (by decide) rfl rfl (List.mem_of_getElem? (i := 0) rfl) fun T17 h19 W18 R20 => ?_
  have O21 : Obj Z h19 a1 "java/lang/String" [(("java/lang/String", "value", "[B"), (.ref b14)), (("java/lang/String", "coder", "B"), (.int 0))] := F23.put R20 0 rfl (dis_Str hw)
  have A24 := A10.keep (Keep.of_wr R20) (ninS (fun q => (ne11 a1 (List.mem_of_getElem? (i := 0) rfl)).2 q.symm) nin0)
  refine g_aload_n W18 d_jdk_42_method_149_code_17 (pc' := 18) rfl rfl rfl ?_
  refine g_ldc W18 d_jdk_42_method_149_code_18 (pc' := 20) (text := "") (vs := []) (zz := (0 : Int32)) (n := 0) rfl (hw _ (List.mem_of_getElem? (i := 19) rfl)) (wS_of hw) (List.mem_of_getElem? (i := 1) rfl) ⟨by decide +kernel, by decide +kernel⟩ (by decide) (by decide) (by decide +kernel) (by decide) (by decide) (by decide) fun T25 h27 a35 b36 kb34 W26 E28 X29 C30 V31 A32 ne33 => ?_
  refine g_getfield W26 d_jdk_42_method_149_code_20 (pc' := 23) (host := "") rfl (Or.inl (hw _ (List.mem_of_getElem? (i := 26) rfl))) Via.refl C30 fun T37 W38 => ?_
  have K39 : Keep h19 h27 [] := ((Keep.refl h19 []).ext E28)
  have F40 := A24.mv K39
  have F46 := O21.mv K39
  refine g_putfield W38 d_jdk_42_method_149_code_23 (pc' := 26) (host := "") (ty := .byte) rfl (Or.inl (hw _ (List.mem_of_getElem? (i := 26) rfl))) Via.refl (F46.get 1 rfl) F46.1 (Or.inr ⟨(hw _ (List.mem_of_getElem? (i := 22) rfl)), rfl, rfl⟩) (hw _ (List.mem_of_getElem? (i := 6) rfl)) (by decide) rfl rfl (List.mem_of_getElem? (i := 0) rfl) fun T41 h43 W42 R44 => ?_
  have O45 : Obj Z h43 a1 "java/lang/String" [(("java/lang/String", "value", "[B"), (.ref b14)), (("java/lang/String", "coder", "B"), (.int (0 : Int32)))] := F46.put R44 1 rfl (dis_Str hw)
  have A47 := F40.keep (Keep.of_wr R44) (ninS (fun q => (ne11 a1 (List.mem_of_getElem? (i := 0) rfl)).2 q.symm) nin0)
  have K48 : Keep h h43 [a1] := (((((Keep.refl h [a1]).ext E6).wr R20 (Or.inl (List.mem_of_getElem? (i := 0) rfl))).ext E28).wr R44 (Or.inl (List.mem_of_getElem? (i := 0) rfl)))
  exact g_return W42 d_jdk_42_method_149_code_26 K48 ⟨rfl, _, _, _, _, _, O45.1, O45.get 0 rfl, O45.get 1 rfl, A47, cod_nil, (fun _ q => nomatch q), Nat.zero_le _⟩ (by decide) (by decide)
theorem d_jdk_42_method_3_code_0 : decode jdk_42_method_3_code 0 = .ok (.aload_n 0, 1) := by decide +kernel
theorem d_jdk_42_method_3_code_1 : decode jdk_42_method_3_code 1 = .ok (.aload_n 1, 1) := by decide +kernel
theorem d_jdk_42_method_3_code_2 : decode jdk_42_method_3_code 2 = .ok (.iconst 0, 1) := by decide +kernel
theorem d_jdk_42_method_3_code_3 : decode jdk_42_method_3_code 3 = .ok (.aload_n 1, 1) := by decide +kernel
theorem d_jdk_42_method_3_code_4 : decode jdk_42_method_3_code 4 = .ok (.arraylength, 1) := by decide +kernel
theorem d_jdk_42_method_3_code_5 : decode jdk_42_method_3_code 5 = .ok (.aconst_null, 1) := by decide +kernel
theorem d_jdk_42_method_3_code_6 : decode jdk_42_method_3_code 6 = .ok (.invokespecial 27, 3) := by decide +kernel
theorem pd_0 : parseMethodDescriptor "([CIILjava/lang/Void;)V" = some ⟨[(.array .char), .int, .int, (.object "java/lang/Void")], none⟩ := by decide +kernel
theorem d_jdk_42_method_3_code_9 : decode jdk_42_method_3_code 9 = .ok (.return_, 1) := by decide +kernel
theorem pf_1 : plainFor (⟨"java/lang/String", "<init>", "([C)V"⟩ : MethodName) = true := by first | (exact plainFor_of_name (by first | (simp [plainName, overriddenIn]; done) | decide +kernel)) | decide +kernel
set_option maxRecDepth 65536 in
set_option maxHeartbeats 40000000 in
theorem rm_new1e {l : Launch} {Z : State} {a0 : Array Value} (hw : ∀ d ∈ tables_1, d.before a0 Z = true) (hEL : EW Z a0 EL1) {zc : Int32} (Sc : Sta Z Z.heap "java/lang/String" "COMPACT_STRINGS" "Z" (.int zc)) (hzc : ¬ zc = 0) (a1 b1 : Addr) (kA : ClassId) (vs : List Value) (dv : Value) (h : Heap) (hX : Ext Z.heap h) (g1 : Z.heap.size ≤ a1) (O1 : Obj Z h a1 "java/lang/String" [(("java/lang/String", "value", "[B"), .null), (("java/lang/String", "coder", "B"), (.int 0))]) (A1 : Arv Z h b1 kA .char (0 : Int32) vs dv) : Met l Z EL1 NW (⟨"java/lang/String", "<init>", "([C)V"⟩ : MethodName) jdk_42_method_3_code 2 none [] ({ frames := 2, cells := 4, slots := 8, locals := 29 } : Room) #[(.ref a1), (.ref b1)] h [a1] (fun v h' => v = none ∧ Str Z h' a1 []) := by
  refine Met.intro pf_1 hEL hX (allS ⟨g1, O1.lt⟩ all0) ?_
  intro p e s m below meth c T W
  refine Goes.cast (show entryFrame m #[(.ref a1), (.ref b1)] 2 = mkF m 0 #[.val (.ref a1), .val (.ref b1)] [] by first | (simp [entryFrame, mkF, argsToLocals, Value.category]; done) | rfl) ?_
  refine g_aload_n W d_jdk_42_method_3_code_0 (pc' := 1) rfl rfl rfl ?_
  refine g_aload_n W d_jdk_42_method_3_code_1 (pc' := 2) rfl rfl rfl ?_
  refine g_iconst W d_jdk_42_method_3_code_2 (pc' := 3) (v := (0 : Int32)) rfl rfl ?_
  refine g_aload_n W d_jdk_42_method_3_code_3 (pc' := 4) rfl rfl rfl ?_
  refine g_arraylength W d_jdk_42_method_3_code_4 (pc' := 5) rfl A1 ?_
  refine g_aconst_null W d_jdk_42_method_3_code_5 (pc' := 6) rfl ?_
  refine g_special W d_jdk_42_method_3_code_6 (pc' := 9) (a := a1) (fr' := [a1]) (argsL := [(.ref b1), (.int (0 : Int32)), (.int (0 : Int32)), .null]) (rest := []) (Wd := 0) (kc := 4) (ks := 8) rfl rfl (hw _ (List.mem_of_getElem? (i := 12) rfl)) (hw _ (List.mem_of_getElem? (i := 13) rfl)) (hw _ (List.mem_of_getElem? (i := 15) rfl)) (by decide) rfl rfl (lenOf pd_0 rfl) rfl (allS (List.mem_of_getElem? (i := 0) rfl) (all0)) (by decide) (by decide) (Met.pays (rm_new4e hw hEL Sc hzc a1 b1 _ W.ext g1 O1) (hw _ (List.mem_of_getElem? (i := 15) rfl)) (hw _ (List.mem_of_getElem? (i := 7) rfl)) hEL (by decide) (by decide)) fun v6 T1 h3 W2 K4 q5 => ?_
  obtain ⟨rfl, S1⟩ := q5
  show Goes _ _ _ _ _ _ _ _ _ _ _ T1 (mkF m 9 #[.val (.ref a1), .val (.ref b1)] [])
  have K7 : Keep h h3 [a1] := ((Keep.refl h [a1]).trans K4 fun x q => by cases List.mem_singleton.mp q; exact Or.inl (List.mem_of_getElem? (i := 0) rfl))
  exact g_return W2 d_jdk_42_method_3_code_9 K7 ⟨rfl, S1⟩ (by decide) (by decide)
abbrev ks_AL : List FK := [("java/util/AbstractList", "modCount", "I"), ("java/util/ArrayList", "elementData", "[Ljava/lang/Object;"), ("java/util/ArrayList", "size", "I")]
theorem laid_AL {Z : State} {a0 : Array Value} (hw : ∀ d ∈ tables_1, d.before a0 Z = true) : LaidL Z a0 "java/util/ArrayList" ks_AL := LaidL.cons (Or.inl (hw _ (List.mem_of_getElem? (i := 58) rfl))) .int (by decide) (LaidL.cons (Or.inl (hw _ (List.mem_of_getElem? (i := 61) rfl))) (.array (.object "java/lang/Object")) (by decide) (LaidL.cons (Or.inl (hw _ (List.mem_of_getElem? (i := 74) rfl))) .int (by decide) (LaidL.nil)))
theorem dis_AL {Z : State} {a0 : Array Value} (hw : ∀ d ∈ tables_1, d.before a0 Z = true) : Dis Z ks_AL := Dis.of (laid_AL hw) (by decide)
theorem new_AL {Z : State} {a0 : Array Value} {h : Heap} {a : Addr} (hw : ∀ d ∈ tables_1, d.before a0 Z = true) (A : Exa Z h a "java/util/ArrayList") (D : ∀ {O nm d : String} {ty : FieldType}, Laid Z a0 "java/util/ArrayList" O nm d → parseFieldDescriptor d = some ty → Fld Z h a O nm d (defaultValue ty)) : Obj Z h a "java/util/ArrayList" [(("java/util/AbstractList", "modCount", "I"), (.int 0)), (("java/util/ArrayList", "elementData", "[Ljava/lang/Object;"), .null), (("java/util/ArrayList", "size", "I"), (.int 0))] := ⟨A, FldL.cons (D (Or.inl (hw _ (List.mem_of_getElem? (i := 58) rfl))) (ty := .int) (by decide)) (FldL.cons (D (Or.inl (hw _ (List.mem_of_getElem? (i := 61) rfl))) (ty := (.array (.object "java/lang/Object"))) (by decide)) (FldL.cons (D (Or.inl (hw _ (List.mem_of_getElem? (i := 74) rfl))) (ty := .int) (by decide)) (FldL.nil)))⟩
theorem d_jdk_22_method_1_code_0 : decode jdk_22_method_1_code 0 = .ok (.aload_n 0, 1) := by decide +kernel
theorem d_jdk_22_method_1_code_1 : decode jdk_22_method_1_code 1 = .ok (.invokespecial 1, 3) := by decide +kernel
theorem d_jdk_22_method_1_code_4 : decode jdk_22_method_1_code 4 = .ok (.return_, 1) := by decide +kernel
theorem pf_2 : plainFor (⟨"java/util/AbstractCollection", "<init>", "()V"⟩ : MethodName) = true := by first | (exact plainFor_of_name (by first | (simp [plainName, overriddenIn]; done) | decide +kernel)) | decide +kernel
set_option maxRecDepth 65536 in
set_option maxHeartbeats 40000000 in
theorem rm_abc {l : Launch} {Z : State} {a0 : Array Value} (hw : ∀ d ∈ tables_1, d.before a0 Z = true) (hEL : EW Z a0 EL1) {zc : Int32} (Sc : Sta Z Z.heap "java/lang/String" "COMPACT_STRINGS" "Z" (.int zc)) (hzc : ¬ zc = 0) (a1 : Addr) (h : Heap) (hX : Ext Z.heap h)  : Met l Z EL1 NW (⟨"java/util/AbstractCollection", "<init>", "()V"⟩ : MethodName) jdk_22_method_1_code 1 none [] ({ frames := 1, cells := 0, slots := 0, locals := 12 } : Room) #[(.ref a1)] h [] (fun v h' => h = h' ∧ v = none) := by
  refine Met.intro pf_2 hEL hX (fun _ q => nomatch q) ?_
  intro p e s m below meth c T W
  refine Goes.cast (show entryFrame m #[(.ref a1)] 1 = mkF m 0 #[.val (.ref a1)] [] by first | (simp [entryFrame, mkF, argsToLocals, Value.category]; done) | rfl) ?_
  refine g_aload_n W d_jdk_22_method_1_code_0 (pc' := 1) rfl rfl rfl ?_
  refine g_initO W d_jdk_22_method_1_code_1 (pc' := 4) (Wd := 0) rfl (hw _ (List.mem_of_getElem? (i := 56) rfl)) (hw _ (List.mem_of_getElem? (i := 17) rfl)) (hw _ (List.mem_of_getElem? (i := 18) rfl)) rfl rfl (by decide) (by decide) fun T1 W2 => ?_
  exact g_return W2 d_jdk_22_method_1_code_4 (Keep.refl h []) ⟨rfl, rfl⟩ (by decide) (by decide)
theorem d_jdk_39_method_1_code_0 : decode jdk_39_method_1_code 0 = .ok (.aload_n 0, 1) := by decide +kernel
theorem d_jdk_39_method_1_code_1 : decode jdk_39_method_1_code 1 = .ok (.invokespecial 1, 3) := by decide +kernel
theorem pd_1 : parseMethodDescriptor "()V" = some ⟨[], none⟩ := by decide +kernel
theorem d_jdk_39_method_1_code_4 : decode jdk_39_method_1_code 4 = .ok (.aload_n 0, 1) := by decide +kernel
theorem d_jdk_39_method_1_code_5 : decode jdk_39_method_1_code 5 = .ok (.iconst 0, 1) := by decide +kernel
theorem d_jdk_39_method_1_code_6 : decode jdk_39_method_1_code 6 = .ok (.putfield 7, 3) := by decide +kernel
theorem d_jdk_39_method_1_code_9 : decode jdk_39_method_1_code 9 = .ok (.return_, 1) := by decide +kernel
theorem pf_3 : plainFor (⟨"java/util/AbstractList", "<init>", "()V"⟩ : MethodName) = true := by first | (exact plainFor_of_name (by first | (simp [plainName, overriddenIn]; done) | decide +kernel)) | decide +kernel
set_option maxRecDepth 65536 in
set_option maxHeartbeats 40000000 in
theorem rm_abl {l : Launch} {Z : State} {a0 : Array Value} (hw : ∀ d ∈ tables_1, d.before a0 Z = true) (hEL : EW Z a0 EL1) {zc : Int32} (Sc : Sta Z Z.heap "java/lang/String" "COMPACT_STRINGS" "Z" (.int zc)) (hzc : ¬ zc = 0) (a1 : Addr) (h : Heap) (hX : Ext Z.heap h) (g1 : Z.heap.size ≤ a1) (O1 : Obj Z h a1 "java/util/ArrayList" [(("java/util/AbstractList", "modCount", "I"), (.int 0)), (("java/util/ArrayList", "elementData", "[Ljava/lang/Object;"), .null), (("java/util/ArrayList", "size", "I"), (.int 0))]) : Met l Z EL1 NW (⟨"java/util/AbstractList", "<init>", "()V"⟩ : MethodName) jdk_39_method_1_code 1 none [] ({ frames := 2, cells := 0, slots := 0, locals := 24 } : Room) #[(.ref a1)] h [a1] (fun v h' => v = none ∧ Obj Z h' a1 "java/util/ArrayList" [(("java/util/AbstractList", "modCount", "I"), (.int 0)), (("java/util/ArrayList", "elementData", "[Ljava/lang/Object;"), .null), (("java/util/ArrayList", "size", "I"), (.int 0))]) := by
  refine Met.intro pf_3 hEL hX (allS ⟨g1, O1.lt⟩ all0) ?_
  intro p e s m below meth c T W
  refine Goes.cast (show entryFrame m #[(.ref a1)] 1 = mkF m 0 #[.val (.ref a1)] [] by first | (simp [entryFrame, mkF, argsToLocals, Value.category]; done) | rfl) ?_
  refine g_aload_n W d_jdk_39_method_1_code_0 (pc' := 1) rfl rfl rfl ?_
  refine g_special W d_jdk_39_method_1_code_1 (pc' := 4) (a := a1) (fr' := []) (argsL := []) (rest := []) (Wd := 0) (kc := 0) (ks := 0) rfl rfl (hw _ (List.mem_of_getElem? (i := 50) rfl)) (hw _ (List.mem_of_getElem? (i := 51) rfl)) (hw _ (List.mem_of_getElem? (i := 55) rfl)) (by decide) rfl rfl (lenOf pd_1 rfl) rfl all0 (by decide) (by decide) (Met.pays (rm_abc hw hEL Sc hzc a1 _ W.ext) (hw _ (List.mem_of_getElem? (i := 55) rfl)) (hw _ (List.mem_of_getElem? (i := 54) rfl)) hEL (by decide) (by decide)) fun v6 T1 h3 W2 K4 q5 => ?_
  obtain ⟨rfl, rfl⟩ := q5
  show Goes _ _ _ _ _ _ _ _ _ _ _ T1 (mkF m 4 #[.val (.ref a1)] [])
  refine g_aload_n W2 d_jdk_39_method_1_code_4 (pc' := 5) rfl rfl rfl ?_
  refine g_iconst W2 d_jdk_39_method_1_code_5 (pc' := 6) (v := (0 : Int32)) rfl rfl ?_
  refine g_putfield W2 d_jdk_39_method_1_code_6 (pc' := 9) (host := "") (ty := .int) rfl (Or.inl (hw _ (List.mem_of_getElem? (i := 57) rfl))) Via.refl (O1.get 0 rfl) O1.1 (Or.inl (hw _ (List.mem_of_getElem? (i := 58) rfl))) (hw _ (List.mem_of_getElem? (i := 39) rfl)) (by decide) rfl rfl (List.mem_of_getElem? (i := 0) rfl) fun T7 h9 W8 R10 => ?_
  have O11 : Obj Z h9 a1 "java/util/ArrayList" [(("java/util/AbstractList", "modCount", "I"), (.int (0 : Int32))), (("java/util/ArrayList", "elementData", "[Ljava/lang/Object;"), .null), (("java/util/ArrayList", "size", "I"), (.int 0))] := O1.put R10 0 rfl (dis_AL hw)
  have K12 : Keep h h9 [a1] := ((Keep.refl h [a1]).wr R10 (Or.inl (List.mem_of_getElem? (i := 0) rfl)))
  exact g_return W8 d_jdk_39_method_1_code_9 K12 ⟨rfl, O11⟩ (by decide) (by decide)
theorem d_jdk_38_method_2_code_0 : decode jdk_38_method_2_code 0 = .ok (.aload_n 0, 1) := by decide +kernel
theorem d_jdk_38_method_2_code_1 : decode jdk_38_method_2_code 1 = .ok (.invokespecial 1, 3) := by decide +kernel
theorem d_jdk_38_method_2_code_4 : decode jdk_38_method_2_code 4 = .ok (.aload_n 0, 1) := by decide +kernel
theorem d_jdk_38_method_2_code_5 : decode jdk_38_method_2_code 5 = .ok (.getstatic 39, 3) := by decide +kernel
theorem d_jdk_38_method_2_code_8 : decode jdk_38_method_2_code 8 = .ok (.putfield 9, 3) := by decide +kernel
theorem d_jdk_38_method_2_code_11 : decode jdk_38_method_2_code 11 = .ok (.return_, 1) := by decide +kernel
theorem pf_4 : plainFor (⟨"java/util/ArrayList", "<init>", "()V"⟩ : MethodName) = true := by first | (exact plainFor_of_name (by first | (simp [plainName, overriddenIn]; done) | decide +kernel)) | decide +kernel
set_option maxRecDepth 65536 in
set_option maxHeartbeats 40000000 in
theorem rm_alinit {l : Launch} {Z : State} {a0 : Array Value} (hw : ∀ d ∈ tables_1, d.before a0 Z = true) (hEL : EW Z a0 EL1) {zc : Int32} (Sc : Sta Z Z.heap "java/lang/String" "COMPACT_STRINGS" "Z" (.int zc)) (hzc : ¬ zc = 0) (a1 : Addr) {de : Addr} {kd : ClassId} (h : Heap) (hX : Ext Z.heap h) (Sd : Sta Z Z.heap "java/util/ArrayList" "DEFAULTCAPACITY_EMPTY_ELEMENTDATA" "[Ljava/lang/Object;" (.ref de)) (Ad : Arv Z Z.heap de kd (.object "java/lang/Object") (0 : Int32) [] .null) (g1 : Z.heap.size ≤ a1) (O1 : Obj Z h a1 "java/util/ArrayList" [(("java/util/AbstractList", "modCount", "I"), (.int 0)), (("java/util/ArrayList", "elementData", "[Ljava/lang/Object;"), .null), (("java/util/ArrayList", "size", "I"), (.int 0))]) : Met l Z EL1 NW (⟨"java/util/ArrayList", "<init>", "()V"⟩ : MethodName) jdk_38_method_2_code 1 none [] ({ frames := 3, cells := 0, slots := 0, locals := 36 } : Room) #[(.ref a1)] h [a1] (fun v h' => v = none ∧ Obj Z h' a1 "java/util/ArrayList" [(("java/util/AbstractList", "modCount", "I"), (.int 0)), (("java/util/ArrayList", "elementData", "[Ljava/lang/Object;"), (.ref de)), (("java/util/ArrayList", "size", "I"), (.int 0))]) := by
  refine Met.intro pf_4 hEL hX (allS ⟨g1, O1.lt⟩ all0) ?_
  intro p e s m below meth c T W
  refine Goes.cast (show entryFrame m #[(.ref a1)] 1 = mkF m 0 #[.val (.ref a1)] [] by first | (simp [entryFrame, mkF, argsToLocals, Value.category]; done) | rfl) ?_
  refine g_aload_n W d_jdk_38_method_2_code_0 (pc' := 1) rfl rfl rfl ?_
  refine g_special W d_jdk_38_method_2_code_1 (pc' := 4) (a := a1) (fr' := [a1]) (argsL := []) (rest := []) (Wd := 0) (kc := 0) (ks := 0) rfl rfl (hw _ (List.mem_of_getElem? (i := 44) rfl)) (hw _ (List.mem_of_getElem? (i := 45) rfl)) (hw _ (List.mem_of_getElem? (i := 49) rfl)) (by decide) rfl rfl (lenOf pd_1 rfl) rfl (allS (List.mem_of_getElem? (i := 0) rfl) (all0)) (by decide) (by decide) (Met.pays (rm_abl hw hEL Sc hzc a1 _ W.ext g1 O1) (hw _ (List.mem_of_getElem? (i := 49) rfl)) (hw _ (List.mem_of_getElem? (i := 48) rfl)) hEL (by decide) (by decide)) fun v6 T1 h3 W2 K4 q5 => ?_
  obtain ⟨rfl, O2⟩ := q5
  show Goes _ _ _ _ _ _ _ _ _ _ _ T1 (mkF m 4 #[.val (.ref a1)] [])
  refine g_aload_n W2 d_jdk_38_method_2_code_4 (pc' := 5) rfl rfl rfl ?_
  refine g_getstatic W2 d_jdk_38_method_2_code_5 (pc' := 8) rfl (hw _ (List.mem_of_getElem? (i := 59) rfl)) Via.refl Sd fun T7 W8 => ?_
  refine g_putfield W8 d_jdk_38_method_2_code_8 (pc' := 11) (host := "") (ty := (.array (.object "java/lang/Object"))) rfl (Or.inl (hw _ (List.mem_of_getElem? (i := 60) rfl))) Via.refl (O2.get 1 rfl) O2.1 (Or.inl (hw _ (List.mem_of_getElem? (i := 61) rfl))) (hw _ (List.mem_of_getElem? (i := 39) rfl)) (by decide) rfl rfl (List.mem_of_getElem? (i := 0) rfl) fun T9 h11 W10 R12 => ?_
  have O13 : Obj Z h11 a1 "java/util/ArrayList" [(("java/util/AbstractList", "modCount", "I"), (.int 0)), (("java/util/ArrayList", "elementData", "[Ljava/lang/Object;"), (.ref de)), (("java/util/ArrayList", "size", "I"), (.int 0))] := O2.put R12 1 rfl (dis_AL hw)
  have K14 : Keep h h11 [a1] := (((Keep.refl h [a1]).trans K4 fun x q => by cases List.mem_singleton.mp q; exact Or.inl (List.mem_of_getElem? (i := 0) rfl)).wr R12 (Or.inl (List.mem_of_getElem? (i := 0) rfl)))
  exact g_return W10 d_jdk_38_method_2_code_11 K14 ⟨rfl, O13⟩ (by decide) (by decide)
theorem d_jdk_29_method_65_code_0 : decode jdk_29_method_65_code 0 = .ok (.iload_n 0, 1) := by decide +kernel
theorem d_jdk_29_method_65_code_1 : decode jdk_29_method_65_code 1 = .ok (.iload_n 1, 1) := by decide +kernel
theorem d_jdk_29_method_65_code_2 : decode jdk_29_method_65_code 2 = .ok (.if_icmp .lt 7, 3) := by decide +kernel
theorem d_jdk_29_method_65_code_5 : decode jdk_29_method_65_code 5 = .ok (.iload_n 0, 1) := by decide +kernel
theorem d_jdk_29_method_65_code_6 : decode jdk_29_method_65_code 6 = .ok (.goto 4, 3) := by decide +kernel
theorem d_jdk_29_method_65_code_10 : decode jdk_29_method_65_code 10 = .ok (.ireturn, 1) := by decide +kernel
theorem pf_5 : plainFor (⟨"java/lang/Math", "max", "(II)I"⟩ : MethodName) = true := by first | (exact plainFor_of_name (by first | (simp [plainName, overriddenIn]; done) | decide +kernel)) | decide +kernel
set_option maxRecDepth 65536 in
set_option maxHeartbeats 40000000 in
theorem rm_max {l : Launch} {Z : State} {a0 : Array Value} (hw : ∀ d ∈ tables_1, d.before a0 Z = true) (hEL : EW Z a0 EL1) {zc : Int32} (Sc : Sta Z Z.heap "java/lang/String" "COMPACT_STRINGS" "Z" (.int zc)) (hzc : ¬ zc = 0) (p1 p2 : Int32) (h : Heap) (hX : Ext Z.heap h) (q : ¬ p1 < p2) : Met l Z EL1 NW (⟨"java/lang/Math", "max", "(II)I"⟩ : MethodName) jdk_29_method_65_code 2 (some .int) [] ({ frames := 0, cells := 0, slots := 0, locals := 0 } : Room) #[(.int p1), (.int p2)] h [] (fun v h' => h = h' ∧ v = some (.int p1)) := by
  refine Met.intro pf_5 hEL hX (fun _ q => nomatch q) ?_
  intro p e s m below meth c T W
  refine Goes.cast (show entryFrame m #[(.int p1), (.int p2)] 2 = mkF m 0 #[.val (.int p1), .val (.int p2)] [] by first | (simp [entryFrame, mkF, argsToLocals, Value.category]; done) | rfl) ?_
  refine g_iload_n W d_jdk_29_method_65_code_0 (pc' := 1) rfl rfl ?_
  refine g_iload_n W d_jdk_29_method_65_code_1 (pc' := 2) rfl rfl ?_
  refine g_icmpN W d_jdk_29_method_65_code_2 (pc' := 5) rfl (Jvm.Free.XT.ii_lt_f q) ?_
  refine g_iload_n W d_jdk_29_method_65_code_5 (pc' := 6) rfl rfl ?_
  refine g_goto W d_jdk_29_method_65_code_6 (pc' := 10) (by decide) (by decide) ?_
  exact g_ireturn W d_jdk_29_method_65_code_10 (by decide) rfl (Keep.refl h []) ⟨rfl, rfl⟩ (by decide) (by decide)
theorem d_jdk_38_method_6_code_0 : decode jdk_38_method_6_code 0 = .ok (.aload_n 0, 1) := by decide +kernel
theorem d_jdk_38_method_6_code_1 : decode jdk_38_method_6_code 1 = .ok (.getfield 9, 3) := by decide +kernel
theorem d_jdk_38_method_6_code_4 : decode jdk_38_method_6_code 4 = .ok (.arraylength, 1) := by decide +kernel
theorem d_jdk_38_method_6_code_5 : decode jdk_38_method_6_code 5 = .ok (.istore_n 2, 1) := by decide +kernel
theorem d_jdk_38_method_6_code_6 : decode jdk_38_method_6_code 6 = .ok (.iload_n 2, 1) := by decide +kernel
theorem d_jdk_38_method_6_code_7 : decode jdk_38_method_6_code 7 = .ok (.ifCond .gt 13, 3) := by decide +kernel
theorem d_jdk_38_method_6_code_10 : decode jdk_38_method_6_code 10 = .ok (.aload_n 0, 1) := by decide +kernel
theorem d_jdk_38_method_6_code_11 : decode jdk_38_method_6_code 11 = .ok (.getfield 9, 3) := by decide +kernel
theorem d_jdk_38_method_6_code_14 : decode jdk_38_method_6_code 14 = .ok (.getstatic 39, 3) := by decide +kernel
theorem d_jdk_38_method_6_code_17 : decode jdk_38_method_6_code 17 = .ok (.if_acmp .eq 28, 3) := by decide +kernel
theorem d_jdk_38_method_6_code_45 : decode jdk_38_method_6_code 45 = .ok (.aload_n 0, 1) := by decide +kernel
theorem d_jdk_38_method_6_code_46 : decode jdk_38_method_6_code 46 = .ok (.bipush 10, 2) := by decide +kernel
theorem d_jdk_38_method_6_code_48 : decode jdk_38_method_6_code 48 = .ok (.iload_n 1, 1) := by decide +kernel
theorem d_jdk_38_method_6_code_49 : decode jdk_38_method_6_code 49 = .ok (.invokestatic 79, 3) := by decide +kernel
theorem pd_2 : parseMethodDescriptor "(II)I" = some ⟨[.int, .int], some .int⟩ := by decide +kernel
theorem d_jdk_38_method_6_code_52 : decode jdk_38_method_6_code 52 = .ok (.anewarray 7, 3) := by decide +kernel
theorem d_jdk_38_method_6_code_55 : decode jdk_38_method_6_code 55 = .ok (.dup_x1, 1) := by decide +kernel
theorem d_jdk_38_method_6_code_56 : decode jdk_38_method_6_code 56 = .ok (.putfield 9, 3) := by decide +kernel
theorem d_jdk_38_method_6_code_59 : decode jdk_38_method_6_code 59 = .ok (.areturn, 1) := by decide +kernel
theorem pf_6 : plainFor (⟨"java/util/ArrayList", "grow", "(I)[Ljava/lang/Object;"⟩ : MethodName) = true := by first | (exact plainFor_of_name (by first | (simp [plainName, overriddenIn]; done) | decide +kernel)) | decide +kernel
set_option maxRecDepth 65536 in
set_option maxHeartbeats 40000000 in
theorem rm_grow1 {l : Launch} {Z : State} {a0 : Array Value} (hw : ∀ d ∈ tables_1, d.before a0 Z = true) (hEL : EW Z a0 EL1) {zc : Int32} (Sc : Sta Z Z.heap "java/lang/String" "COMPACT_STRINGS" "Z" (.int zc)) (hzc : ¬ zc = 0) (a1 : Addr) (mc p2 : Int32) {de : Addr} {kd : ClassId} (h : Heap) (hX : Ext Z.heap h) (Sd : Sta Z Z.heap "java/util/ArrayList" "DEFAULTCAPACITY_EMPTY_ELEMENTDATA" "[Ljava/lang/Object;" (.ref de)) (Ad : Arv Z Z.heap de kd (.object "java/lang/Object") (0 : Int32) [] .null) (q2 : ¬ (10 : Int32) < p2) (g1 : Z.heap.size ≤ a1) (O1 : Obj Z h a1 "java/util/ArrayList" [(("java/util/AbstractList", "modCount", "I"), (.int mc)), (("java/util/ArrayList", "elementData", "[Ljava/lang/Object;"), (.ref de)), (("java/util/ArrayList", "size", "I"), (.int 0))]) : Met l Z EL1 NW (⟨"java/util/ArrayList", "grow", "(I)[Ljava/lang/Object;"⟩ : MethodName) jdk_38_method_6_code 4 (some (.array (.object "java/lang/Object"))) [] ({ frames := 1, cells := 1, slots := 10, locals := 40 } : Room) #[(.ref a1), (.int p2)] h [a1] (fun v h' => ∃ d k, v = some (.ref d) ∧ h.size ≤ d ∧ Obj Z h' a1 "java/util/ArrayList" [(("java/util/AbstractList", "modCount", "I"), (.int mc)), (("java/util/ArrayList", "elementData", "[Ljava/lang/Object;"), (.ref d)), (("java/util/ArrayList", "size", "I"), (.int 0))] ∧ Arv Z h' d k (.object "java/lang/Object") (10 : Int32) [.null, .null, .null, .null, .null, .null, .null, .null, .null, .null] .null ∧ Ovr Z k "java/lang/Object") := by
  refine Met.intro pf_6 hEL hX (allS ⟨g1, O1.lt⟩ all0) ?_
  intro p e s m below meth c T W
  refine Goes.cast (show entryFrame m #[(.ref a1), (.int p2)] 4 = mkF m 0 #[.val (.ref a1), .val (.int p2), .unset, .unset] [] by first | (simp [entryFrame, mkF, argsToLocals, Value.category]; done) | rfl) ?_
  refine g_aload_n W d_jdk_38_method_6_code_0 (pc' := 1) rfl rfl rfl ?_
  refine g_getfield W d_jdk_38_method_6_code_1 (pc' := 4) (host := "") rfl (Or.inl (hw _ (List.mem_of_getElem? (i := 60) rfl))) Via.refl (O1.get 1 rfl) fun T1 W2 => ?_
  refine g_arraylength W2 d_jdk_38_method_6_code_4 (pc' := 5) rfl (Ad.ext W2.ext) ?_
  refine g_istore_n W2 d_jdk_38_method_6_code_5 (pc' := 6) (L' := #[.val (.ref a1), .val (.int p2), .val (.int (0 : Int32)), .unset]) rfl rfl ?_
  refine g_iload_n W2 d_jdk_38_method_6_code_6 (pc' := 7) rfl rfl ?_
  refine g_ifN W2 d_jdk_38_method_6_code_7 (pc' := 10) rfl (Jvm.Free.XT.i0_gt_f (by decide)) ?_
  refine g_aload_n W2 d_jdk_38_method_6_code_10 (pc' := 11) rfl rfl rfl ?_
  refine g_getfield W2 d_jdk_38_method_6_code_11 (pc' := 14) (host := "") rfl (Or.inl (hw _ (List.mem_of_getElem? (i := 60) rfl))) Via.refl (O1.get 1 rfl) fun T3 W4 => ?_
  refine g_getstatic W4 d_jdk_38_method_6_code_14 (pc' := 17) rfl (hw _ (List.mem_of_getElem? (i := 59) rfl)) Via.refl Sd fun T5 W6 => ?_
  refine g_acmpY W6 d_jdk_38_method_6_code_17 (pc' := 45) (by decide) (by decide) rfl rfl (Jvm.Free.XT.aa_eq_t rfl) ?_
  refine g_aload_n W6 d_jdk_38_method_6_code_45 (pc' := 46) rfl rfl rfl ?_
  refine g_bipush W6 d_jdk_38_method_6_code_46 (pc' := 48) (v := (10 : Int32)) rfl (by decide) ?_
  refine g_iload_n W6 d_jdk_38_method_6_code_48 (pc' := 49) rfl rfl ?_
  refine g_static W6 d_jdk_38_method_6_code_49 (pc' := 52) (fr' := []) (argsL := [(.int (10 : Int32)), (.int p2)]) (rest := [(.ref a1)]) (Wd := 1) (kc := 0) (ks := 0) rfl (hw _ (List.mem_of_getElem? (i := 90) rfl)) (hw _ (List.mem_of_getElem? (i := 91) rfl)) (hw _ (List.mem_of_getElem? (i := 92) rfl)) (hw _ (List.mem_of_getElem? (i := 93) rfl)) (by decide) rfl rfl (lenOf pd_2 rfl) rfl all0 (by decide) (by decide) (Met.pays (rm_max hw hEL Sc hzc (10 : Int32) p2 _ W6.ext q2) (hw _ (List.mem_of_getElem? (i := 93) rfl)) (hw _ (List.mem_of_getElem? (i := 92) rfl)) hEL (by decide) (by decide)) fun v12 T7 h9 W8 K10 q11 => ?_
  obtain ⟨rfl, rfl⟩ := q11
  show Goes _ _ _ _ _ _ _ _ _ _ _ T7 (mkF m 52 #[.val (.ref a1), .val (.int p2), .val (.int (0 : Int32)), .unset] [(.int (10 : Int32)), (.ref a1)])
  refine g_anewarray W8 d_jdk_38_method_6_code_52 (pc' := 55) (cap := 10) (ad := "[Ljava/lang/Object;") rfl (hw _ (List.mem_of_getElem? (i := 94) rfl)) (hw _ (List.mem_of_getElem? (i := 95) rfl)) (by decide) (by decide) (by decide) (by decide +kernel) (by decide) (by decide) fun T13 h15 d kA19 g16 W14 E17 A18 X20 Ov21 => ?_
  have A22 : Arv Z h15 d kA19 (.object "java/lang/Object") (10 : Int32) [.null, .null, .null, .null, .null, .null, .null, .null, .null, .null] .null := A18.pad (pad_rep [] .null 10)
  have K24 : Keep h h15 [] := ((Keep.refl h []).ext E17)
  have F25 := O1.mv K24
  have ne23 : d ≠ a1 := (Exa.neArv F25.1 A22 (hw _ (List.mem_of_getElem? (i := 39) rfl))).symm
  refine g_dup_x1 W14 d_jdk_38_method_6_code_55 (pc' := 56) rfl rfl rfl ?_
  refine g_putfield W14 d_jdk_38_method_6_code_56 (pc' := 59) (host := "") (ty := (.array (.object "java/lang/Object"))) rfl (Or.inl (hw _ (List.mem_of_getElem? (i := 60) rfl))) Via.refl (F25.get 1 rfl) F25.1 (Or.inl (hw _ (List.mem_of_getElem? (i := 61) rfl))) (hw _ (List.mem_of_getElem? (i := 39) rfl)) (by decide) rfl rfl (List.mem_of_getElem? (i := 1) rfl) fun T26 h28 W27 R29 => ?_
  have O30 : Obj Z h28 a1 "java/util/ArrayList" [(("java/util/AbstractList", "modCount", "I"), (.int mc)), (("java/util/ArrayList", "elementData", "[Ljava/lang/Object;"), (.ref d)), (("java/util/ArrayList", "size", "I"), (.int 0))] := F25.put R29 1 rfl (dis_AL hw)
  have K31 : Keep h15 h28 [a1] := ((Keep.refl h15 [a1]).wr R29 (Or.inl (List.mem_of_getElem? (i := 0) rfl)))
  have F32 := A22.keep K31 (ninS ne23 nin0)
  have K33 : Keep h h28 [a1] := (((Keep.refl h [a1]).ext E17).wr R29 (Or.inl (List.mem_of_getElem? (i := 0) rfl)))
  exact g_areturn W27 d_jdk_38_method_6_code_59 rfl rfl rfl K33 ⟨_, _, rfl, Nat.le_of_eq g16.symm, O30, F32, Ov21⟩ (by decide) (by decide)
theorem d_jdk_38_method_7_code_0 : decode jdk_38_method_7_code 0 = .ok (.aload_n 0, 1) := by decide +kernel
theorem d_jdk_38_method_7_code_1 : decode jdk_38_method_7_code 1 = .ok (.aload_n 0, 1) := by decide +kernel
theorem d_jdk_38_method_7_code_2 : decode jdk_38_method_7_code 2 = .ok (.getfield 48, 3) := by decide +kernel
theorem d_jdk_38_method_7_code_5 : decode jdk_38_method_7_code 5 = .ok (.iconst 1, 1) := by decide +kernel
theorem d_jdk_38_method_7_code_6 : decode jdk_38_method_7_code 6 = .ok (.iadd, 1) := by decide +kernel
theorem d_jdk_38_method_7_code_7 : decode jdk_38_method_7_code 7 = .ok (.invokevirtual 69, 3) := by decide +kernel
theorem pd_3 : parseMethodDescriptor "(I)[Ljava/lang/Object;" = some ⟨[.int], some (.array (.object "java/lang/Object"))⟩ := by decide +kernel
theorem d_jdk_38_method_7_code_10 : decode jdk_38_method_7_code 10 = .ok (.areturn, 1) := by decide +kernel
theorem pf_7 : plainFor (⟨"java/util/ArrayList", "grow", "()[Ljava/lang/Object;"⟩ : MethodName) = true := by first | (exact plainFor_of_name (by first | (simp [plainName, overriddenIn]; done) | decide +kernel)) | decide +kernel
set_option maxRecDepth 65536 in
set_option maxHeartbeats 40000000 in
theorem rm_grow0 {l : Launch} {Z : State} {a0 : Array Value} (hw : ∀ d ∈ tables_1, d.before a0 Z = true) (hEL : EW Z a0 EL1) {zc : Int32} (Sc : Sta Z Z.heap "java/lang/String" "COMPACT_STRINGS" "Z" (.int zc)) (hzc : ¬ zc = 0) (a1 : Addr) (mc : Int32) {de : Addr} {kd : ClassId} (h : Heap) (hX : Ext Z.heap h) (Sd : Sta Z Z.heap "java/util/ArrayList" "DEFAULTCAPACITY_EMPTY_ELEMENTDATA" "[Ljava/lang/Object;" (.ref de)) (Ad : Arv Z Z.heap de kd (.object "java/lang/Object") (0 : Int32) [] .null) (g1 : Z.heap.size ≤ a1) (O1 : Obj Z h a1 "java/util/ArrayList" [(("java/util/AbstractList", "modCount", "I"), (.int mc)), (("java/util/ArrayList", "elementData", "[Ljava/lang/Object;"), (.ref de)), (("java/util/ArrayList", "size", "I"), (.int 0))]) : Met l Z EL1 NW (⟨"java/util/ArrayList", "grow", "()[Ljava/lang/Object;"⟩ : MethodName) jdk_38_method_7_code 1 (some (.array (.object "java/lang/Object"))) [] ({ frames := 2, cells := 1, slots := 10, locals := 60 } : Room) #[(.ref a1)] h [a1] (fun v h' => ∃ d k, v = some (.ref d) ∧ h.size ≤ d ∧ Obj Z h' a1 "java/util/ArrayList" [(("java/util/AbstractList", "modCount", "I"), (.int mc)), (("java/util/ArrayList", "elementData", "[Ljava/lang/Object;"), (.ref d)), (("java/util/ArrayList", "size", "I"), (.int 0))] ∧ Arv Z h' d k (.object "java/lang/Object") (10 : Int32) [.null, .null, .null, .null, .null, .null, .null, .null, .null, .null] .null ∧ Ovr Z k "java/lang/Object") := by
  refine Met.intro pf_7 hEL hX (allS ⟨g1, O1.lt⟩ all0) ?_
  intro p e s m below meth c T W
  refine Goes.cast (show entryFrame m #[(.ref a1)] 1 = mkF m 0 #[.val (.ref a1)] [] by first | (simp [entryFrame, mkF, argsToLocals, Value.category]; done) | rfl) ?_
  refine g_aload_n W d_jdk_38_method_7_code_0 (pc' := 1) rfl rfl rfl ?_
  refine g_aload_n W d_jdk_38_method_7_code_1 (pc' := 2) rfl rfl rfl ?_
  refine g_getfield W d_jdk_38_method_7_code_2 (pc' := 5) (host := "") rfl (Or.inl (hw _ (List.mem_of_getElem? (i := 73) rfl))) Via.refl (O1.get 2 rfl) fun T1 W2 => ?_
  refine g_iconst W2 d_jdk_38_method_7_code_5 (pc' := 6) (v := (1 : Int32)) rfl rfl ?_
  refine g_iadd W2 d_jdk_38_method_7_code_6 (pc' := 7) rfl ?_
  refine g_private W2 d_jdk_38_method_7_code_7 (pc' := 10) (a := a1) (fr' := [a1]) (argsL := [(.int ((0 : Int32) + (1 : Int32)))]) (rest := []) (Wd := 0) (kc := 1) (ks := 10) rfl (hw _ (List.mem_of_getElem? (i := 85) rfl)) (hw _ (List.mem_of_getElem? (i := 86) rfl)) (hw _ (List.mem_of_getElem? (i := 88) rfl)) (hw _ (List.mem_of_getElem? (i := 87) rfl)) (hw _ (List.mem_of_getElem? (i := 89) rfl)) (by decide) O1.1 rfl rfl (lenOf pd_3 rfl) rfl (allS (List.mem_of_getElem? (i := 0) rfl) (all0)) (by decide) (by decide) (Met.pays (rm_grow1 hw hEL Sc hzc a1 mc ((0 : Int32) + (1 : Int32)) _ W2.ext Sd Ad (by decide) g1 O1) (hw _ (List.mem_of_getElem? (i := 89) rfl)) (hw _ (List.mem_of_getElem? (i := 40) rfl)) hEL (by decide) (by decide)) fun v8 T3 h5 W4 K6 q7 => ?_
  obtain ⟨d, k, rfl, gd, O2, A2, Ov⟩ := q7
  show Goes _ _ _ _ _ _ _ _ _ _ _ T3 (mkF m 10 #[.val (.ref a1)] [(.ref d)])
  have K9 : Keep h h5 [a1] := ((Keep.refl h [a1]).trans K6 fun x q => by cases List.mem_singleton.mp q; exact Or.inl (List.mem_of_getElem? (i := 0) rfl))
  exact g_areturn W4 d_jdk_38_method_7_code_10 rfl rfl rfl K9 ⟨_, _, rfl, gd, O2, A2, Ov⟩ (by decide) (by decide)
theorem d_jdk_38_method_24_code_0 : decode jdk_38_method_24_code 0 = .ok (.iload_n 3, 1) := by decide +kernel
theorem d_jdk_38_method_24_code_1 : decode jdk_38_method_24_code 1 = .ok (.aload_n 2, 1) := by decide +kernel
theorem d_jdk_38_method_24_code_2 : decode jdk_38_method_24_code 2 = .ok (.arraylength, 1) := by decide +kernel
theorem d_jdk_38_method_24_code_3 : decode jdk_38_method_24_code 3 = .ok (.if_icmp .ne 8, 3) := by decide +kernel
theorem d_jdk_38_method_24_code_6 : decode jdk_38_method_24_code 6 = .ok (.aload_n 0, 1) := by decide +kernel
theorem d_jdk_38_method_24_code_7 : decode jdk_38_method_24_code 7 = .ok (.invokevirtual 129, 3) := by decide +kernel
theorem pd_4 : parseMethodDescriptor "()[Ljava/lang/Object;" = some ⟨[], some (.array (.object "java/lang/Object"))⟩ := by decide +kernel
theorem d_jdk_38_method_24_code_10 : decode jdk_38_method_24_code 10 = .ok (.astore_n 2, 1) := by decide +kernel
theorem d_jdk_38_method_24_code_11 : decode jdk_38_method_24_code 11 = .ok (.aload_n 2, 1) := by decide +kernel
theorem d_jdk_38_method_24_code_12 : decode jdk_38_method_24_code 12 = .ok (.iload_n 3, 1) := by decide +kernel
theorem d_jdk_38_method_24_code_13 : decode jdk_38_method_24_code 13 = .ok (.aload_n 1, 1) := by decide +kernel
theorem d_jdk_38_method_24_code_14 : decode jdk_38_method_24_code 14 = .ok (.aastore, 1) := by decide +kernel
theorem d_jdk_38_method_24_code_15 : decode jdk_38_method_24_code 15 = .ok (.aload_n 0, 1) := by decide +kernel
theorem d_jdk_38_method_24_code_16 : decode jdk_38_method_24_code 16 = .ok (.iload_n 3, 1) := by decide +kernel
theorem d_jdk_38_method_24_code_17 : decode jdk_38_method_24_code 17 = .ok (.iconst 1, 1) := by decide +kernel
theorem d_jdk_38_method_24_code_18 : decode jdk_38_method_24_code 18 = .ok (.iadd, 1) := by decide +kernel
theorem d_jdk_38_method_24_code_19 : decode jdk_38_method_24_code 19 = .ok (.putfield 48, 3) := by decide +kernel
theorem d_jdk_38_method_24_code_22 : decode jdk_38_method_24_code 22 = .ok (.return_, 1) := by decide +kernel
theorem pf_8 : plainFor (⟨"java/util/ArrayList", "add", "(Ljava/lang/Object;[Ljava/lang/Object;I)V"⟩ : MethodName) = true := by first | (exact plainFor_of_name (by first | (simp [plainName, overriddenIn]; done) | decide +kernel)) | decide +kernel
set_option maxRecDepth 65536 in
set_option maxHeartbeats 40000000 in
theorem rm_add3f {l : Launch} {Z : State} {a0 : Array Value} (hw : ∀ d ∈ tables_1, d.before a0 Z = true) (hEL : EW Z a0 EL1) {zc : Int32} (Sc : Sta Z Z.heap "java/lang/String" "COMPACT_STRINGS" "Z" (.int zc)) (hzc : ¬ zc = 0) (a1 x : Addr) (mc : Int32) {de : Addr} {kd : ClassId} (h : Heap) (hX : Ext Z.heap h) (Sd : Sta Z Z.heap "java/util/ArrayList" "DEFAULTCAPACITY_EMPTY_ELEMENTDATA" "[Ljava/lang/Object;" (.ref de)) (Ad : Arv Z Z.heap de kd (.object "java/lang/Object") (0 : Int32) [] .null) (g1 : Z.heap.size ≤ a1) (I1 : Ins Z h x "java/lang/Object" true) (O1 : Obj Z h a1 "java/util/ArrayList" [(("java/util/AbstractList", "modCount", "I"), (.int mc)), (("java/util/ArrayList", "elementData", "[Ljava/lang/Object;"), (.ref de)), (("java/util/ArrayList", "size", "I"), (.int 0))]) : Met l Z EL1 NW (⟨"java/util/ArrayList", "add", "(Ljava/lang/Object;[Ljava/lang/Object;I)V"⟩ : MethodName) jdk_38_method_24_code 4 none [] ({ frames := 3, cells := 1, slots := 10, locals := 80 } : Room) #[(.ref a1), (.ref x), (.ref de), (.int (0 : Int32))] h [a1] (fun v h' => v = none ∧ ∃ d k, h.size ≤ d ∧ Obj Z h' a1 "java/util/ArrayList" [(("java/util/AbstractList", "modCount", "I"), (.int mc)), (("java/util/ArrayList", "elementData", "[Ljava/lang/Object;"), (.ref d)), (("java/util/ArrayList", "size", "I"), (.int (1 : Int32)))] ∧ Arv Z h' d k (.object "java/lang/Object") (10 : Int32) [.ref x, .null, .null, .null, .null, .null, .null, .null, .null, .null] .null ∧ Ovr Z k "java/lang/Object") := by
  refine Met.intro pf_8 hEL hX (allS ⟨g1, O1.lt⟩ all0) ?_
  intro p e s m below meth c T W
  refine Goes.cast (show entryFrame m #[(.ref a1), (.ref x), (.ref de), (.int (0 : Int32))] 4 = mkF m 0 #[.val (.ref a1), .val (.ref x), .val (.ref de), .val (.int (0 : Int32))] [] by first | (simp [entryFrame, mkF, argsToLocals, Value.category]; done) | rfl) ?_
  refine g_iload_n W d_jdk_38_method_24_code_0 (pc' := 1) rfl rfl ?_
  refine g_aload_n W d_jdk_38_method_24_code_1 (pc' := 2) rfl rfl rfl ?_
  refine g_arraylength W d_jdk_38_method_24_code_2 (pc' := 3) rfl (Ad.ext W.ext) ?_
  refine g_icmpN W d_jdk_38_method_24_code_3 (pc' := 6) rfl (Jvm.Free.XT.ii_ne_f rfl) ?_
  refine g_aload_n W d_jdk_38_method_24_code_6 (pc' := 7) rfl rfl rfl ?_
  refine g_private W d_jdk_38_method_24_code_7 (pc' := 10) (a := a1) (fr' := [a1]) (argsL := []) (rest := []) (Wd := 0) (kc := 1) (ks := 10) rfl (hw _ (List.mem_of_getElem? (i := 80) rfl)) (hw _ (List.mem_of_getElem? (i := 81) rfl)) (hw _ (List.mem_of_getElem? (i := 83) rfl)) (hw _ (List.mem_of_getElem? (i := 82) rfl)) (hw _ (List.mem_of_getElem? (i := 84) rfl)) (by decide) O1.1 rfl rfl (lenOf pd_4 rfl) rfl (allS (List.mem_of_getElem? (i := 0) rfl) (all0)) (by decide) (by decide) (Met.pays (rm_grow0 hw hEL Sc hzc a1 mc _ W.ext Sd Ad g1 O1) (hw _ (List.mem_of_getElem? (i := 84) rfl)) (hw _ (List.mem_of_getElem? (i := 40) rfl)) hEL (by decide) (by decide)) fun v6 T1 h3 W2 K4 q5 => ?_
  obtain ⟨d, k, rfl, gd, O2, A2, Ov⟩ := q5
  show Goes _ _ _ _ _ _ _ _ _ _ _ T1 (mkF m 10 #[.val (.ref a1), .val (.ref x), .val (.ref de), .val (.int (0 : Int32))] [(.ref d)])
  have W7 := W2.addArv A2 (by decide) (Nat.le_trans hX.1 gd)
  have ne8 : d ≠ a1 := (Exa.neArv O2.1 A2 (hw _ (List.mem_of_getElem? (i := 39) rfl))).symm
  refine g_astore_n W7 d_jdk_38_method_24_code_10 (pc' := 11) (L' := #[.val (.ref a1), .val (.ref x), .val (.ref d), .val (.int (0 : Int32))]) rfl rfl rfl ?_
  refine g_aload_n W7 d_jdk_38_method_24_code_11 (pc' := 12) rfl rfl rfl ?_
  refine g_iload_n W7 d_jdk_38_method_24_code_12 (pc' := 13) rfl rfl ?_
  refine g_aload_n W7 d_jdk_38_method_24_code_13 (pc' := 14) rfl rfl rfl ?_
  refine g_aastore W7 d_jdk_38_method_24_code_14 (pc' := 15) (i := 0) rfl A2 Ov (I1.keepK K4) ⟨by decide, by decide⟩ (by decide) (Nat.le_of_ble_eq_true rfl) (List.mem_of_getElem? (i := 0) rfl) fun T9 h11 W10 R12 A13 => ?_
  have A14 : Arv Z h11 d k (.object "java/lang/Object") (10 : Int32) [.ref x, .null, .null, .null, .null, .null, .null, .null, .null, .null] .null := A13
  refine g_aload_n W10 d_jdk_38_method_24_code_15 (pc' := 16) rfl rfl rfl ?_
  refine g_iload_n W10 d_jdk_38_method_24_code_16 (pc' := 17) rfl rfl ?_
  refine g_iconst W10 d_jdk_38_method_24_code_17 (pc' := 18) (v := (1 : Int32)) rfl rfl ?_
  refine g_iadd W10 d_jdk_38_method_24_code_18 (pc' := 19) rfl ?_
  have K20 : Keep h3 h11 [d] := ((Keep.refl h3 [d]).wr R12 (Or.inl (List.mem_of_getElem? (i := 0) rfl)))
  have F21 := O2.keep K20 (ninS (Ne.symm ne8) nin0)
  refine g_putfield W10 d_jdk_38_method_24_code_19 (pc' := 22) (host := "") (ty := .int) rfl (Or.inl (hw _ (List.mem_of_getElem? (i := 73) rfl))) Via.refl (F21.get 2 rfl) F21.1 (Or.inl (hw _ (List.mem_of_getElem? (i := 74) rfl))) (hw _ (List.mem_of_getElem? (i := 39) rfl)) (by decide) rfl rfl (List.mem_of_getElem? (i := 1) rfl) fun T15 h17 W16 R18 => ?_
  have O19 : Obj Z h17 a1 "java/util/ArrayList" [(("java/util/AbstractList", "modCount", "I"), (.int mc)), (("java/util/ArrayList", "elementData", "[Ljava/lang/Object;"), (.ref d)), (("java/util/ArrayList", "size", "I"), (.int ((0 : Int32) + (1 : Int32))))] := F21.put R18 2 rfl (dis_AL hw)
  have K22 : Keep h11 h17 [a1] := ((Keep.refl h11 [a1]).wr R18 (Or.inl (List.mem_of_getElem? (i := 0) rfl)))
  have F23 := A14.keep K22 (ninS ne8 nin0)
  have K24 : Keep h h17 [a1] := ((((Keep.refl h [a1]).trans K4 fun x q => by cases List.mem_singleton.mp q; exact Or.inl (List.mem_of_getElem? (i := 0) rfl)).wr R12 (Or.inr gd)).wr R18 (Or.inl (List.mem_of_getElem? (i := 0) rfl)))
  exact g_return W16 d_jdk_38_method_24_code_22 K24 ⟨rfl, _, _, gd, O19, F23, Ov⟩ (by decide) (by decide)
theorem d_jdk_38_method_25_code_0 : decode jdk_38_method_25_code 0 = .ok (.aload_n 0, 1) := by decide +kernel
theorem d_jdk_38_method_25_code_1 : decode jdk_38_method_25_code 1 = .ok (.dup, 1) := by decide +kernel
theorem d_jdk_38_method_25_code_2 : decode jdk_38_method_25_code 2 = .ok (.getfield 63, 3) := by decide +kernel
theorem d_jdk_38_method_25_code_5 : decode jdk_38_method_25_code 5 = .ok (.iconst 1, 1) := by decide +kernel
theorem d_jdk_38_method_25_code_6 : decode jdk_38_method_25_code 6 = .ok (.iadd, 1) := by decide +kernel
theorem d_jdk_38_method_25_code_7 : decode jdk_38_method_25_code 7 = .ok (.putfield 63, 3) := by decide +kernel
theorem d_jdk_38_method_25_code_10 : decode jdk_38_method_25_code 10 = .ok (.aload_n 0, 1) := by decide +kernel
theorem d_jdk_38_method_25_code_11 : decode jdk_38_method_25_code 11 = .ok (.aload_n 1, 1) := by decide +kernel
theorem d_jdk_38_method_25_code_12 : decode jdk_38_method_25_code 12 = .ok (.aload_n 0, 1) := by decide +kernel
theorem d_jdk_38_method_25_code_13 : decode jdk_38_method_25_code 13 = .ok (.getfield 9, 3) := by decide +kernel
theorem d_jdk_38_method_25_code_16 : decode jdk_38_method_25_code 16 = .ok (.aload_n 0, 1) := by decide +kernel
theorem d_jdk_38_method_25_code_17 : decode jdk_38_method_25_code 17 = .ok (.getfield 48, 3) := by decide +kernel
theorem d_jdk_38_method_25_code_20 : decode jdk_38_method_25_code 20 = .ok (.invokevirtual 131, 3) := by decide +kernel
theorem pd_5 : parseMethodDescriptor "(Ljava/lang/Object;[Ljava/lang/Object;I)V" = some ⟨[(.object "java/lang/Object"), (.array (.object "java/lang/Object")), .int], none⟩ := by decide +kernel
theorem d_jdk_38_method_25_code_23 : decode jdk_38_method_25_code 23 = .ok (.iconst 1, 1) := by decide +kernel
theorem d_jdk_38_method_25_code_24 : decode jdk_38_method_25_code 24 = .ok (.ireturn, 1) := by decide +kernel
theorem pf_9 : plainFor (⟨"java/util/ArrayList", "add", "(Ljava/lang/Object;)Z"⟩ : MethodName) = true := by first | (exact plainFor_of_name (by first | (simp [plainName, overriddenIn]; done) | decide +kernel)) | decide +kernel
set_option maxRecDepth 65536 in
set_option maxHeartbeats 40000000 in
theorem rm_addf {l : Launch} {Z : State} {a0 : Array Value} (hw : ∀ d ∈ tables_1, d.before a0 Z = true) (hEL : EW Z a0 EL1) {zc : Int32} (Sc : Sta Z Z.heap "java/lang/String" "COMPACT_STRINGS" "Z" (.int zc)) (hzc : ¬ zc = 0) (a1 x : Addr) {de : Addr} {kd : ClassId} (h : Heap) (hX : Ext Z.heap h) (Sd : Sta Z Z.heap "java/util/ArrayList" "DEFAULTCAPACITY_EMPTY_ELEMENTDATA" "[Ljava/lang/Object;" (.ref de)) (Ad : Arv Z Z.heap de kd (.object "java/lang/Object") (0 : Int32) [] .null) (g1 : Z.heap.size ≤ a1) (I1 : Ins Z h x "java/lang/Object" true) (O1 : Obj Z h a1 "java/util/ArrayList" [(("java/util/AbstractList", "modCount", "I"), (.int 0)), (("java/util/ArrayList", "elementData", "[Ljava/lang/Object;"), (.ref de)), (("java/util/ArrayList", "size", "I"), (.int 0))]) : Met l Z EL1 NW (⟨"java/util/ArrayList", "add", "(Ljava/lang/Object;)Z"⟩ : MethodName) jdk_38_method_25_code 2 (some .boolean) [] ({ frames := 4, cells := 1, slots := 10, locals := 110 } : Room) #[(.ref a1), (.ref x)] h [a1] (fun v h' => v = some (.int 1) ∧ ∃ d k, h.size ≤ d ∧ Obj Z h' a1 "java/util/ArrayList" [(("java/util/AbstractList", "modCount", "I"), (.int (1 : Int32))), (("java/util/ArrayList", "elementData", "[Ljava/lang/Object;"), (.ref d)), (("java/util/ArrayList", "size", "I"), (.int (1 : Int32)))] ∧ Arv Z h' d k (.object "java/lang/Object") (10 : Int32) [.ref x, .null, .null, .null, .null, .null, .null, .null, .null, .null] .null ∧ Ovr Z k "java/lang/Object") := by
  refine Met.intro pf_9 hEL hX (allS ⟨g1, O1.lt⟩ all0) ?_
  intro p e s m below meth c T W
  refine Goes.cast (show entryFrame m #[(.ref a1), (.ref x)] 2 = mkF m 0 #[.val (.ref a1), .val (.ref x)] [] by first | (simp [entryFrame, mkF, argsToLocals, Value.category]; done) | rfl) ?_
  refine g_aload_n W d_jdk_38_method_25_code_0 (pc' := 1) rfl rfl rfl ?_
  refine g_dup W d_jdk_38_method_25_code_1 (pc' := 2) rfl rfl ?_
  refine g_getfield W d_jdk_38_method_25_code_2 (pc' := 5) (host := "") rfl (Or.inl (hw _ (List.mem_of_getElem? (i := 71) rfl))) (Via.of (hw _ (List.mem_of_getElem? (i := 72) rfl))) (O1.get 0 rfl) fun T1 W2 => ?_
  refine g_iconst W2 d_jdk_38_method_25_code_5 (pc' := 6) (v := (1 : Int32)) rfl rfl ?_
  refine g_iadd W2 d_jdk_38_method_25_code_6 (pc' := 7) rfl ?_
  refine g_putfield W2 d_jdk_38_method_25_code_7 (pc' := 10) (host := "") (ty := .int) rfl (Or.inl (hw _ (List.mem_of_getElem? (i := 71) rfl))) (Via.of (hw _ (List.mem_of_getElem? (i := 72) rfl))) (O1.get 0 rfl) O1.1 (Or.inl (hw _ (List.mem_of_getElem? (i := 58) rfl))) (hw _ (List.mem_of_getElem? (i := 39) rfl)) (by decide) rfl rfl (List.mem_of_getElem? (i := 0) rfl) fun T3 h5 W4 R6 => ?_
  have O7 : Obj Z h5 a1 "java/util/ArrayList" [(("java/util/AbstractList", "modCount", "I"), (.int (1 : Int32))), (("java/util/ArrayList", "elementData", "[Ljava/lang/Object;"), (.ref de)), (("java/util/ArrayList", "size", "I"), (.int 0))] := O1.put R6 0 rfl (dis_AL hw)
  refine g_aload_n W4 d_jdk_38_method_25_code_10 (pc' := 11) rfl rfl rfl ?_
  refine g_aload_n W4 d_jdk_38_method_25_code_11 (pc' := 12) rfl rfl rfl ?_
  refine g_aload_n W4 d_jdk_38_method_25_code_12 (pc' := 13) rfl rfl rfl ?_
  refine g_getfield W4 d_jdk_38_method_25_code_13 (pc' := 16) (host := "") rfl (Or.inl (hw _ (List.mem_of_getElem? (i := 60) rfl))) Via.refl (O7.get 1 rfl) fun T8 W9 => ?_
  refine g_aload_n W9 d_jdk_38_method_25_code_16 (pc' := 17) rfl rfl rfl ?_
  refine g_getfield W9 d_jdk_38_method_25_code_17 (pc' := 20) (host := "") rfl (Or.inl (hw _ (List.mem_of_getElem? (i := 73) rfl))) Via.refl (O7.get 2 rfl) fun T10 W11 => ?_
  refine g_private W11 d_jdk_38_method_25_code_20 (pc' := 23) (a := a1) (fr' := [a1]) (argsL := [(.ref x), (.ref de), (.int (0 : Int32))]) (rest := []) (Wd := 0) (kc := 1) (ks := 10) rfl (hw _ (List.mem_of_getElem? (i := 75) rfl)) (hw _ (List.mem_of_getElem? (i := 76) rfl)) (hw _ (List.mem_of_getElem? (i := 78) rfl)) (hw _ (List.mem_of_getElem? (i := 77) rfl)) (hw _ (List.mem_of_getElem? (i := 79) rfl)) (by decide) O7.1 rfl rfl (lenOf pd_5 rfl) rfl (allS (List.mem_of_getElem? (i := 0) rfl) (all0)) (by decide) (by decide) (Met.pays (rm_add3f hw hEL Sc hzc a1 x (1 : Int32) _ W11.ext Sd Ad g1 (I1.keepK (Keep.of_wr R6)) O7) (hw _ (List.mem_of_getElem? (i := 79) rfl)) (hw _ (List.mem_of_getElem? (i := 40) rfl)) hEL (by decide) (by decide)) fun v17 T12 h14 W13 K15 q16 => ?_
  have K18 : Keep h h5 [a1] := ((Keep.refl h [a1]).wr R6 (Or.inl (List.mem_of_getElem? (i := 0) rfl)))
  obtain ⟨rfl, d, k, gd, O2, A2, Ov⟩ := q16
  show Goes _ _ _ _ _ _ _ _ _ _ _ T12 (mkF m 23 #[.val (.ref a1), .val (.ref x)] [])
  refine g_iconst W13 d_jdk_38_method_25_code_23 (pc' := 24) (v := (1 : Int32)) rfl rfl ?_
  have K19 : Keep h h14 [a1] := (((Keep.refl h [a1]).wr R6 (Or.inl (List.mem_of_getElem? (i := 0) rfl))).trans K15 fun x q => by cases List.mem_singleton.mp q; exact Or.inl (List.mem_of_getElem? (i := 0) rfl))
  exact g_ireturn W13 d_jdk_38_method_25_code_24 (by decide) rfl K19 ⟨rfl, _, _, Nat.le_trans K18.1 gd, O2, A2, Ov⟩ (by decide) (by decide)
set_option maxRecDepth 65536 in
set_option maxHeartbeats 40000000 in
theorem rm_add3_1 {l : Launch} {Z : State} {a0 : Array Value} (hw : ∀ d ∈ tables_1, d.before a0 Z = true) (hEL : EW Z a0 EL1) {zc : Int32} (Sc : Sta Z Z.heap "java/lang/String" "COMPACT_STRINGS" "Z" (.int zc)) (hzc : ¬ zc = 0) (a1 x d : Addr) (k : ClassId) (mc : Int32) (u0 : Value) (h : Heap) (hX : Ext Z.heap h) (g1 : Z.heap.size ≤ a1) (gd : Z.heap.size ≤ d) (I1 : Ins Z h x "java/lang/Object" true) (O1 : Obj Z h a1 "java/util/ArrayList" [(("java/util/AbstractList", "modCount", "I"), (.int mc)), (("java/util/ArrayList", "elementData", "[Ljava/lang/Object;"), (.ref d)), (("java/util/ArrayList", "size", "I"), (.int (1 : Int32)))]) (A1 : Arv Z h d k (.object "java/lang/Object") (10 : Int32) [u0, .null, .null, .null, .null, .null, .null, .null, .null, .null] .null) (Ov : Ovr Z k "java/lang/Object") : Met l Z EL1 NW (⟨"java/util/ArrayList", "add", "(Ljava/lang/Object;[Ljava/lang/Object;I)V"⟩ : MethodName) jdk_38_method_24_code 4 none [] ({ frames := 0, cells := 0, slots := 0, locals := 0 } : Room) #[(.ref a1), (.ref x), (.ref d), (.int (1 : Int32))] h [a1, d] (fun v h' => v = none ∧ Obj Z h' a1 "java/util/ArrayList" [(("java/util/AbstractList", "modCount", "I"), (.int mc)), (("java/util/ArrayList", "elementData", "[Ljava/lang/Object;"), (.ref d)), (("java/util/ArrayList", "size", "I"), (.int (2 : Int32)))] ∧ Arv Z h' d k (.object "java/lang/Object") (10 : Int32) [u0, .ref x, .null, .null, .null, .null, .null, .null, .null, .null] .null) := by
  refine Met.intro pf_8 hEL hX (allS ⟨g1, O1.lt⟩ (allS ⟨gd, A1.lt⟩ all0)) ?_
  intro p e s m below meth c T W
  refine Goes.cast (show entryFrame m #[(.ref a1), (.ref x), (.ref d), (.int (1 : Int32))] 4 = mkF m 0 #[.val (.ref a1), .val (.ref x), .val (.ref d), .val (.int (1 : Int32))] [] by first | (simp [entryFrame, mkF, argsToLocals, Value.category]; done) | rfl) ?_
  have ne1 : d ≠ a1 := (Exa.neArv O1.1 A1 (hw _ (List.mem_of_getElem? (i := 39) rfl))).symm
  refine g_iload_n W d_jdk_38_method_24_code_0 (pc' := 1) rfl rfl ?_
  refine g_aload_n W d_jdk_38_method_24_code_1 (pc' := 2) rfl rfl rfl ?_
  refine g_arraylength W d_jdk_38_method_24_code_2 (pc' := 3) rfl A1 ?_
  refine g_icmpY W d_jdk_38_method_24_code_3 (pc' := 11) (by decide) (by decide) (Jvm.Free.XT.ii_ne_t (by decide)) ?_
  refine g_aload_n W d_jdk_38_method_24_code_11 (pc' := 12) rfl rfl rfl ?_
  refine g_iload_n W d_jdk_38_method_24_code_12 (pc' := 13) rfl rfl ?_
  refine g_aload_n W d_jdk_38_method_24_code_13 (pc' := 14) rfl rfl rfl ?_
  refine g_aastore W d_jdk_38_method_24_code_14 (pc' := 15) (i := 1) rfl A1 Ov I1 ⟨by decide, by decide⟩ (by decide) (Nat.le_of_ble_eq_true rfl) (List.mem_of_getElem? (i := 1) rfl) fun T2 h4 W3 R5 A6 => ?_
  have A7 : Arv Z h4 d k (.object "java/lang/Object") (10 : Int32) [u0, .ref x, .null, .null, .null, .null, .null, .null, .null, .null] .null := A6
  refine g_aload_n W3 d_jdk_38_method_24_code_15 (pc' := 16) rfl rfl rfl ?_
  refine g_iload_n W3 d_jdk_38_method_24_code_16 (pc' := 17) rfl rfl ?_
  refine g_iconst W3 d_jdk_38_method_24_code_17 (pc' := 18) (v := (1 : Int32)) rfl rfl ?_
  refine g_iadd W3 d_jdk_38_method_24_code_18 (pc' := 19) rfl ?_
  have K13 : Keep h h4 [d] := ((Keep.refl h [d]).wr R5 (Or.inl (List.mem_of_getElem? (i := 0) rfl)))
  have F14 := O1.keep K13 (ninS (Ne.symm ne1) nin0)
  refine g_putfield W3 d_jdk_38_method_24_code_19 (pc' := 22) (host := "") (ty := .int) rfl (Or.inl (hw _ (List.mem_of_getElem? (i := 73) rfl))) Via.refl (F14.get 2 rfl) F14.1 (Or.inl (hw _ (List.mem_of_getElem? (i := 74) rfl))) (hw _ (List.mem_of_getElem? (i := 39) rfl)) (by decide) rfl rfl (List.mem_of_getElem? (i := 0) rfl) fun T8 h10 W9 R11 => ?_
  have O12 : Obj Z h10 a1 "java/util/ArrayList" [(("java/util/AbstractList", "modCount", "I"), (.int mc)), (("java/util/ArrayList", "elementData", "[Ljava/lang/Object;"), (.ref d)), (("java/util/ArrayList", "size", "I"), (.int ((1 : Int32) + (1 : Int32))))] := F14.put R11 2 rfl (dis_AL hw)
  have K15 : Keep h4 h10 [a1] := ((Keep.refl h4 [a1]).wr R11 (Or.inl (List.mem_of_getElem? (i := 0) rfl)))
  have F16 := A7.keep K15 (ninS ne1 nin0)
  have K17 : Keep h h10 [a1, d] := (((Keep.refl h [a1, d]).wr R5 (Or.inl (List.mem_of_getElem? (i := 1) rfl))).wr R11 (Or.inl (List.mem_of_getElem? (i := 0) rfl)))
  exact g_return W9 d_jdk_38_method_24_code_22 K17 ⟨rfl, O12, F16⟩ (by decide) (by decide)
set_option maxRecDepth 65536 in
set_option maxHeartbeats 40000000 in
theorem rm_add_1 {l : Launch} {Z : State} {a0 : Array Value} (hw : ∀ d ∈ tables_1, d.before a0 Z = true) (hEL : EW Z a0 EL1) {zc : Int32} (Sc : Sta Z Z.heap "java/lang/String" "COMPACT_STRINGS" "Z" (.int zc)) (hzc : ¬ zc = 0) (a1 x d : Addr) (k : ClassId) (u0 : Value) (h : Heap) (hX : Ext Z.heap h) (g1 : Z.heap.size ≤ a1) (gd : Z.heap.size ≤ d) (I1 : Ins Z h x "java/lang/Object" true) (O1 : Obj Z h a1 "java/util/ArrayList" [(("java/util/AbstractList", "modCount", "I"), (.int (1 : Int32))), (("java/util/ArrayList", "elementData", "[Ljava/lang/Object;"), (.ref d)), (("java/util/ArrayList", "size", "I"), (.int (1 : Int32)))]) (A1 : Arv Z h d k (.object "java/lang/Object") (10 : Int32) [u0, .null, .null, .null, .null, .null, .null, .null, .null, .null] .null) (Ov : Ovr Z k "java/lang/Object") : Met l Z EL1 NW (⟨"java/util/ArrayList", "add", "(Ljava/lang/Object;)Z"⟩ : MethodName) jdk_38_method_25_code 2 (some .boolean) [] ({ frames := 1, cells := 0, slots := 0, locals := 40 } : Room) #[(.ref a1), (.ref x)] h [a1, d] (fun v h' => v = some (.int 1) ∧ Obj Z h' a1 "java/util/ArrayList" [(("java/util/AbstractList", "modCount", "I"), (.int (2 : Int32))), (("java/util/ArrayList", "elementData", "[Ljava/lang/Object;"), (.ref d)), (("java/util/ArrayList", "size", "I"), (.int (2 : Int32)))] ∧ Arv Z h' d k (.object "java/lang/Object") (10 : Int32) [u0, .ref x, .null, .null, .null, .null, .null, .null, .null, .null] .null) := by
  refine Met.intro pf_9 hEL hX (allS ⟨g1, O1.lt⟩ (allS ⟨gd, A1.lt⟩ all0)) ?_
  intro p e s m below meth c T W
  refine Goes.cast (show entryFrame m #[(.ref a1), (.ref x)] 2 = mkF m 0 #[.val (.ref a1), .val (.ref x)] [] by first | (simp [entryFrame, mkF, argsToLocals, Value.category]; done) | rfl) ?_
  have ne1 : d ≠ a1 := (Exa.neArv O1.1 A1 (hw _ (List.mem_of_getElem? (i := 39) rfl))).symm
  refine g_aload_n W d_jdk_38_method_25_code_0 (pc' := 1) rfl rfl rfl ?_
  refine g_dup W d_jdk_38_method_25_code_1 (pc' := 2) rfl rfl ?_
  refine g_getfield W d_jdk_38_method_25_code_2 (pc' := 5) (host := "") rfl (Or.inl (hw _ (List.mem_of_getElem? (i := 71) rfl))) (Via.of (hw _ (List.mem_of_getElem? (i := 72) rfl))) (O1.get 0 rfl) fun T2 W3 => ?_
  refine g_iconst W3 d_jdk_38_method_25_code_5 (pc' := 6) (v := (1 : Int32)) rfl rfl ?_
  refine g_iadd W3 d_jdk_38_method_25_code_6 (pc' := 7) rfl ?_
  refine g_putfield W3 d_jdk_38_method_25_code_7 (pc' := 10) (host := "") (ty := .int) rfl (Or.inl (hw _ (List.mem_of_getElem? (i := 71) rfl))) (Via.of (hw _ (List.mem_of_getElem? (i := 72) rfl))) (O1.get 0 rfl) O1.1 (Or.inl (hw _ (List.mem_of_getElem? (i := 58) rfl))) (hw _ (List.mem_of_getElem? (i := 39) rfl)) (by decide) rfl rfl (List.mem_of_getElem? (i := 0) rfl) fun T4 h6 W5 R7 => ?_
  have O8 : Obj Z h6 a1 "java/util/ArrayList" [(("java/util/AbstractList", "modCount", "I"), (.int (2 : Int32))), (("java/util/ArrayList", "elementData", "[Ljava/lang/Object;"), (.ref d)), (("java/util/ArrayList", "size", "I"), (.int (1 : Int32)))] := O1.put R7 0 rfl (dis_AL hw)
  refine g_aload_n W5 d_jdk_38_method_25_code_10 (pc' := 11) rfl rfl rfl ?_
  refine g_aload_n W5 d_jdk_38_method_25_code_11 (pc' := 12) rfl rfl rfl ?_
  refine g_aload_n W5 d_jdk_38_method_25_code_12 (pc' := 13) rfl rfl rfl ?_
  refine g_getfield W5 d_jdk_38_method_25_code_13 (pc' := 16) (host := "") rfl (Or.inl (hw _ (List.mem_of_getElem? (i := 60) rfl))) Via.refl (O8.get 1 rfl) fun T9 W10 => ?_
  refine g_aload_n W10 d_jdk_38_method_25_code_16 (pc' := 17) rfl rfl rfl ?_
  refine g_getfield W10 d_jdk_38_method_25_code_17 (pc' := 20) (host := "") rfl (Or.inl (hw _ (List.mem_of_getElem? (i := 73) rfl))) Via.refl (O8.get 2 rfl) fun T11 W12 => ?_
  have K19 : Keep h h6 [a1] := ((Keep.refl h [a1]).wr R7 (Or.inl (List.mem_of_getElem? (i := 0) rfl)))
  have F20 := A1.keep K19 (ninS ne1 nin0)
  refine g_private W12 d_jdk_38_method_25_code_20 (pc' := 23) (a := a1) (fr' := [a1, d]) (argsL := [(.ref x), (.ref d), (.int (1 : Int32))]) (rest := []) (Wd := 0) (kc := 0) (ks := 0) rfl (hw _ (List.mem_of_getElem? (i := 75) rfl)) (hw _ (List.mem_of_getElem? (i := 76) rfl)) (hw _ (List.mem_of_getElem? (i := 78) rfl)) (hw _ (List.mem_of_getElem? (i := 77) rfl)) (hw _ (List.mem_of_getElem? (i := 79) rfl)) (by decide) O8.1 rfl rfl (lenOf pd_5 rfl) rfl (allS (List.mem_of_getElem? (i := 0) rfl) (allS (List.mem_of_getElem? (i := 1) rfl) (all0))) (by decide) (by decide) (Met.pays (rm_add3_1 hw hEL Sc hzc a1 x d k (2 : Int32) u0 _ W12.ext g1 gd (I1.keepK (Keep.of_wr R7)) O8 F20 Ov) (hw _ (List.mem_of_getElem? (i := 79) rfl)) (hw _ (List.mem_of_getElem? (i := 40) rfl)) hEL (by decide) (by decide)) fun v18 T13 h15 W14 K16 q17 => ?_
  obtain ⟨rfl, O2, A2⟩ := q17
  show Goes _ _ _ _ _ _ _ _ _ _ _ T13 (mkF m 23 #[.val (.ref a1), .val (.ref x)] [])
  refine g_iconst W14 d_jdk_38_method_25_code_23 (pc' := 24) (v := (1 : Int32)) rfl rfl ?_
  have K21 : Keep h h15 [a1, d] := (((Keep.refl h [a1, d]).wr R7 (Or.inl (List.mem_of_getElem? (i := 0) rfl))).trans K16 (allS (Or.inl (List.mem_of_getElem? (i := 0) rfl)) (allS (Or.inl (List.mem_of_getElem? (i := 1) rfl)) (all0))))
  exact g_ireturn W14 d_jdk_38_method_25_code_24 (by decide) rfl K21 ⟨rfl, O2, A2⟩ (by decide) (by decide)
set_option maxRecDepth 65536 in
set_option maxHeartbeats 40000000 in
theorem rm_add3_2 {l : Launch} {Z : State} {a0 : Array Value} (hw : ∀ d ∈ tables_1, d.before a0 Z = true) (hEL : EW Z a0 EL1) {zc : Int32} (Sc : Sta Z Z.heap "java/lang/String" "COMPACT_STRINGS" "Z" (.int zc)) (hzc : ¬ zc = 0) (a1 x d : Addr) (k : ClassId) (mc : Int32) (u0 : Value) (u1 : Value) (h : Heap) (hX : Ext Z.heap h) (g1 : Z.heap.size ≤ a1) (gd : Z.heap.size ≤ d) (I1 : Ins Z h x "java/lang/Object" true) (O1 : Obj Z h a1 "java/util/ArrayList" [(("java/util/AbstractList", "modCount", "I"), (.int mc)), (("java/util/ArrayList", "elementData", "[Ljava/lang/Object;"), (.ref d)), (("java/util/ArrayList", "size", "I"), (.int (2 : Int32)))]) (A1 : Arv Z h d k (.object "java/lang/Object") (10 : Int32) [u0, u1, .null, .null, .null, .null, .null, .null, .null, .null] .null) (Ov : Ovr Z k "java/lang/Object") : Met l Z EL1 NW (⟨"java/util/ArrayList", "add", "(Ljava/lang/Object;[Ljava/lang/Object;I)V"⟩ : MethodName) jdk_38_method_24_code 4 none [] ({ frames := 0, cells := 0, slots := 0, locals := 0 } : Room) #[(.ref a1), (.ref x), (.ref d), (.int (2 : Int32))] h [a1, d] (fun v h' => v = none ∧ Obj Z h' a1 "java/util/ArrayList" [(("java/util/AbstractList", "modCount", "I"), (.int mc)), (("java/util/ArrayList", "elementData", "[Ljava/lang/Object;"), (.ref d)), (("java/util/ArrayList", "size", "I"), (.int (3 : Int32)))] ∧ Arv Z h' d k (.object "java/lang/Object") (10 : Int32) [u0, u1, .ref x, .null, .null, .null, .null, .null, .null, .null] .null) := by
  refine Met.intro pf_8 hEL hX (allS ⟨g1, O1.lt⟩ (allS ⟨gd, A1.lt⟩ all0)) ?_
  intro p e s m below meth c T W
  refine Goes.cast (show entryFrame m #[(.ref a1), (.ref x), (.ref d), (.int (2 : Int32))] 4 = mkF m 0 #[.val (.ref a1), .val (.ref x), .val (.ref d), .val (.int (2 : Int32))] [] by first | (simp [entryFrame, mkF, argsToLocals, Value.category]; done) | rfl) ?_
  have ne1 : d ≠ a1 := (Exa.neArv O1.1 A1 (hw _ (List.mem_of_getElem? (i := 39) rfl))).symm
  refine g_iload_n W d_jdk_38_method_24_code_0 (pc' := 1) rfl rfl ?_
  refine g_aload_n W d_jdk_38_method_24_code_1 (pc' := 2) rfl rfl rfl ?_
  refine g_arraylength W d_jdk_38_method_24_code_2 (pc' := 3) rfl A1 ?_
  refine g_icmpY W d_jdk_38_method_24_code_3 (pc' := 11) (by decide) (by decide) (Jvm.Free.XT.ii_ne_t (by decide)) ?_
  refine g_aload_n W d_jdk_38_method_24_code_11 (pc' := 12) rfl rfl rfl ?_
  refine g_iload_n W d_jdk_38_method_24_code_12 (pc' := 13) rfl rfl ?_
  refine g_aload_n W d_jdk_38_method_24_code_13 (pc' := 14) rfl rfl rfl ?_
  refine g_aastore W d_jdk_38_method_24_code_14 (pc' := 15) (i := 2) rfl A1 Ov I1 ⟨by decide, by decide⟩ (by decide) (Nat.le_of_ble_eq_true rfl) (List.mem_of_getElem? (i := 1) rfl) fun T2 h4 W3 R5 A6 => ?_
  have A7 : Arv Z h4 d k (.object "java/lang/Object") (10 : Int32) [u0, u1, .ref x, .null, .null, .null, .null, .null, .null, .null] .null := A6
  refine g_aload_n W3 d_jdk_38_method_24_code_15 (pc' := 16) rfl rfl rfl ?_
  refine g_iload_n W3 d_jdk_38_method_24_code_16 (pc' := 17) rfl rfl ?_
  refine g_iconst W3 d_jdk_38_method_24_code_17 (pc' := 18) (v := (1 : Int32)) rfl rfl ?_
  refine g_iadd W3 d_jdk_38_method_24_code_18 (pc' := 19) rfl ?_
  have K13 : Keep h h4 [d] := ((Keep.refl h [d]).wr R5 (Or.inl (List.mem_of_getElem? (i := 0) rfl)))
  have F14 := O1.keep K13 (ninS (Ne.symm ne1) nin0)
  refine g_putfield W3 d_jdk_38_method_24_code_19 (pc' := 22) (host := "") (ty := .int) rfl (Or.inl (hw _ (List.mem_of_getElem? (i := 73) rfl))) Via.refl (F14.get 2 rfl) F14.1 (Or.inl (hw _ (List.mem_of_getElem? (i := 74) rfl))) (hw _ (List.mem_of_getElem? (i := 39) rfl)) (by decide) rfl rfl (List.mem_of_getElem? (i := 0) rfl) fun T8 h10 W9 R11 => ?_
  have O12 : Obj Z h10 a1 "java/util/ArrayList" [(("java/util/AbstractList", "modCount", "I"), (.int mc)), (("java/util/ArrayList", "elementData", "[Ljava/lang/Object;"), (.ref d)), (("java/util/ArrayList", "size", "I"), (.int ((2 : Int32) + (1 : Int32))))] := F14.put R11 2 rfl (dis_AL hw)
  have K15 : Keep h4 h10 [a1] := ((Keep.refl h4 [a1]).wr R11 (Or.inl (List.mem_of_getElem? (i := 0) rfl)))
  have F16 := A7.keep K15 (ninS ne1 nin0)
  have K17 : Keep h h10 [a1, d] := (((Keep.refl h [a1, d]).wr R5 (Or.inl (List.mem_of_getElem? (i := 1) rfl))).wr R11 (Or.inl (List.mem_of_getElem? (i := 0) rfl)))
  exact g_return W9 d_jdk_38_method_24_code_22 K17 ⟨rfl, O12, F16⟩ (by decide) (by decide)
set_option maxRecDepth 65536 in
set_option maxHeartbeats 40000000 in
theorem rm_add_2 {l : Launch} {Z : State} {a0 : Array Value} (hw : ∀ d ∈ tables_1, d.before a0 Z = true) (hEL : EW Z a0 EL1) {zc : Int32} (Sc : Sta Z Z.heap "java/lang/String" "COMPACT_STRINGS" "Z" (.int zc)) (hzc : ¬ zc = 0) (a1 x d : Addr) (k : ClassId) (u0 : Value) (u1 : Value) (h : Heap) (hX : Ext Z.heap h) (g1 : Z.heap.size ≤ a1) (gd : Z.heap.size ≤ d) (I1 : Ins Z h x "java/lang/Object" true) (O1 : Obj Z h a1 "java/util/ArrayList" [(("java/util/AbstractList", "modCount", "I"), (.int (2 : Int32))), (("java/util/ArrayList", "elementData", "[Ljava/lang/Object;"), (.ref d)), (("java/util/ArrayList", "size", "I"), (.int (2 : Int32)))]) (A1 : Arv Z h d k (.object "java/lang/Object") (10 : Int32) [u0, u1, .null, .null, .null, .null, .null, .null, .null, .null] .null) (Ov : Ovr Z k "java/lang/Object") : Met l Z EL1 NW (⟨"java/util/ArrayList", "add", "(Ljava/lang/Object;)Z"⟩ : MethodName) jdk_38_method_25_code 2 (some .boolean) [] ({ frames := 1, cells := 0, slots := 0, locals := 40 } : Room) #[(.ref a1), (.ref x)] h [a1, d] (fun v h' => v = some (.int 1) ∧ Obj Z h' a1 "java/util/ArrayList" [(("java/util/AbstractList", "modCount", "I"), (.int (3 : Int32))), (("java/util/ArrayList", "elementData", "[Ljava/lang/Object;"), (.ref d)), (("java/util/ArrayList", "size", "I"), (.int (3 : Int32)))] ∧ Arv Z h' d k (.object "java/lang/Object") (10 : Int32) [u0, u1, .ref x, .null, .null, .null, .null, .null, .null, .null] .null) := by
  refine Met.intro pf_9 hEL hX (allS ⟨g1, O1.lt⟩ (allS ⟨gd, A1.lt⟩ all0)) ?_
  intro p e s m below meth c T W
  refine Goes.cast (show entryFrame m #[(.ref a1), (.ref x)] 2 = mkF m 0 #[.val (.ref a1), .val (.ref x)] [] by first | (simp [entryFrame, mkF, argsToLocals, Value.category]; done) | rfl) ?_
  have ne1 : d ≠ a1 := (Exa.neArv O1.1 A1 (hw _ (List.mem_of_getElem? (i := 39) rfl))).symm
  refine g_aload_n W d_jdk_38_method_25_code_0 (pc' := 1) rfl rfl rfl ?_
  refine g_dup W d_jdk_38_method_25_code_1 (pc' := 2) rfl rfl ?_
  refine g_getfield W d_jdk_38_method_25_code_2 (pc' := 5) (host := "") rfl (Or.inl (hw _ (List.mem_of_getElem? (i := 71) rfl))) (Via.of (hw _ (List.mem_of_getElem? (i := 72) rfl))) (O1.get 0 rfl) fun T2 W3 => ?_
  refine g_iconst W3 d_jdk_38_method_25_code_5 (pc' := 6) (v := (1 : Int32)) rfl rfl ?_
  refine g_iadd W3 d_jdk_38_method_25_code_6 (pc' := 7) rfl ?_
  refine g_putfield W3 d_jdk_38_method_25_code_7 (pc' := 10) (host := "") (ty := .int) rfl (Or.inl (hw _ (List.mem_of_getElem? (i := 71) rfl))) (Via.of (hw _ (List.mem_of_getElem? (i := 72) rfl))) (O1.get 0 rfl) O1.1 (Or.inl (hw _ (List.mem_of_getElem? (i := 58) rfl))) (hw _ (List.mem_of_getElem? (i := 39) rfl)) (by decide) rfl rfl (List.mem_of_getElem? (i := 0) rfl) fun T4 h6 W5 R7 => ?_
  have O8 : Obj Z h6 a1 "java/util/ArrayList" [(("java/util/AbstractList", "modCount", "I"), (.int (3 : Int32))), (("java/util/ArrayList", "elementData", "[Ljava/lang/Object;"), (.ref d)), (("java/util/ArrayList", "size", "I"), (.int (2 : Int32)))] := O1.put R7 0 rfl (dis_AL hw)
  refine g_aload_n W5 d_jdk_38_method_25_code_10 (pc' := 11) rfl rfl rfl ?_
  refine g_aload_n W5 d_jdk_38_method_25_code_11 (pc' := 12) rfl rfl rfl ?_
  refine g_aload_n W5 d_jdk_38_method_25_code_12 (pc' := 13) rfl rfl rfl ?_
  refine g_getfield W5 d_jdk_38_method_25_code_13 (pc' := 16) (host := "") rfl (Or.inl (hw _ (List.mem_of_getElem? (i := 60) rfl))) Via.refl (O8.get 1 rfl) fun T9 W10 => ?_
  refine g_aload_n W10 d_jdk_38_method_25_code_16 (pc' := 17) rfl rfl rfl ?_
  refine g_getfield W10 d_jdk_38_method_25_code_17 (pc' := 20) (host := "") rfl (Or.inl (hw _ (List.mem_of_getElem? (i := 73) rfl))) Via.refl (O8.get 2 rfl) fun T11 W12 => ?_
  have K19 : Keep h h6 [a1] := ((Keep.refl h [a1]).wr R7 (Or.inl (List.mem_of_getElem? (i := 0) rfl)))
  have F20 := A1.keep K19 (ninS ne1 nin0)
  refine g_private W12 d_jdk_38_method_25_code_20 (pc' := 23) (a := a1) (fr' := [a1, d]) (argsL := [(.ref x), (.ref d), (.int (2 : Int32))]) (rest := []) (Wd := 0) (kc := 0) (ks := 0) rfl (hw _ (List.mem_of_getElem? (i := 75) rfl)) (hw _ (List.mem_of_getElem? (i := 76) rfl)) (hw _ (List.mem_of_getElem? (i := 78) rfl)) (hw _ (List.mem_of_getElem? (i := 77) rfl)) (hw _ (List.mem_of_getElem? (i := 79) rfl)) (by decide) O8.1 rfl rfl (lenOf pd_5 rfl) rfl (allS (List.mem_of_getElem? (i := 0) rfl) (allS (List.mem_of_getElem? (i := 1) rfl) (all0))) (by decide) (by decide) (Met.pays (rm_add3_2 hw hEL Sc hzc a1 x d k (3 : Int32) u0 u1 _ W12.ext g1 gd (I1.keepK (Keep.of_wr R7)) O8 F20 Ov) (hw _ (List.mem_of_getElem? (i := 79) rfl)) (hw _ (List.mem_of_getElem? (i := 40) rfl)) hEL (by decide) (by decide)) fun v18 T13 h15 W14 K16 q17 => ?_
  obtain ⟨rfl, O2, A2⟩ := q17
  show Goes _ _ _ _ _ _ _ _ _ _ _ T13 (mkF m 23 #[.val (.ref a1), .val (.ref x)] [])
  refine g_iconst W14 d_jdk_38_method_25_code_23 (pc' := 24) (v := (1 : Int32)) rfl rfl ?_
  have K21 : Keep h h15 [a1, d] := (((Keep.refl h [a1, d]).wr R7 (Or.inl (List.mem_of_getElem? (i := 0) rfl))).trans K16 (allS (Or.inl (List.mem_of_getElem? (i := 0) rfl)) (allS (Or.inl (List.mem_of_getElem? (i := 1) rfl)) (all0))))
  exact g_ireturn W14 d_jdk_38_method_25_code_24 (by decide) rfl K21 ⟨rfl, O2, A2⟩ (by decide) (by decide)
theorem d_jdk_41_method_11_code_0 : decode jdk_41_method_11_code 0 = .ok (.iload_n 0, 1) := by decide +kernel
theorem d_jdk_41_method_11_code_1 : decode jdk_41_method_11_code 1 = .ok (.ifCond .lt 8, 3) := by decide +kernel
theorem d_jdk_41_method_11_code_4 : decode jdk_41_method_11_code 4 = .ok (.iload_n 0, 1) := by decide +kernel
theorem d_jdk_41_method_11_code_5 : decode jdk_41_method_11_code 5 = .ok (.iload_n 1, 1) := by decide +kernel
theorem d_jdk_41_method_11_code_6 : decode jdk_41_method_11_code 6 = .ok (.if_icmp .lt 10, 3) := by decide +kernel
theorem d_jdk_41_method_11_code_16 : decode jdk_41_method_11_code 16 = .ok (.iload_n 0, 1) := by decide +kernel
theorem d_jdk_41_method_11_code_17 : decode jdk_41_method_11_code 17 = .ok (.ireturn, 1) := by decide +kernel
theorem pf_10 : plainFor (⟨"jdk/internal/util/Preconditions", "checkIndex", "(IILjava/util/function/BiFunction;)I"⟩ : MethodName) = true := by first | (exact plainFor_of_name (by first | (simp [plainName, overriddenIn]; done) | decide +kernel)) | decide +kernel
set_option maxRecDepth 65536 in
set_option maxHeartbeats 40000000 in
theorem rm_pci {l : Launch} {Z : State} {a0 : Array Value} (hw : ∀ d ∈ tables_1, d.before a0 Z = true) (hEL : EW Z a0 EL1) {zc : Int32} (Sc : Sta Z Z.heap "java/lang/String" "COMPACT_STRINGS" "Z" (.int zc)) (hzc : ¬ zc = 0) (p1 p2 : Int32) (v3 : Value) (h : Heap) (hX : Ext Z.heap h) (r3 : v3.isRef = true) (q1 : ¬ p1 < 0) (q2 : p1 < p2) : Met l Z EL1 NW (⟨"jdk/internal/util/Preconditions", "checkIndex", "(IILjava/util/function/BiFunction;)I"⟩ : MethodName) jdk_41_method_11_code 3 (some .int) [] ({ frames := 0, cells := 0, slots := 0, locals := 0 } : Room) #[(.int p1), (.int p2), v3] h [] (fun v h' => h = h' ∧ v = some (.int p1)) := by
  refine Met.intro pf_10 hEL hX (fun _ q => nomatch q) ?_
  intro p e s m below meth c T W
  refine Goes.cast (show entryFrame m #[(.int p1), (.int p2), v3] 3 = mkF m 0 #[.val (.int p1), .val (.int p2), .val v3] [] by simp [entryFrame, mkF, argsToLocals, cat_ref, cat_int, cat_null, cat_long, Jvm.Free.XT.cat1 r3]) ?_
  refine g_iload_n W d_jdk_41_method_11_code_0 (pc' := 1) rfl rfl ?_
  refine g_ifN W d_jdk_41_method_11_code_1 (pc' := 4) rfl (Jvm.Free.XT.i0_lt_f q1) ?_
  refine g_iload_n W d_jdk_41_method_11_code_4 (pc' := 5) rfl rfl ?_
  refine g_iload_n W d_jdk_41_method_11_code_5 (pc' := 6) rfl rfl ?_
  refine g_icmpY W d_jdk_41_method_11_code_6 (pc' := 16) (by decide) (by decide) (Jvm.Free.XT.ii_lt_t q2) ?_
  refine g_iload_n W d_jdk_41_method_11_code_16 (pc' := 17) rfl rfl ?_
  exact g_ireturn W d_jdk_41_method_11_code_17 (by decide) rfl (Keep.refl h []) ⟨rfl, rfl⟩ (by decide) (by decide)
theorem d_jdk_31_method_17_code_0 : decode jdk_31_method_17_code 0 = .ok (.iload_n 0, 1) := by decide +kernel
theorem d_jdk_31_method_17_code_1 : decode jdk_31_method_17_code 1 = .ok (.iload_n 1, 1) := by decide +kernel
theorem d_jdk_31_method_17_code_2 : decode jdk_31_method_17_code 2 = .ok (.aconst_null, 1) := by decide +kernel
theorem d_jdk_31_method_17_code_3 : decode jdk_31_method_17_code 3 = .ok (.invokestatic 105, 3) := by decide +kernel
theorem pd_6 : parseMethodDescriptor "(IILjava/util/function/BiFunction;)I" = some ⟨[.int, .int, (.object "java/util/function/BiFunction")], some .int⟩ := by decide +kernel
theorem d_jdk_31_method_17_code_6 : decode jdk_31_method_17_code 6 = .ok (.ireturn, 1) := by decide +kernel
theorem pf_11 : plainFor (⟨"java/util/Objects", "checkIndex", "(II)I"⟩ : MethodName) = true := by first | (exact plainFor_of_name (by first | (simp [plainName, overriddenIn]; done) | decide +kernel)) | decide +kernel
set_option maxRecDepth 65536 in
set_option maxHeartbeats 40000000 in
theorem rm_ci {l : Launch} {Z : State} {a0 : Array Value} (hw : ∀ d ∈ tables_1, d.before a0 Z = true) (hEL : EW Z a0 EL1) {zc : Int32} (Sc : Sta Z Z.heap "java/lang/String" "COMPACT_STRINGS" "Z" (.int zc)) (hzc : ¬ zc = 0) (p1 p2 : Int32) (h : Heap) (hX : Ext Z.heap h) (q1 : ¬ p1 < 0) (q2 : p1 < p2) : Met l Z EL1 NW (⟨"java/util/Objects", "checkIndex", "(II)I"⟩ : MethodName) jdk_31_method_17_code 2 (some .int) [] ({ frames := 1, cells := 0, slots := 0, locals := 20 } : Room) #[(.int p1), (.int p2)] h [] (fun v h' => h = h' ∧ v = some (.int p1)) := by
  refine Met.intro pf_11 hEL hX (fun _ q => nomatch q) ?_
  intro p e s m below meth c T W
  refine Goes.cast (show entryFrame m #[(.int p1), (.int p2)] 2 = mkF m 0 #[.val (.int p1), .val (.int p2)] [] by first | (simp [entryFrame, mkF, argsToLocals, Value.category]; done) | rfl) ?_
  refine g_iload_n W d_jdk_31_method_17_code_0 (pc' := 1) rfl rfl ?_
  refine g_iload_n W d_jdk_31_method_17_code_1 (pc' := 2) rfl rfl ?_
  refine g_aconst_null W d_jdk_31_method_17_code_2 (pc' := 3) rfl ?_
  refine g_static W d_jdk_31_method_17_code_3 (pc' := 6) (fr' := []) (argsL := [(.int p1), (.int p2), .null]) (rest := []) (Wd := 0) (kc := 0) (ks := 0) rfl (hw _ (List.mem_of_getElem? (i := 139) rfl)) (hw _ (List.mem_of_getElem? (i := 140) rfl)) (hw _ (List.mem_of_getElem? (i := 141) rfl)) (hw _ (List.mem_of_getElem? (i := 142) rfl)) (by decide) rfl rfl (lenOf pd_6 rfl) rfl all0 (by decide) (by decide) (Met.pays (rm_pci hw hEL Sc hzc p1 p2 .null _ W.ext rfl q1 q2) (hw _ (List.mem_of_getElem? (i := 142) rfl)) (hw _ (List.mem_of_getElem? (i := 141) rfl)) hEL (by decide) (by decide)) fun v6 T1 h3 W2 K4 q5 => ?_
  obtain ⟨rfl, rfl⟩ := q5
  show Goes _ _ _ _ _ _ _ _ _ _ _ T1 (mkF m 6 #[.val (.int p1), .val (.int p2)] [(.int p1)])
  exact g_ireturn W2 d_jdk_31_method_17_code_6 (by decide) rfl (Keep.refl h []) ⟨rfl, rfl⟩ (by decide) (by decide)
theorem d_jdk_38_method_18_code_0 : decode jdk_38_method_18_code 0 = .ok (.aload_n 0, 1) := by decide +kernel
theorem d_jdk_38_method_18_code_1 : decode jdk_38_method_18_code 1 = .ok (.getfield 9, 3) := by decide +kernel
theorem d_jdk_38_method_18_code_4 : decode jdk_38_method_18_code 4 = .ok (.iload_n 1, 1) := by decide +kernel
theorem d_jdk_38_method_18_code_5 : decode jdk_38_method_18_code 5 = .ok (.aaload, 1) := by decide +kernel
theorem d_jdk_38_method_18_code_6 : decode jdk_38_method_18_code 6 = .ok (.areturn, 1) := by decide +kernel
theorem pf_12 : plainFor (⟨"java/util/ArrayList", "elementData", "(I)Ljava/lang/Object;"⟩ : MethodName) = true := by first | (exact plainFor_of_name (by first | (simp [plainName, overriddenIn]; done) | decide +kernel)) | decide +kernel
set_option maxRecDepth 65536 in
set_option maxHeartbeats 40000000 in
theorem rm_ed {l : Launch} {Z : State} {a0 : Array Value} (hw : ∀ d ∈ tables_1, d.before a0 Z = true) (hEL : EW Z a0 EL1) {zc : Int32} (Sc : Sta Z Z.heap "java/lang/String" "COMPACT_STRINGS" "Z" (.int zc)) (hzc : ¬ zc = 0) (a1 d : Addr) (k : ClassId) (mc n N p2 : Int32) (vs : List Value) (v : Value) (h : Heap) (hX : Ext Z.heap h) (O1 : Obj Z h a1 "java/util/ArrayList" [(("java/util/AbstractList", "modCount", "I"), (.int mc)), (("java/util/ArrayList", "elementData", "[Ljava/lang/Object;"), (.ref d)), (("java/util/ArrayList", "size", "I"), (.int n))]) (A1 : Arv Z h d k (.object "java/lang/Object") N vs .null) (q : ¬ p2 < 0 ∧ p2 < N) (e1 : vs.getD p2.toNatClampNeg .null = v) (r : v.isRef = true) : Met l Z EL1 NW (⟨"java/util/ArrayList", "elementData", "(I)Ljava/lang/Object;"⟩ : MethodName) jdk_38_method_18_code 2 (some (.object "java/lang/Object")) [] ({ frames := 0, cells := 0, slots := 0, locals := 0 } : Room) #[(.ref a1), (.int p2)] h [] (fun r h' => h = h' ∧ r = some v) := by
  refine Met.intro pf_12 hEL hX (fun _ q => nomatch q) ?_
  intro p e s m below meth c T W
  refine Goes.cast (show entryFrame m #[(.ref a1), (.int p2)] 2 = mkF m 0 #[.val (.ref a1), .val (.int p2)] [] by first | (simp [entryFrame, mkF, argsToLocals, Value.category]; done) | rfl) ?_
  refine g_aload_n W d_jdk_38_method_18_code_0 (pc' := 1) rfl rfl rfl ?_
  refine g_getfield W d_jdk_38_method_18_code_1 (pc' := 4) (host := "") rfl (Or.inl (hw _ (List.mem_of_getElem? (i := 60) rfl))) Via.refl (O1.get 1 rfl) fun T1 W2 => ?_
  refine g_iload_n W2 d_jdk_38_method_18_code_4 (pc' := 5) rfl rfl ?_
  refine g_aaload W2 d_jdk_38_method_18_code_5 (pc' := 6) rfl A1 rfl q e1 ?_
  exact g_areturn W2 d_jdk_38_method_18_code_6 rfl r rfl (Keep.refl h []) ⟨rfl, rfl⟩ (by decide) (by decide)
theorem d_jdk_38_method_20_code_0 : decode jdk_38_method_20_code 0 = .ok (.iload_n 1, 1) := by decide +kernel
theorem d_jdk_38_method_20_code_1 : decode jdk_38_method_20_code 1 = .ok (.aload_n 0, 1) := by decide +kernel
theorem d_jdk_38_method_20_code_2 : decode jdk_38_method_20_code 2 = .ok (.getfield 48, 3) := by decide +kernel
theorem d_jdk_38_method_20_code_5 : decode jdk_38_method_20_code 5 = .ok (.invokestatic 118, 3) := by decide +kernel
theorem d_jdk_38_method_20_code_8 : decode jdk_38_method_20_code 8 = .ok (.pop, 1) := by decide +kernel
theorem d_jdk_38_method_20_code_9 : decode jdk_38_method_20_code 9 = .ok (.aload_n 0, 1) := by decide +kernel
theorem d_jdk_38_method_20_code_10 : decode jdk_38_method_20_code 10 = .ok (.iload_n 1, 1) := by decide +kernel
theorem d_jdk_38_method_20_code_11 : decode jdk_38_method_20_code 11 = .ok (.invokevirtual 123, 3) := by decide +kernel
theorem pd_7 : parseMethodDescriptor "(I)Ljava/lang/Object;" = some ⟨[.int], some (.object "java/lang/Object")⟩ := by decide +kernel
theorem d_jdk_38_method_20_code_14 : decode jdk_38_method_20_code 14 = .ok (.areturn, 1) := by decide +kernel
theorem pf_13 : plainFor (⟨"java/util/ArrayList", "get", "(I)Ljava/lang/Object;"⟩ : MethodName) = true := by first | (exact plainFor_of_name (by first | (simp [plainName, overriddenIn]; done) | decide +kernel)) | decide +kernel
set_option maxRecDepth 65536 in
set_option maxHeartbeats 40000000 in
theorem rm_get {l : Launch} {Z : State} {a0 : Array Value} (hw : ∀ d ∈ tables_1, d.before a0 Z = true) (hEL : EW Z a0 EL1) {zc : Int32} (Sc : Sta Z Z.heap "java/lang/String" "COMPACT_STRINGS" "Z" (.int zc)) (hzc : ¬ zc = 0) (a1 d : Addr) (k : ClassId) (mc n N p2 : Int32) (vs : List Value) (v : Value) (h : Heap) (hX : Ext Z.heap h) (O1 : Obj Z h a1 "java/util/ArrayList" [(("java/util/AbstractList", "modCount", "I"), (.int mc)), (("java/util/ArrayList", "elementData", "[Ljava/lang/Object;"), (.ref d)), (("java/util/ArrayList", "size", "I"), (.int n))]) (A1 : Arv Z h d k (.object "java/lang/Object") N vs .null) (q : ¬ p2 < 0 ∧ p2 < N) (q2 : p2 < n) (e1 : vs.getD p2.toNatClampNeg .null = v) (r : v.isRef = true) : Met l Z EL1 NW (⟨"java/util/ArrayList", "get", "(I)Ljava/lang/Object;"⟩ : MethodName) jdk_38_method_20_code 2 (some (.object "java/lang/Object")) [] ({ frames := 2, cells := 0, slots := 0, locals := 60 } : Room) #[(.ref a1), (.int p2)] h [] (fun r h' => h = h' ∧ r = some v) := by
  refine Met.intro pf_13 hEL hX (fun _ q => nomatch q) ?_
  intro p e s m below meth c T W
  refine Goes.cast (show entryFrame m #[(.ref a1), (.int p2)] 2 = mkF m 0 #[.val (.ref a1), .val (.int p2)] [] by first | (simp [entryFrame, mkF, argsToLocals, Value.category]; done) | rfl) ?_
  refine g_iload_n W d_jdk_38_method_20_code_0 (pc' := 1) rfl rfl ?_
  refine g_aload_n W d_jdk_38_method_20_code_1 (pc' := 2) rfl rfl rfl ?_
  refine g_getfield W d_jdk_38_method_20_code_2 (pc' := 5) (host := "") rfl (Or.inl (hw _ (List.mem_of_getElem? (i := 73) rfl))) Via.refl (O1.get 2 rfl) fun T1 W2 => ?_
  refine g_static W2 d_jdk_38_method_20_code_5 (pc' := 8) (fr' := []) (argsL := [(.int p2), (.int n)]) (rest := []) (Wd := 0) (kc := 0) (ks := 0) rfl (hw _ (List.mem_of_getElem? (i := 135) rfl)) (hw _ (List.mem_of_getElem? (i := 136) rfl)) (hw _ (List.mem_of_getElem? (i := 137) rfl)) (hw _ (List.mem_of_getElem? (i := 138) rfl)) (by decide) rfl rfl (lenOf pd_2 rfl) rfl all0 (by decide) (by decide) (Met.pays (rm_ci hw hEL Sc hzc p2 n _ W2.ext q.1 q2) (hw _ (List.mem_of_getElem? (i := 138) rfl)) (hw _ (List.mem_of_getElem? (i := 137) rfl)) hEL (by decide) (by decide)) fun v8 T3 h5 W4 K6 q7 => ?_
  obtain ⟨rfl, rfl⟩ := q7
  show Goes _ _ _ _ _ _ _ _ _ _ _ T3 (mkF m 8 #[.val (.ref a1), .val (.int p2)] [(.int p2)])
  refine g_pop W4 d_jdk_38_method_20_code_8 (pc' := 9) rfl rfl ?_
  refine g_aload_n W4 d_jdk_38_method_20_code_9 (pc' := 10) rfl rfl rfl ?_
  refine g_iload_n W4 d_jdk_38_method_20_code_10 (pc' := 11) rfl rfl ?_
  refine g_virtual W4 d_jdk_38_method_20_code_11 (pc' := 14) (a := a1) (fr' := []) (argsL := [(.int p2)]) (rest := []) (Wd := 0) (kc := 0) (ks := 0) rfl (hw _ (List.mem_of_getElem? (i := 143) rfl)) (hw _ (List.mem_of_getElem? (i := 144) rfl)) (hw _ (List.mem_of_getElem? (i := 146) rfl)) (hw _ (List.mem_of_getElem? (i := 145) rfl)) (by decide) O1.1 rfl rfl (lenOf pd_7 rfl) rfl all0 (by decide) (by decide) (Met.pays (rm_ed hw hEL Sc hzc a1 d k mc n N p2 vs v _ W4.ext O1 A1 q e1 r) (hw _ (List.mem_of_getElem? (i := 147) rfl)) (hw _ (List.mem_of_getElem? (i := 40) rfl)) hEL (by decide) (by decide)) fun v14 T9 h11 W10 K12 q13 => ?_
  obtain ⟨rfl, rfl⟩ := q13
  show Goes _ _ _ _ _ _ _ _ _ _ _ T9 (mkF m 14 #[.val (.ref a1), .val (.int p2)] [v])
  exact g_areturn W10 d_jdk_38_method_20_code_14 rfl r rfl (Keep.refl h []) ⟨rfl, rfl⟩ (by decide) (by decide)
theorem d_method_2_code_0 : decode method_2_code 0 = .ok (.iload_n 0, 1) := by decide +kernel
theorem d_method_2_code_1 : decode method_2_code 1 = .ok (.iconst 3, 1) := by decide +kernel
theorem d_method_2_code_2 : decode method_2_code 2 = .ok (.iand, 1) := by decide +kernel
theorem d_method_2_code_3 : decode method_2_code 3 = .ok (.iconst 3, 1) := by decide +kernel
theorem d_method_2_code_4 : decode method_2_code 4 = .ok (.irem, 1) := by decide +kernel
theorem d_method_2_code_5 : decode method_2_code 5 = .ok (.istore_n 1, 1) := by decide +kernel
theorem d_method_2_code_6 : decode method_2_code 6 = .ok (.iload_n 0, 1) := by decide +kernel
theorem d_method_2_code_7 : decode method_2_code 7 = .ok (.iconst 2, 1) := by decide +kernel
theorem d_method_2_code_8 : decode method_2_code 8 = .ok (.iushr, 1) := by decide +kernel
theorem d_method_2_code_9 : decode method_2_code 9 = .ok (.sipush 255, 3) := by decide +kernel
theorem d_method_2_code_12 : decode method_2_code 12 = .ok (.iand, 1) := by decide +kernel
theorem d_method_2_code_13 : decode method_2_code 13 = .ok (.i2c, 1) := by decide +kernel
theorem d_method_2_code_14 : decode method_2_code 14 = .ok (.istore_n 2, 1) := by decide +kernel
theorem d_method_2_code_15 : decode method_2_code 15 = .ok (.iload_n 0, 1) := by decide +kernel
theorem d_method_2_code_16 : decode method_2_code 16 = .ok (.bipush 10, 2) := by decide +kernel
theorem d_method_2_code_18 : decode method_2_code 18 = .ok (.iushr, 1) := by decide +kernel
theorem d_method_2_code_19 : decode method_2_code 19 = .ok (.sipush 255, 3) := by decide +kernel
theorem d_method_2_code_22 : decode method_2_code 22 = .ok (.iand, 1) := by decide +kernel
theorem d_method_2_code_23 : decode method_2_code 23 = .ok (.i2c, 1) := by decide +kernel
theorem d_method_2_code_24 : decode method_2_code 24 = .ok (.istore_n 3, 1) := by decide +kernel
theorem d_method_2_code_25 : decode method_2_code 25 = .ok (.iload_n 1, 1) := by decide +kernel
theorem d_method_2_code_26 : decode method_2_code 26 = .ok (.ifCond .ne 14, 3) := by decide +kernel
theorem d_method_2_code_29 : decode method_2_code 29 = .ok (.new 7, 3) := by decide +kernel
theorem d_method_2_code_32 : decode method_2_code 32 = .ok (.dup, 1) := by decide +kernel
theorem d_method_2_code_33 : decode method_2_code 33 = .ok (.iconst 0, 1) := by decide +kernel
theorem d_method_2_code_34 : decode method_2_code 34 = .ok (.newarray .char, 2) := by decide +kernel
theorem d_method_2_code_36 : decode method_2_code 36 = .ok (.invokespecial 9, 3) := by decide +kernel
theorem pd_8 : parseMethodDescriptor "([C)V" = some ⟨[(.array .char)], none⟩ := by decide +kernel
theorem d_method_2_code_39 : decode method_2_code 39 = .ok (.areturn, 1) := by decide +kernel
theorem d_method_2_code_40 : decode method_2_code 40 = .ok (.iload_n 1, 1) := by decide +kernel
theorem d_method_2_code_41 : decode method_2_code 41 = .ok (.iconst 1, 1) := by decide +kernel
theorem d_method_2_code_42 : decode method_2_code 42 = .ok (.if_icmp .ne 18, 3) := by decide +kernel
theorem d_method_2_code_45 : decode method_2_code 45 = .ok (.new 7, 3) := by decide +kernel
theorem d_method_2_code_48 : decode method_2_code 48 = .ok (.dup, 1) := by decide +kernel
theorem d_method_2_code_49 : decode method_2_code 49 = .ok (.iconst 1, 1) := by decide +kernel
theorem d_method_2_code_50 : decode method_2_code 50 = .ok (.newarray .char, 2) := by decide +kernel
theorem d_method_2_code_52 : decode method_2_code 52 = .ok (.dup, 1) := by decide +kernel
theorem d_method_2_code_53 : decode method_2_code 53 = .ok (.iconst 0, 1) := by decide +kernel
theorem d_method_2_code_54 : decode method_2_code 54 = .ok (.iload_n 2, 1) := by decide +kernel
theorem d_method_2_code_55 : decode method_2_code 55 = .ok (.castore, 1) := by decide +kernel
theorem d_method_2_code_56 : decode method_2_code 56 = .ok (.invokespecial 9, 3) := by decide +kernel
theorem d_method_2_code_59 : decode method_2_code 59 = .ok (.areturn, 1) := by decide +kernel
theorem d_method_2_code_60 : decode method_2_code 60 = .ok (.new 7, 3) := by decide +kernel
theorem d_method_2_code_63 : decode method_2_code 63 = .ok (.dup, 1) := by decide +kernel
theorem d_method_2_code_64 : decode method_2_code 64 = .ok (.iconst 2, 1) := by decide +kernel
theorem d_method_2_code_65 : decode method_2_code 65 = .ok (.newarray .char, 2) := by decide +kernel
theorem d_method_2_code_67 : decode method_2_code 67 = .ok (.dup, 1) := by decide +kernel
theorem d_method_2_code_68 : decode method_2_code 68 = .ok (.iconst 0, 1) := by decide +kernel
theorem d_method_2_code_69 : decode method_2_code 69 = .ok (.iload_n 2, 1) := by decide +kernel
theorem d_method_2_code_70 : decode method_2_code 70 = .ok (.castore, 1) := by decide +kernel
theorem d_method_2_code_71 : decode method_2_code 71 = .ok (.dup, 1) := by decide +kernel
theorem d_method_2_code_72 : decode method_2_code 72 = .ok (.iconst 1, 1) := by decide +kernel
theorem d_method_2_code_73 : decode method_2_code 73 = .ok (.iload_n 3, 1) := by decide +kernel
theorem d_method_2_code_74 : decode method_2_code 74 = .ok (.castore, 1) := by decide +kernel
theorem d_method_2_code_75 : decode method_2_code 75 = .ok (.invokespecial 9, 3) := by decide +kernel
theorem d_method_2_code_78 : decode method_2_code 78 = .ok (.areturn, 1) := by decide +kernel
theorem pf_14 : plainFor (⟨"com/example/tethercall/tethercall/JsonPointerLastPinLaw", "tok", "(I)Ljava/lang/String;"⟩ : MethodName) = true := by first | (exact plainFor_of_name (by first | (simp [plainName, overriddenIn]; done) | decide +kernel)) | decide +kernel
set_option maxRecDepth 65536 in
set_option maxHeartbeats 40000000 in
theorem rm_tok {l : Launch} {Z : State} {a0 : Array Value} (hw : ∀ d ∈ tables_1, d.before a0 Z = true) (hEL : EW Z a0 EL1) {zc : Int32} (Sc : Sta Z Z.heap "java/lang/String" "COMPACT_STRINGS" "Z" (.int zc)) (hzc : ¬ zc = 0) (p1 : Int32) (h : Heap) (hX : Ext Z.heap h)  : Met l Z EL1 NW (⟨"com/example/tethercall/tethercall/JsonPointerLastPinLaw", "tok", "(I)Ljava/lang/String;"⟩ : MethodName) method_2_code 4 (some (.object "java/lang/String")) [] ({ frames := 5, cells := 6, slots := 16, locals := 120 } : Room) #[(.int p1)] h [] (fun v h' => ∃ a, v = some (.ref a) ∧ Exa Z h' a "java/lang/String") := by
  refine Met.intro pf_14 hEL hX (fun _ q => nomatch q) ?_
  intro p e s m below meth c T W
  refine Goes.cast (show entryFrame m #[(.int p1)] 4 = mkF m 0 #[.val (.int p1), .unset, .unset, .unset] [] by first | (simp [entryFrame, mkF, argsToLocals, Value.category]; done) | rfl) ?_
  refine g_iload_n W d_method_2_code_0 (pc' := 1) rfl rfl ?_
  refine g_iconst W d_method_2_code_1 (pc' := 2) (v := (3 : Int32)) rfl rfl ?_
  refine g_iand W d_method_2_code_2 (pc' := 3) rfl ?_
  refine g_iconst W d_method_2_code_3 (pc' := 4) (v := (3 : Int32)) rfl rfl ?_
  refine g_irem W d_method_2_code_4 (pc' := 5) rfl (by decide) ?_
  refine g_istore_n W d_method_2_code_5 (pc' := 6) (L' := #[.val (.int p1), .val (.int ((p1 &&& (3 : Int32)) % (3 : Int32))), .unset, .unset]) rfl rfl ?_
  refine g_iload_n W d_method_2_code_6 (pc' := 7) rfl rfl ?_
  refine g_iconst W d_method_2_code_7 (pc' := 8) (v := (2 : Int32)) rfl rfl ?_
  refine g_iushr W d_method_2_code_8 (pc' := 9) rfl ?_
  refine g_sipush W d_method_2_code_9 (pc' := 12) (v := (255 : Int32)) rfl (by decide) ?_
  refine g_iand W d_method_2_code_12 (pc' := 13) rfl ?_
  refine g_i2c W d_method_2_code_13 (pc' := 14) rfl ?_
  refine g_istore_n W d_method_2_code_14 (pc' := 15) (L' := #[.val (.int p1), .val (.int ((p1 &&& (3 : Int32)) % (3 : Int32))), .val (.int ((((p1.toUInt32 >>> ((2 : Int32) &&& 31).toUInt32).toInt32) &&& (255 : Int32)).toUInt32.toUInt16.toUInt32.toInt32)), .unset]) rfl rfl ?_
  refine g_iload_n W d_method_2_code_15 (pc' := 16) rfl rfl ?_
  refine g_bipush W d_method_2_code_16 (pc' := 18) (v := (10 : Int32)) rfl (by decide) ?_
  refine g_iushr W d_method_2_code_18 (pc' := 19) rfl ?_
  refine g_sipush W d_method_2_code_19 (pc' := 22) (v := (255 : Int32)) rfl (by decide) ?_
  refine g_iand W d_method_2_code_22 (pc' := 23) rfl ?_
  refine g_i2c W d_method_2_code_23 (pc' := 24) rfl ?_
  refine g_istore_n W d_method_2_code_24 (pc' := 25) (L' := #[.val (.int p1), .val (.int ((p1 &&& (3 : Int32)) % (3 : Int32))), .val (.int ((((p1.toUInt32 >>> ((2 : Int32) &&& 31).toUInt32).toInt32) &&& (255 : Int32)).toUInt32.toUInt16.toUInt32.toInt32)), .val (.int ((((p1.toUInt32 >>> ((10 : Int32) &&& 31).toUInt32).toInt32) &&& (255 : Int32)).toUInt32.toUInt16.toUInt32.toInt32))]) rfl rfl ?_
  refine g_iload_n W d_method_2_code_25 (pc' := 26) rfl rfl ?_
  by_cases c1 : ((p1 &&& (3 : Int32)) % (3 : Int32)) = 0
  · refine g_ifN W d_method_2_code_26 (pc' := 29) rfl (Jvm.Free.XT.i0_ne_f c1) ?_
    refine g_new W d_method_2_code_29 (pc' := 32) rfl (hw _ (List.mem_of_getElem? (i := 5) rfl)) (hw _ (List.mem_of_getElem? (i := 6) rfl)) (hw _ (List.mem_of_getElem? (i := 7) rfl)) (by decide) (by decide) fun T2 h4 b1 g5 W3 E6 A7 D8 => ?_
    have O_b1 := new_Str hw A7 D8
    refine g_dup W3 d_method_2_code_32 (pc' := 33) rfl rfl ?_
    refine g_iconst W3 d_method_2_code_33 (pc' := 34) (v := (0 : Int32)) rfl rfl ?_
    refine g_newarray W3 d_method_2_code_34 (pc' := 36) (cap := 0) rfl (hw _ (List.mem_of_getElem? (i := 8) rfl)) (by decide) (by decide) (by decide) (by decide) (by decide) fun T9 h11 b2 kA15 g12 W10 E13 A14 => ?_
    have A16 : Arv Z h11 b2 kA15 .char (0 : Int32) [] (.int (0 : Int32)) := A14.pad (pad_rep [] (.int (0 : Int32)) 0)
    have K17 : Keep h4 h11 [] := ((Keep.refl h4 []).ext E13)
    have F18 := O_b1.mv K17
    refine g_special W10 d_method_2_code_36 (pc' := 39) (a := b1) (fr' := [b1]) (argsL := [(.ref b2)]) (rest := [(.ref b1)]) (Wd := 1) (kc := 4) (ks := 8) rfl rfl (hw _ (List.mem_of_getElem? (i := 9) rfl)) (hw _ (List.mem_of_getElem? (i := 10) rfl)) (hw _ (List.mem_of_getElem? (i := 11) rfl)) (by decide) rfl rfl (lenOf pd_8 rfl) rfl (allS (List.mem_of_getElem? (i := 1) rfl) (all0)) (by decide) (by decide) (Met.pays (rm_new1e hw hEL Sc hzc b1 b2 _ _ _ _ W10.ext (W10.frs b1 (List.mem_of_getElem? (i := 1) rfl)).1 F18 A16) (hw _ (List.mem_of_getElem? (i := 11) rfl)) (hw _ (List.mem_of_getElem? (i := 7) rfl)) hEL (by decide) (by decide)) fun v24 T19 h21 W20 K22 q23 => ?_
    obtain ⟨rfl, S_b1⟩ := q23
    show Goes _ _ _ _ _ _ _ _ _ _ _ T19 (mkF m 39 #[.val (.int p1), .val (.int ((p1 &&& (3 : Int32)) % (3 : Int32))), .val (.int ((((p1.toUInt32 >>> ((2 : Int32) &&& 31).toUInt32).toInt32) &&& (255 : Int32)).toUInt32.toUInt16.toUInt32.toInt32)), .val (.int ((((p1.toUInt32 >>> ((10 : Int32) &&& 31).toUInt32).toInt32) &&& (255 : Int32)).toUInt32.toUInt16.toUInt32.toInt32))] [(.ref b1)])
    have K25 : Keep h h21 [] := ((((Keep.refl h []).ext E6).ext E13).trans K22 fun x q => by cases List.mem_singleton.mp q; exact Or.inr (Nat.le_of_eq g5.symm))
    exact g_areturn W20 d_method_2_code_39 rfl rfl rfl K25 ⟨_, rfl, S_b1.exa⟩ (by decide) (by decide)
  · refine g_ifY W d_method_2_code_26 (pc' := 40) (by decide) (by decide) (Jvm.Free.XT.i0_ne_t c1) ?_
    refine g_iload_n W d_method_2_code_40 (pc' := 41) rfl rfl ?_
    refine g_iconst W d_method_2_code_41 (pc' := 42) (v := (1 : Int32)) rfl rfl ?_
    by_cases c26 : ((p1 &&& (3 : Int32)) % (3 : Int32)) = (1 : Int32)
    · refine g_icmpN W d_method_2_code_42 (pc' := 45) rfl (Jvm.Free.XT.ii_ne_f c26) ?_
      refine g_new W d_method_2_code_45 (pc' := 48) rfl (hw _ (List.mem_of_getElem? (i := 5) rfl)) (hw _ (List.mem_of_getElem? (i := 6) rfl)) (hw _ (List.mem_of_getElem? (i := 7) rfl)) (by decide) (by decide) fun T27 h29 b2 g30 W28 E31 A32 D33 => ?_
      have O_b2 := new_Str hw A32 D33
      refine g_dup W28 d_method_2_code_48 (pc' := 49) rfl rfl ?_
      refine g_iconst W28 d_method_2_code_49 (pc' := 50) (v := (1 : Int32)) rfl rfl ?_
      refine g_newarray W28 d_method_2_code_50 (pc' := 52) (cap := 1) rfl (hw _ (List.mem_of_getElem? (i := 8) rfl)) (by decide) (by decide) (by decide) (by decide) (by decide) fun T34 h36 b1 kA40 g37 W35 E38 A39 => ?_
      have A41 : Arv Z h36 b1 kA40 .char (1 : Int32) [(.int (0 : Int32))] (.int (0 : Int32)) := A39.pad (pad_rep [] (.int (0 : Int32)) 1)
      refine g_dup W35 d_method_2_code_52 (pc' := 53) rfl rfl ?_
      refine g_iconst W35 d_method_2_code_53 (pc' := 54) (v := (0 : Int32)) rfl rfl ?_
      refine g_iload_n W35 d_method_2_code_54 (pc' := 55) rfl rfl ?_
      refine g_castore W35 d_method_2_code_55 (pc' := 56) (i := 0) (x' := ((p1.toUInt32 >>> ((2 : Int32) &&& 31).toUInt32).toInt32) &&& (255 : Int32)) rfl (nar_mask ((p1.toUInt32 >>> ((2 : Int32) &&& 31).toUInt32).toInt32)) A41 ⟨by decide, by decide⟩ rfl (Nat.le_of_ble_eq_true rfl) (List.mem_of_getElem? (i := 0) rfl) fun T42 h44 W43 R45 A46 => ?_
      have A47 : Arv Z h44 b1 kA40 .char (1 : Int32) [(.int (((p1.toUInt32 >>> ((2 : Int32) &&& 31).toUInt32).toInt32) &&& (255 : Int32)))] (.int (0 : Int32)) := A46
      have K48 : Keep h29 h44 [] := (((Keep.refl h29 []).ext E38).wr R45 (Or.inr (Nat.le_of_eq g37.symm)))
      have F49 := O_b2.mv K48
      refine g_special W43 d_method_2_code_56 (pc' := 59) (a := b2) (fr' := [b2]) (argsL := [(.ref b1)]) (rest := [(.ref b2)]) (Wd := 1) (kc := 1) (ks := 1) rfl rfl (hw _ (List.mem_of_getElem? (i := 9) rfl)) (hw _ (List.mem_of_getElem? (i := 10) rfl)) (hw _ (List.mem_of_getElem? (i := 11) rfl)) (by decide) rfl rfl (lenOf pd_8 rfl) rfl (allS (List.mem_of_getElem? (i := 1) rfl) (all0)) (by decide) (by decide) (pays_newStr (cs := [((p1.toUInt32 >>> ((2 : Int32) &&& 31).toUInt32).toInt32) &&& (255 : Int32)]) hEL (fun d hd => hw d ((by decide +kernel : ∀ d ∈ StrChars.Road.words, d ∈ tables_1) d hd)) (hw _ (List.mem_of_getElem? (i := 6) rfl)) F49 A47 Sc hzc W43.ext (W43.frs b2 (List.mem_of_getElem? (i := 1) rfl)).1 rfl (by decide) (by decide) (by decide) (lowC _ lowN) (by decide) (by decide)) fun v55 T50 h52 W51 K53 q54 => ?_
      obtain ⟨rfl, S_b2⟩ := q54
      show Goes _ _ _ _ _ _ _ _ _ _ _ T50 (mkF m 59 #[.val (.int p1), .val (.int ((p1 &&& (3 : Int32)) % (3 : Int32))), .val (.int ((((p1.toUInt32 >>> ((2 : Int32) &&& 31).toUInt32).toInt32) &&& (255 : Int32)).toUInt32.toUInt16.toUInt32.toInt32)), .val (.int ((((p1.toUInt32 >>> ((10 : Int32) &&& 31).toUInt32).toInt32) &&& (255 : Int32)).toUInt32.toUInt16.toUInt32.toInt32))] [(.ref b2)])
      have K56 : Keep h h29 [] := ((Keep.refl h []).ext E31)
      have K57 : Keep h h52 [] := (((((Keep.refl h []).ext E31).ext E38).wr R45 (Or.inr (Nat.le_trans K56.1 (Nat.le_of_eq g37.symm)))).trans K53 fun x q => by cases List.mem_singleton.mp q; exact Or.inr (Nat.le_of_eq g30.symm))
      exact g_areturn W51 d_method_2_code_59 rfl rfl rfl K57 ⟨_, rfl, S_b2.exa⟩ (by decide) (by decide)
    · refine g_icmpY W d_method_2_code_42 (pc' := 60) (by decide) (by decide) (Jvm.Free.XT.ii_ne_t c26) ?_
      refine g_new W d_method_2_code_60 (pc' := 63) rfl (hw _ (List.mem_of_getElem? (i := 5) rfl)) (hw _ (List.mem_of_getElem? (i := 6) rfl)) (hw _ (List.mem_of_getElem? (i := 7) rfl)) (by decide) (by decide) fun T58 h60 b2 g61 W59 E62 A63 D64 => ?_
      have O_b2 := new_Str hw A63 D64
      refine g_dup W59 d_method_2_code_63 (pc' := 64) rfl rfl ?_
      refine g_iconst W59 d_method_2_code_64 (pc' := 65) (v := (2 : Int32)) rfl rfl ?_
      refine g_newarray W59 d_method_2_code_65 (pc' := 67) (cap := 2) rfl (hw _ (List.mem_of_getElem? (i := 8) rfl)) (by decide) (by decide) (by decide) (by decide) (by decide) fun T65 h67 b1 kA71 g68 W66 E69 A70 => ?_
      have A72 : Arv Z h67 b1 kA71 .char (2 : Int32) [(.int (0 : Int32)), (.int (0 : Int32))] (.int (0 : Int32)) := A70.pad (pad_rep [] (.int (0 : Int32)) 2)
      refine g_dup W66 d_method_2_code_67 (pc' := 68) rfl rfl ?_
      refine g_iconst W66 d_method_2_code_68 (pc' := 69) (v := (0 : Int32)) rfl rfl ?_
      refine g_iload_n W66 d_method_2_code_69 (pc' := 70) rfl rfl ?_
      refine g_castore W66 d_method_2_code_70 (pc' := 71) (i := 0) (x' := ((p1.toUInt32 >>> ((2 : Int32) &&& 31).toUInt32).toInt32) &&& (255 : Int32)) rfl (nar_mask ((p1.toUInt32 >>> ((2 : Int32) &&& 31).toUInt32).toInt32)) A72 ⟨by decide, by decide⟩ rfl (Nat.le_of_ble_eq_true rfl) (List.mem_of_getElem? (i := 0) rfl) fun T73 h75 W74 R76 A77 => ?_
      have A78 : Arv Z h75 b1 kA71 .char (2 : Int32) [(.int (((p1.toUInt32 >>> ((2 : Int32) &&& 31).toUInt32).toInt32) &&& (255 : Int32))), (.int (0 : Int32))] (.int (0 : Int32)) := A77
      refine g_dup W74 d_method_2_code_71 (pc' := 72) rfl rfl ?_
      refine g_iconst W74 d_method_2_code_72 (pc' := 73) (v := (1 : Int32)) rfl rfl ?_
      refine g_iload_n W74 d_method_2_code_73 (pc' := 74) rfl rfl ?_
      refine g_castore W74 d_method_2_code_74 (pc' := 75) (i := 1) (x' := ((p1.toUInt32 >>> ((10 : Int32) &&& 31).toUInt32).toInt32) &&& (255 : Int32)) rfl (nar_mask ((p1.toUInt32 >>> ((10 : Int32) &&& 31).toUInt32).toInt32)) A78 ⟨by decide, by decide⟩ rfl (Nat.le_of_ble_eq_true rfl) (List.mem_of_getElem? (i := 0) rfl) fun T79 h81 W80 R82 A83 => ?_
      have A84 : Arv Z h81 b1 kA71 .char (2 : Int32) [(.int (((p1.toUInt32 >>> ((2 : Int32) &&& 31).toUInt32).toInt32) &&& (255 : Int32))), (.int (((p1.toUInt32 >>> ((10 : Int32) &&& 31).toUInt32).toInt32) &&& (255 : Int32)))] (.int (0 : Int32)) := A83
      have K85 : Keep h60 h81 [] := ((((Keep.refl h60 []).ext E69).wr R76 (Or.inr (Nat.le_of_eq g68.symm))).wr R82 (Or.inr (Nat.le_of_eq g68.symm)))
      have F86 := O_b2.mv K85
      refine g_special W80 d_method_2_code_75 (pc' := 78) (a := b2) (fr' := [b2]) (argsL := [(.ref b1)]) (rest := [(.ref b2)]) (Wd := 1) (kc := 1) (ks := 2) rfl rfl (hw _ (List.mem_of_getElem? (i := 9) rfl)) (hw _ (List.mem_of_getElem? (i := 10) rfl)) (hw _ (List.mem_of_getElem? (i := 11) rfl)) (by decide) rfl rfl (lenOf pd_8 rfl) rfl (allS (List.mem_of_getElem? (i := 1) rfl) (all0)) (by decide) (by decide) (pays_newStr (cs := [((p1.toUInt32 >>> ((2 : Int32) &&& 31).toUInt32).toInt32) &&& (255 : Int32), ((p1.toUInt32 >>> ((10 : Int32) &&& 31).toUInt32).toInt32) &&& (255 : Int32)]) hEL (fun d hd => hw d ((by decide +kernel : ∀ d ∈ StrChars.Road.words, d ∈ tables_1) d hd)) (hw _ (List.mem_of_getElem? (i := 6) rfl)) F86 A84 Sc hzc W80.ext (W80.frs b2 (List.mem_of_getElem? (i := 1) rfl)).1 rfl (by decide) (by decide) (by decide) (lowC _ (lowC _ lowN)) (by decide) (by decide)) fun v92 T87 h89 W88 K90 q91 => ?_
      obtain ⟨rfl, S_b2⟩ := q91
      show Goes _ _ _ _ _ _ _ _ _ _ _ T87 (mkF m 78 #[.val (.int p1), .val (.int ((p1 &&& (3 : Int32)) % (3 : Int32))), .val (.int ((((p1.toUInt32 >>> ((2 : Int32) &&& 31).toUInt32).toInt32) &&& (255 : Int32)).toUInt32.toUInt16.toUInt32.toInt32)), .val (.int ((((p1.toUInt32 >>> ((10 : Int32) &&& 31).toUInt32).toInt32) &&& (255 : Int32)).toUInt32.toUInt16.toUInt32.toInt32))] [(.ref b2)])
      have K93 : Keep h h60 [] := ((Keep.refl h []).ext E62)
      have K94 : Keep h h89 [] := ((((((Keep.refl h []).ext E62).ext E69).wr R76 (Or.inr (Nat.le_trans K93.1 (Nat.le_of_eq g68.symm)))).wr R82 (Or.inr (Nat.le_trans K93.1 (Nat.le_of_eq g68.symm)))).trans K90 fun x q => by cases List.mem_singleton.mp q; exact Or.inr (Nat.le_of_eq g61.symm))
      exact g_areturn W88 d_method_2_code_78 rfl rfl rfl K94 ⟨_, rfl, S_b2.exa⟩ (by decide) (by decide)
theorem d_jdk_30_method_1_code_0 : decode jdk_30_method_1_code 0 = .ok (.aload_n 0, 1) := by decide +kernel
theorem d_jdk_30_method_1_code_1 : decode jdk_30_method_1_code 1 = .ok (.invokespecial 1, 3) := by decide +kernel
theorem d_jdk_30_method_1_code_4 : decode jdk_30_method_1_code 4 = .ok (.return_, 1) := by decide +kernel
theorem pf_15 : plainFor (⟨"java/lang/Record", "<init>", "()V"⟩ : MethodName) = true := by first | (exact plainFor_of_name (by first | (simp [plainName, overriddenIn]; done) | decide +kernel)) | decide +kernel
set_option maxRecDepth 65536 in
set_option maxHeartbeats 40000000 in
theorem rm_rec {l : Launch} {Z : State} {a0 : Array Value} (hw : ∀ d ∈ tables_1, d.before a0 Z = true) (hEL : EW Z a0 EL1) {zc : Int32} (Sc : Sta Z Z.heap "java/lang/String" "COMPACT_STRINGS" "Z" (.int zc)) (hzc : ¬ zc = 0) (a1 : Addr) (h : Heap) (hX : Ext Z.heap h)  : Met l Z EL1 NW (⟨"java/lang/Record", "<init>", "()V"⟩ : MethodName) jdk_30_method_1_code 1 none [] ({ frames := 1, cells := 0, slots := 0, locals := 12 } : Room) #[(.ref a1)] h [] (fun v h' => h = h' ∧ v = none) := by
  refine Met.intro pf_15 hEL hX (fun _ q => nomatch q) ?_
  intro p e s m below meth c T W
  refine Goes.cast (show entryFrame m #[(.ref a1)] 1 = mkF m 0 #[.val (.ref a1)] [] by first | (simp [entryFrame, mkF, argsToLocals, Value.category]; done) | rfl) ?_
  refine g_aload_n W d_jdk_30_method_1_code_0 (pc' := 1) rfl rfl rfl ?_
  refine g_initO W d_jdk_30_method_1_code_1 (pc' := 4) (Wd := 0) rfl (hw _ (List.mem_of_getElem? (i := 109) rfl)) (hw _ (List.mem_of_getElem? (i := 17) rfl)) (hw _ (List.mem_of_getElem? (i := 18) rfl)) rfl rfl (by decide) (by decide) fun T1 W2 => ?_
  exact g_return W2 d_jdk_30_method_1_code_4 (Keep.refl h []) ⟨rfl, rfl⟩ (by decide) (by decide)
theorem d_prog_9_method_1_code_0 : decode prog_9_method_1_code 0 = .ok (.aload_n 0, 1) := by decide +kernel
theorem d_prog_9_method_1_code_1 : decode prog_9_method_1_code 1 = .ok (.invokespecial 1, 3) := by decide +kernel
theorem d_prog_9_method_1_code_4 : decode prog_9_method_1_code 4 = .ok (.aload_n 0, 1) := by decide +kernel
theorem d_prog_9_method_1_code_5 : decode prog_9_method_1_code 5 = .ok (.aload_n 1, 1) := by decide +kernel
theorem d_prog_9_method_1_code_6 : decode prog_9_method_1_code 6 = .ok (.putfield 7, 3) := by decide +kernel
theorem d_prog_9_method_1_code_9 : decode prog_9_method_1_code 9 = .ok (.aload_n 0, 1) := by decide +kernel
theorem d_prog_9_method_1_code_10 : decode prog_9_method_1_code 10 = .ok (.aload_n 2, 1) := by decide +kernel
theorem d_prog_9_method_1_code_11 : decode prog_9_method_1_code 11 = .ok (.putfield 13, 3) := by decide +kernel
theorem d_prog_9_method_1_code_14 : decode prog_9_method_1_code 14 = .ok (.return_, 1) := by decide +kernel
theorem pf_16 : plainFor (⟨"com/example/tethercall/tethercall/JsonPointer", "<init>", "(Ljava/lang/String;Ljava/util/List;)V"⟩ : MethodName) = true := by first | (exact plainFor_of_name (by first | (simp [plainName, overriddenIn]; done) | decide +kernel)) | decide +kernel
set_option maxRecDepth 65536 in
set_option maxHeartbeats 40000000 in
theorem rm_init {l : Launch} {Z : State} {a0 : Array Value} (hw : ∀ d ∈ tables_1, d.before a0 Z = true) (hEL : EW Z a0 EL1) {zc : Int32} (Sc : Sta Z Z.heap "java/lang/String" "COMPACT_STRINGS" "Z" (.int zc)) (hzc : ¬ zc = 0) (a1 : Addr) (v2 : Value) (v3 : Value) (h : Heap) (hX : Ext Z.heap h) (r2 : v2.isRef = true) (r3 : v3.isRef = true) (g1 : Z.heap.size ≤ a1) (O1 : Obj Z h a1 "com/example/tethercall/tethercall/JsonPointer" [(("com/example/tethercall/tethercall/JsonPointer", "text", "Ljava/lang/String;"), .null), (("com/example/tethercall/tethercall/JsonPointer", "tokens", "Ljava/util/List;"), .null)]) : Met l Z EL1 NW (⟨"com/example/tethercall/tethercall/JsonPointer", "<init>", "(Ljava/lang/String;Ljava/util/List;)V"⟩ : MethodName) prog_9_method_1_code 3 none [] ({ frames := 2, cells := 0, slots := 0, locals := 30 } : Room) #[(.ref a1), v2, v3] h [a1] (fun v h' => v = none ∧ Obj Z h' a1 "com/example/tethercall/tethercall/JsonPointer" [(("com/example/tethercall/tethercall/JsonPointer", "text", "Ljava/lang/String;"), v2), (("com/example/tethercall/tethercall/JsonPointer", "tokens", "Ljava/util/List;"), v3)]) := by
  refine Met.intro pf_16 hEL hX (allS ⟨g1, O1.lt⟩ all0) ?_
  intro p e s m below meth c T W
  refine Goes.cast (show entryFrame m #[(.ref a1), v2, v3] 3 = mkF m 0 #[.val (.ref a1), .val v2, .val v3] [] by simp [entryFrame, mkF, argsToLocals, cat_ref, cat_int, cat_null, cat_long, Jvm.Free.XT.cat1 r2, Jvm.Free.XT.cat1 r3]) ?_
  refine g_aload_n W d_prog_9_method_1_code_0 (pc' := 1) rfl rfl rfl ?_
  refine g_special W d_prog_9_method_1_code_1 (pc' := 4) (a := a1) (fr' := []) (argsL := []) (rest := []) (Wd := 0) (kc := 0) (ks := 0) rfl rfl (hw _ (List.mem_of_getElem? (i := 104) rfl)) (hw _ (List.mem_of_getElem? (i := 105) rfl)) (hw _ (List.mem_of_getElem? (i := 108) rfl)) (by decide) rfl rfl (lenOf pd_1 rfl) rfl all0 (by decide) (by decide) (Met.pays (rm_rec hw hEL Sc hzc a1 _ W.ext) (hw _ (List.mem_of_getElem? (i := 108) rfl)) (hw _ (List.mem_of_getElem? (i := 107) rfl)) hEL (by decide) (by decide)) fun v6 T1 h3 W2 K4 q5 => ?_
  obtain ⟨rfl, rfl⟩ := q5
  show Goes _ _ _ _ _ _ _ _ _ _ _ T1 (mkF m 4 #[.val (.ref a1), .val v2, .val v3] [])
  refine g_aload_n W2 d_prog_9_method_1_code_4 (pc' := 5) rfl rfl rfl ?_
  refine g_aload_n W2 d_prog_9_method_1_code_5 (pc' := 6) rfl rfl r2 ?_
  refine g_putfield W2 d_prog_9_method_1_code_6 (pc' := 9) (host := "") (ty := (.object "java/lang/String")) rfl (Or.inl (hw _ (List.mem_of_getElem? (i := 110) rfl))) Via.refl (O1.get 0 rfl) O1.1 (Or.inr ⟨(hw _ (List.mem_of_getElem? (i := 111) rfl)), rfl, rfl⟩) (hw _ (List.mem_of_getElem? (i := 98) rfl)) (by decide) rfl (fits_ref0 rfl r2) (List.mem_of_getElem? (i := 0) rfl) fun T7 h9 W8 R10 => ?_
  have O11 : Obj Z h9 a1 "com/example/tethercall/tethercall/JsonPointer" [(("com/example/tethercall/tethercall/JsonPointer", "text", "Ljava/lang/String;"), v2), (("com/example/tethercall/tethercall/JsonPointer", "tokens", "Ljava/util/List;"), .null)] := O1.put R10 0 rfl (dis_Jp hw)
  refine g_aload_n W8 d_prog_9_method_1_code_9 (pc' := 10) rfl rfl rfl ?_
  refine g_aload_n W8 d_prog_9_method_1_code_10 (pc' := 11) rfl rfl r3 ?_
  refine g_putfield W8 d_prog_9_method_1_code_11 (pc' := 14) (host := "") (ty := (.object "java/util/List")) rfl (Or.inl (hw _ (List.mem_of_getElem? (i := 112) rfl))) Via.refl (O11.get 1 rfl) O11.1 (Or.inr ⟨(hw _ (List.mem_of_getElem? (i := 113) rfl)), rfl, rfl⟩) (hw _ (List.mem_of_getElem? (i := 98) rfl)) (by decide) rfl (fits_ref0 rfl r3) (List.mem_of_getElem? (i := 0) rfl) fun T12 h14 W13 R15 => ?_
  have O16 : Obj Z h14 a1 "com/example/tethercall/tethercall/JsonPointer" [(("com/example/tethercall/tethercall/JsonPointer", "text", "Ljava/lang/String;"), v2), (("com/example/tethercall/tethercall/JsonPointer", "tokens", "Ljava/util/List;"), v3)] := O11.put R15 1 rfl (dis_Jp hw)
  have K17 : Keep h h14 [a1] := (((Keep.refl h [a1]).wr R10 (Or.inl (List.mem_of_getElem? (i := 0) rfl))).wr R15 (Or.inl (List.mem_of_getElem? (i := 0) rfl)))
  exact g_return W13 d_prog_9_method_1_code_14 K17 ⟨rfl, O16⟩ (by decide) (by decide)
theorem d_prog_9_method_7_code_0 : decode prog_9_method_7_code 0 = .ok (.aload_n 0, 1) := by decide +kernel
theorem d_prog_9_method_7_code_1 : decode prog_9_method_7_code 1 = .ok (.getfield 13, 3) := by decide +kernel
theorem d_prog_9_method_7_code_4 : decode prog_9_method_7_code 4 = .ok (.aload_n 0, 1) := by decide +kernel
theorem d_prog_9_method_7_code_5 : decode prog_9_method_7_code 5 = .ok (.getfield 13, 3) := by decide +kernel
theorem pn_0 : plainName "java/util/ArrayList" = true := by first | (simp [plainName, overriddenIn]; done) | decide +kernel
theorem d_jdk_38_method_8_code_0 : decode jdk_38_method_8_code 0 = .ok (.aload_n 0, 1) := by decide +kernel
theorem d_jdk_38_method_8_code_1 : decode jdk_38_method_8_code 1 = .ok (.getfield 48, 3) := by decide +kernel
theorem d_jdk_38_method_8_code_4 : decode jdk_38_method_8_code 4 = .ok (.ireturn, 1) := by decide +kernel
theorem d_prog_9_method_7_code_8 : decode prog_9_method_7_code 8 = .ok (.invokeinterface 100 1, 5) := by decide +kernel
theorem pd_9 : parseMethodDescriptor "()I" = some ⟨[], some .int⟩ := by decide +kernel
theorem d_prog_9_method_7_code_13 : decode prog_9_method_7_code 13 = .ok (.iconst 1, 1) := by decide +kernel
theorem d_prog_9_method_7_code_14 : decode prog_9_method_7_code 14 = .ok (.isub, 1) := by decide +kernel
theorem d_prog_9_method_7_code_15 : decode prog_9_method_7_code 15 = .ok (.invokeinterface 107 2, 5) := by decide +kernel
theorem d_prog_9_method_7_code_20 : decode prog_9_method_7_code 20 = .ok (.checkcast 18, 3) := by decide +kernel
theorem d_prog_9_method_7_code_23 : decode prog_9_method_7_code 23 = .ok (.areturn, 1) := by decide +kernel
theorem pf_17 : plainFor (⟨"com/example/tethercall/tethercall/JsonPointer", "last", "()Ljava/lang/String;"⟩ : MethodName) = true := by first | (exact plainFor_of_name (by first | (simp [plainName, overriddenIn]; done) | decide +kernel)) | decide +kernel
set_option maxRecDepth 65536 in
set_option maxHeartbeats 40000000 in
theorem rm_last {l : Launch} {Z : State} {a0 : Array Value} (hw : ∀ d ∈ tables_1, d.before a0 Z = true) (hEL : EW Z a0 EL1) {zc : Int32} (Sc : Sta Z Z.heap "java/lang/String" "COMPACT_STRINGS" "Z" (.int zc)) (hzc : ¬ zc = 0) (a1 l1 d x : Addr) (k : ClassId) (mc n : Int32) (vs : List Value) (v1 : Value) (h : Heap) (hX : Ext Z.heap h) (O1 : Obj Z h a1 "com/example/tethercall/tethercall/JsonPointer" [(("com/example/tethercall/tethercall/JsonPointer", "text", "Ljava/lang/String;"), v1), (("com/example/tethercall/tethercall/JsonPointer", "tokens", "Ljava/util/List;"), (.ref l1))]) (Ol : Obj Z h l1 "java/util/ArrayList" [(("java/util/AbstractList", "modCount", "I"), (.int mc)), (("java/util/ArrayList", "elementData", "[Ljava/lang/Object;"), (.ref d)), (("java/util/ArrayList", "size", "I"), (.int n))]) (Ad : Arv Z h d k (.object "java/lang/Object") (10 : Int32) vs .null) (q : ¬ (n - 1) < 0 ∧ (n - 1) < (10 : Int32)) (q2 : (n - 1) < n) (e1 : vs.getD (n - 1).toNatClampNeg .null = .ref x) (X1 : Exa Z h x "java/lang/String") : Met l Z EL1 NW (⟨"com/example/tethercall/tethercall/JsonPointer", "last", "()Ljava/lang/String;"⟩ : MethodName) prog_9_method_7_code 1 (some (.object "java/lang/String")) [] ({ frames := 3, cells := 0, slots := 0, locals := 100 } : Room) #[(.ref a1)] h [] (fun v h' => h = h' ∧ v = some (.ref x)) := by
  refine Met.intro pf_17 hEL hX (fun _ q => nomatch q) ?_
  intro p e s m below meth c T W
  refine Goes.cast (show entryFrame m #[(.ref a1)] 1 = mkF m 0 #[.val (.ref a1)] [] by first | (simp [entryFrame, mkF, argsToLocals, Value.category]; done) | rfl) ?_
  refine g_aload_n W d_prog_9_method_7_code_0 (pc' := 1) rfl rfl rfl ?_
  refine g_getfield W d_prog_9_method_7_code_1 (pc' := 4) (host := "") rfl (Or.inl (hw _ (List.mem_of_getElem? (i := 112) rfl))) Via.refl (O1.get 1 rfl) fun T1 W2 => ?_
  refine g_aload_n W2 d_prog_9_method_7_code_4 (pc' := 5) rfl rfl rfl ?_
  refine g_getfield W2 d_prog_9_method_7_code_5 (pc' := 8) (host := "") rfl (Or.inl (hw _ (List.mem_of_getElem? (i := 112) rfl))) Via.refl (O1.get 1 rfl) fun T3 W4 => ?_
  refine g_interface W4 d_prog_9_method_7_code_8 (pc' := 13) (a := l1) (fr' := []) (argsL := []) (rest := [(.ref l1)]) (Wd := 1) (kc := 0) (ks := 0) rfl (hw _ (List.mem_of_getElem? (i := 119) rfl)) (hw _ (List.mem_of_getElem? (i := 120) rfl)) (hw _ (List.mem_of_getElem? (i := 121) rfl)) (hw _ (List.mem_of_getElem? (i := 122) rfl)) (hw _ (List.mem_of_getElem? (i := 123) rfl)) (hw _ (List.mem_of_getElem? (i := 124) rfl)) (hw _ (List.mem_of_getElem? (i := 125) rfl)) (hw _ (List.mem_of_getElem? (i := 69) rfl)) rfl (by decide) Ol.1 rfl rfl (lenOf pd_9 rfl) rfl all0 (by decide) (by decide) (Met.pays (met_getter (rm := ({ frames := 0, cells := 0, slots := 0, locals := 0 } : Room)) (plainFor_of_name pn_0) hEL W4.ext d_jdk_38_method_8_code_0 d_jdk_38_method_8_code_1 (hw _ (List.mem_of_getElem? (i := 73) rfl)) (Ol.get 2 rfl) (Or.inr ⟨d_jdk_38_method_8_code_4, by decide, rfl, _, rfl⟩)) (hw _ (List.mem_of_getElem? (i := 126) rfl)) (hw _ (List.mem_of_getElem? (i := 40) rfl)) hEL (by decide) (by decide)) fun v10 T5 h7 W6 K8 q9 => ?_
  obtain ⟨rfl, rfl⟩ := q9
  show Goes _ _ _ _ _ _ _ _ _ _ _ T5 (mkF m 13 #[.val (.ref a1)] [(.int n), (.ref l1)])
  refine g_iconst W6 d_prog_9_method_7_code_13 (pc' := 14) (v := (1 : Int32)) rfl rfl ?_
  refine g_isub W6 d_prog_9_method_7_code_14 (pc' := 15) rfl ?_
  refine g_interface W6 d_prog_9_method_7_code_15 (pc' := 20) (a := l1) (fr' := []) (argsL := [(.int (n - (1 : Int32)))]) (rest := []) (Wd := 0) (kc := 0) (ks := 0) rfl (hw _ (List.mem_of_getElem? (i := 127) rfl)) (hw _ (List.mem_of_getElem? (i := 128) rfl)) (hw _ (List.mem_of_getElem? (i := 129) rfl)) (hw _ (List.mem_of_getElem? (i := 130) rfl)) (hw _ (List.mem_of_getElem? (i := 131) rfl)) (hw _ (List.mem_of_getElem? (i := 132) rfl)) (hw _ (List.mem_of_getElem? (i := 133) rfl)) (hw _ (List.mem_of_getElem? (i := 69) rfl)) rfl (by decide) Ol.1 rfl rfl (lenOf pd_7 rfl) rfl all0 (by decide) (by decide) (Met.pays (rm_get hw hEL Sc hzc l1 d k mc n (10 : Int32) (n - 1) vs (.ref x) _ W6.ext Ol Ad q q2 e1 rfl) (hw _ (List.mem_of_getElem? (i := 134) rfl)) (hw _ (List.mem_of_getElem? (i := 40) rfl)) hEL (by decide) (by decide)) fun v16 T11 h13 W12 K14 q15 => ?_
  obtain ⟨rfl, rfl⟩ := q15
  show Goes _ _ _ _ _ _ _ _ _ _ _ T11 (mkF m 20 #[.val (.ref a1)] [(.ref x)])
  refine g_checkcast W12 d_prog_9_method_7_code_20 (pc' := 23) rfl (hw _ (List.mem_of_getElem? (i := 148) rfl)) (Ins.of_exa X1 (hw _ (List.mem_of_getElem? (i := 14) rfl))) fun T17 W18 => ?_
  exact g_areturn W18 d_prog_9_method_7_code_23 rfl rfl rfl (Keep.refl h []) ⟨rfl, rfl⟩ (by decide) (by decide)
theorem pd_10 : parseMethodDescriptor "(I)Ljava/lang/String;" = some ⟨[.int], some (.object "java/lang/String")⟩ := by decide +kernel
theorem pd_11 : parseMethodDescriptor "(Ljava/lang/Object;)Z" = some ⟨[(.object "java/lang/Object")], some .boolean⟩ := by decide +kernel
theorem pd_12 : parseMethodDescriptor "(Ljava/lang/String;Ljava/util/List;)V" = some ⟨[(.object "java/lang/String"), (.object "java/util/List")], none⟩ := by decide +kernel
theorem pd_13 : parseMethodDescriptor "()Ljava/lang/String;" = some ⟨[], some (.object "java/lang/String")⟩ := by decide +kernel
theorem d_prog_9_method_13_code_4 : decode prog_9_method_13_code 4 = .ok (.areturn, 1) := by decide +kernel
theorem pn_1 : plainName "com/example/tethercall/tethercall/JsonPointer" = true := by first | (simp [plainName, overriddenIn]; done) | decide +kernel
theorem d_prog_9_method_13_code_0 : decode prog_9_method_13_code 0 = .ok (.aload_n 0, 1) := by decide +kernel
theorem d_prog_9_method_13_code_1 : decode prog_9_method_13_code 1 = .ok (.getfield 13, 3) := by decide +kernel
theorem pd_14 : parseMethodDescriptor "()Ljava/util/List;" = some ⟨[], some (.object "java/util/List")⟩ := by decide +kernel
theorem pn_2 : plainName "com/example/tethercall/tethercall/JsonPointerLastPinLaw" = true := by first | (simp [plainName, overriddenIn]; done) | decide +kernel
set_option maxRecDepth 65536 in
set_option maxHeartbeats 40000000 in
theorem rm_law {l : Launch} {Z : State} {a0 : Array Value} (hw : ∀ d ∈ tables_1, d.before a0 Z = true) (hEL : EW Z a0 EL1) {zc : Int32} (Sc : Sta Z Z.heap "java/lang/String" "COMPACT_STRINGS" "Z" (.int zc)) (hzc : ¬ zc = 0) (p1 p2 p3 p4 : Int32) {de : Addr} {kd : ClassId} (h : Heap) (hX : Ext Z.heap h) (Sd : Sta Z Z.heap "java/util/ArrayList" "DEFAULTCAPACITY_EMPTY_ELEMENTDATA" "[Ljava/lang/Object;" (.ref de)) (Ad : Arv Z Z.heap de kd (.object "java/lang/Object") (0 : Int32) [] .null) : Met l Z EL1 NW x code maxLocals ret tables_1 room_1 #[(.int p1), (.int p2), (.int p3), (.int p4)] h [] (fun v _ => v = some (.int 1)) := by
  refine Met.intro (plainFor_of_name pn_2) hEL hX (fun _ q => nomatch q) ?_
  intro p e s m below meth c T W
  refine Goes.cast (show entryFrame m #[(.int p1), (.int p2), (.int p3), (.int p4)] maxLocals = mkF m 0 #[.val (.int p1), .val (.int p2), .val (.int p3), .val (.int p4), .unset, .unset, .unset, .unset, .unset, .unset, .unset, .unset] [] by first | (simp [entryFrame, mkF, argsToLocals, Value.category, maxLocals]; done) | rfl) ?_
  refine g_iload_n W at_0 (pc' := 1) rfl rfl ?_
  refine g_ldcI W at_1 (pc' := 3) (v := (2147483647 : Int32)) rfl (hw _ (List.mem_of_getElem? (i := 0) rfl)) ?_
  refine g_iand W at_3 (pc' := 4) rfl ?_
  refine g_iconst W at_4 (pc' := 5) (v := (3 : Int32)) rfl rfl ?_
  refine g_irem W at_5 (pc' := 6) rfl (by decide) ?_
  rcases mod3 p1 with c1 | c1 | c1
  · rw [c1]
    refine g_iconst W at_6 (pc' := 7) (v := (1 : Int32)) rfl rfl ?_
    refine g_iadd W at_7 (pc' := 8) rfl ?_
    show Goes _ _ _ _ _ _ _ _ _ _ _ T (mkF m 8 #[.val (.int p1), .val (.int p2), .val (.int p3), .val (.int p4), .unset, .unset, .unset, .unset, .unset, .unset, .unset, .unset] [(.int (1 : Int32))])
    refine g_istore W at_8 (pc' := 10) (L' := #[.val (.int p1), .val (.int p2), .val (.int p3), .val (.int p4), .val (.int (1 : Int32)), .unset, .unset, .unset, .unset, .unset, .unset, .unset]) rfl rfl ?_
    refine g_iload_n W at_10 (pc' := 11) rfl rfl ?_
    refine g_static W at_11 (pc' := 14) (fr' := []) (argsL := [(.int p2)]) (rest := []) (Wd := 0) (kc := 6) (ks := 16) rfl (hw _ (List.mem_of_getElem? (i := 1) rfl)) (hw _ (List.mem_of_getElem? (i := 2) rfl)) (hw _ (List.mem_of_getElem? (i := 3) rfl)) (hw _ (List.mem_of_getElem? (i := 4) rfl)) (by decide) rfl rfl (lenOf pd_10 rfl) rfl all0 (by decide) (by decide) (Met.pays (rm_tok hw hEL Sc hzc p2 _ W.ext) (hw _ (List.mem_of_getElem? (i := 4) rfl)) (hw _ (List.mem_of_getElem? (i := 3) rfl)) hEL (by decide) (by decide)) fun v6 T1 h3 W2 K4 q5 => ?_
    obtain ⟨s1, rfl, X1⟩ := q5
    show Goes _ _ _ _ _ _ _ _ _ _ _ T1 (mkF m 14 #[.val (.int p1), .val (.int p2), .val (.int p3), .val (.int p4), .val (.int (1 : Int32)), .unset, .unset, .unset, .unset, .unset, .unset, .unset] [(.ref s1)])
    refine g_astore W2 at_14 (pc' := 16) (L' := #[.val (.int p1), .val (.int p2), .val (.int p3), .val (.int p4), .val (.int (1 : Int32)), .val (.ref s1), .unset, .unset, .unset, .unset, .unset, .unset]) rfl rfl rfl ?_
    refine g_iload_n W2 at_16 (pc' := 17) rfl rfl ?_
    refine g_static W2 at_17 (pc' := 20) (fr' := []) (argsL := [(.int p3)]) (rest := []) (Wd := 0) (kc := 6) (ks := 16) rfl (hw _ (List.mem_of_getElem? (i := 1) rfl)) (hw _ (List.mem_of_getElem? (i := 2) rfl)) (hw _ (List.mem_of_getElem? (i := 3) rfl)) (hw _ (List.mem_of_getElem? (i := 4) rfl)) (by decide) rfl rfl (lenOf pd_10 rfl) rfl all0 (by decide) (by decide) (Met.pays (rm_tok hw hEL Sc hzc p3 _ W2.ext) (hw _ (List.mem_of_getElem? (i := 4) rfl)) (hw _ (List.mem_of_getElem? (i := 3) rfl)) hEL (by decide) (by decide)) fun v12 T7 h9 W8 K10 q11 => ?_
    obtain ⟨s2, rfl, X2⟩ := q11
    show Goes _ _ _ _ _ _ _ _ _ _ _ T7 (mkF m 20 #[.val (.int p1), .val (.int p2), .val (.int p3), .val (.int p4), .val (.int (1 : Int32)), .val (.ref s1), .unset, .unset, .unset, .unset, .unset, .unset] [(.ref s2)])
    refine g_astore W8 at_20 (pc' := 22) (L' := #[.val (.int p1), .val (.int p2), .val (.int p3), .val (.int p4), .val (.int (1 : Int32)), .val (.ref s1), .val (.ref s2), .unset, .unset, .unset, .unset, .unset]) rfl rfl rfl ?_
    refine g_iload_n W8 at_22 (pc' := 23) rfl rfl ?_
    refine g_static W8 at_23 (pc' := 26) (fr' := []) (argsL := [(.int p4)]) (rest := []) (Wd := 0) (kc := 6) (ks := 16) rfl (hw _ (List.mem_of_getElem? (i := 1) rfl)) (hw _ (List.mem_of_getElem? (i := 2) rfl)) (hw _ (List.mem_of_getElem? (i := 3) rfl)) (hw _ (List.mem_of_getElem? (i := 4) rfl)) (by decide) rfl rfl (lenOf pd_10 rfl) rfl all0 (by decide) (by decide) (Met.pays (rm_tok hw hEL Sc hzc p4 _ W8.ext) (hw _ (List.mem_of_getElem? (i := 4) rfl)) (hw _ (List.mem_of_getElem? (i := 3) rfl)) hEL (by decide) (by decide)) fun v18 T13 h15 W14 K16 q17 => ?_
    obtain ⟨s3, rfl, X3⟩ := q17
    show Goes _ _ _ _ _ _ _ _ _ _ _ T13 (mkF m 26 #[.val (.int p1), .val (.int p2), .val (.int p3), .val (.int p4), .val (.int (1 : Int32)), .val (.ref s1), .val (.ref s2), .unset, .unset, .unset, .unset, .unset] [(.ref s3)])
    refine g_astore W14 at_26 (pc' := 28) (L' := #[.val (.int p1), .val (.int p2), .val (.int p3), .val (.int p4), .val (.int (1 : Int32)), .val (.ref s1), .val (.ref s2), .val (.ref s3), .unset, .unset, .unset, .unset]) rfl rfl rfl ?_
    refine g_new W14 at_28 (pc' := 31) rfl (hw _ (List.mem_of_getElem? (i := 38) rfl)) (hw _ (List.mem_of_getElem? (i := 39) rfl)) (hw _ (List.mem_of_getElem? (i := 40) rfl)) (by decide) (by decide) fun T19 h21 l1 g22 W20 E23 A24 D25 => ?_
    have O_l1 := new_AL hw A24 D25
    refine g_dup W20 at_31 (pc' := 32) rfl rfl ?_
    refine g_special W20 at_32 (pc' := 35) (a := l1) (fr' := [l1]) (argsL := []) (rest := [(.ref l1)]) (Wd := 1) (kc := 0) (ks := 0) rfl rfl (hw _ (List.mem_of_getElem? (i := 41) rfl)) (hw _ (List.mem_of_getElem? (i := 42) rfl)) (hw _ (List.mem_of_getElem? (i := 43) rfl)) (by decide) rfl rfl (lenOf pd_1 rfl) rfl (allS (List.mem_of_getElem? (i := 0) rfl) (all0)) (by decide) (by decide) (Met.pays (rm_alinit hw hEL Sc hzc l1 _ W20.ext Sd Ad (W20.frs l1 (List.mem_of_getElem? (i := 0) rfl)).1 O_l1) (hw _ (List.mem_of_getElem? (i := 43) rfl)) (hw _ (List.mem_of_getElem? (i := 40) rfl)) hEL (by decide) (by decide)) fun v31 T26 h28 W27 K29 q30 => ?_
    obtain ⟨rfl, Ol0⟩ := q30
    show Goes _ _ _ _ _ _ _ _ _ _ _ T26 (mkF m 35 #[.val (.int p1), .val (.int p2), .val (.int p3), .val (.int p4), .val (.int (1 : Int32)), .val (.ref s1), .val (.ref s2), .val (.ref s3), .unset, .unset, .unset, .unset] [(.ref l1)])
    refine g_astore W27 at_35 (pc' := 37) (L' := #[.val (.int p1), .val (.int p2), .val (.int p3), .val (.int p4), .val (.int (1 : Int32)), .val (.ref s1), .val (.ref s2), .val (.ref s3), .val (.ref l1), .unset, .unset, .unset]) rfl rfl rfl ?_
    refine g_aload W27 at_37 (pc' := 39) rfl rfl rfl ?_
    refine g_aload W27 at_39 (pc' := 41) rfl rfl rfl ?_
    have K32 : Keep h3 h15 [] := (((Keep.refl h3 []).trans K10 fun _ q => nomatch q).trans K16 fun _ q => nomatch q)
    have K33 : Keep h3 h28 [] := (((((Keep.refl h3 []).trans K10 fun _ q => nomatch q).trans K16 fun _ q => nomatch q).ext E23).trans K29 fun x q => by cases List.mem_singleton.mp q; exact Or.inr (Nat.le_trans K32.1 (Nat.le_of_eq g22.symm)))
    have F34 := X1.mv K33
    have hXa := W27.ext
    refine g_interface W27 at_41 (pc' := 46) (a := l1) (fr' := [l1]) (argsL := [(.ref s1)]) (rest := []) (Wd := 0) (kc := 1) (ks := 10) rfl (hw _ (List.mem_of_getElem? (i := 62) rfl)) (hw _ (List.mem_of_getElem? (i := 63) rfl)) (hw _ (List.mem_of_getElem? (i := 64) rfl)) (hw _ (List.mem_of_getElem? (i := 65) rfl)) (hw _ (List.mem_of_getElem? (i := 66) rfl)) (hw _ (List.mem_of_getElem? (i := 67) rfl)) (hw _ (List.mem_of_getElem? (i := 68) rfl)) (hw _ (List.mem_of_getElem? (i := 69) rfl)) rfl (by decide) Ol0.1 rfl rfl (lenOf pd_11 rfl) rfl (allS (List.mem_of_getElem? (i := 0) rfl) (all0)) (by decide) (by decide) (Met.pays (rm_addf hw hEL Sc hzc l1 s1 _ W27.ext Sd Ad (W27.frs l1 (List.mem_of_getElem? (i := 0) rfl)).1 (Ins.of_exa F34 (hw _ (List.mem_of_getElem? (i := 96) rfl))) Ol0) (hw _ (List.mem_of_getElem? (i := 70) rfl)) (hw _ (List.mem_of_getElem? (i := 40) rfl)) hEL (by decide) (by decide)) fun v40 T35 h37 W36 K38 q39 => ?_
    obtain ⟨rfl, d, kd2, gd, Ol1, Ad1, Ov⟩ := q39
    show Goes _ _ _ _ _ _ _ _ _ _ _ T35 (mkF m 46 #[.val (.int p1), .val (.int p2), .val (.int p3), .val (.int p4), .val (.int (1 : Int32)), .val (.ref s1), .val (.ref s2), .val (.ref s3), .val (.ref l1), .unset, .unset, .unset] [(.int (1 : Int32))])
    have W41 := W36.addArv Ad1 (by decide) (Nat.le_trans hXa.1 gd)
    refine g_pop W41 at_46 (pc' := 47) rfl rfl ?_
    refine g_iload W41 at_47 (pc' := 49) rfl rfl ?_
    refine g_iconst W41 at_49 (pc' := 50) (v := (2 : Int32)) rfl rfl ?_
    refine g_icmpY W41 at_50 (pc' := 63) (by decide) (by decide) (Jvm.Free.XT.ii_lt_t (by decide)) ?_
    refine g_iload W41 at_63 (pc' := 65) rfl rfl ?_
    refine g_iconst W41 at_65 (pc' := 66) (v := (3 : Int32)) rfl rfl ?_
    refine g_icmpY W41 at_66 (pc' := 79) (by decide) (by decide) (Jvm.Free.XT.ii_lt_t (by decide)) ?_
    refine g_iload W41 at_79 (pc' := 81) rfl rfl ?_
    refine g_iconst W41 at_81 (pc' := 82) (v := (1 : Int32)) rfl rfl ?_
    refine g_icmpN W41 at_82 (pc' := 85) rfl (Jvm.Free.XT.ii_ne_f rfl) ?_
    refine g_aload W41 at_85 (pc' := 87) rfl rfl rfl ?_
    refine g_goto W41 at_87 (pc' := 103) (by decide) (by decide) ?_
    refine g_astore W41 at_103 (pc' := 105) (L' := #[.val (.int p1), .val (.int p2), .val (.int p3), .val (.int p4), .val (.int (1 : Int32)), .val (.ref s1), .val (.ref s2), .val (.ref s3), .val (.ref l1), .val (.ref s1), .unset, .unset]) rfl rfl rfl ?_
    refine g_new W41 at_105 (pc' := 108) rfl (hw _ (List.mem_of_getElem? (i := 97) rfl)) (hw _ (List.mem_of_getElem? (i := 98) rfl)) (hw _ (List.mem_of_getElem? (i := 99) rfl)) (by decide) (by decide) fun T42 h44 o1 g45 W43 E46 A47 D48 => ?_
    have O_o1 := new_Jp hw A47 D48
    refine g_dup W43 at_108 (pc' := 109) rfl rfl ?_
    refine g_ldc W43 at_109 (pc' := 111) (text := "/x") (vs := [(.int (47 : Int32)), (.int (120 : Int32))]) (zz := (2 : Int32)) (n := 8) rfl (hw _ (List.mem_of_getElem? (i := 100) rfl)) (wS_of hw) (List.mem_of_getElem? (i := 0) rfl) ⟨by decide +kernel, by decide +kernel⟩ (by decide) (by decide) (by decide +kernel) (by decide) (by decide) (by decide) fun T49 h51 a59 b60 kb58 W50 E52 X53 C54 V55 A56 ne57 => ?_
    refine g_aload W50 at_111 (pc' := 113) rfl rfl rfl ?_
    have K67 : Keep h44 h51 [] := ((Keep.refl h44 []).ext E52)
    have F68 := O_o1.mv K67
    refine g_special W50 at_113 (pc' := 116) (a := o1) (fr' := [o1]) (argsL := [(.ref a59), (.ref l1)]) (rest := [(.ref o1)]) (Wd := 1) (kc := 0) (ks := 0) rfl rfl (hw _ (List.mem_of_getElem? (i := 101) rfl)) (hw _ (List.mem_of_getElem? (i := 102) rfl)) (hw _ (List.mem_of_getElem? (i := 103) rfl)) (by decide) rfl rfl (lenOf pd_12 rfl) rfl (allS (List.mem_of_getElem? (i := 0) rfl) (all0)) (by decide) (by decide) (Met.pays (rm_init hw hEL Sc hzc o1 (.ref a59) (.ref l1) _ W50.ext rfl rfl (W50.frs o1 (List.mem_of_getElem? (i := 0) rfl)).1 F68) (hw _ (List.mem_of_getElem? (i := 103) rfl)) (hw _ (List.mem_of_getElem? (i := 99) rfl)) hEL (by decide) (by decide)) fun v66 T61 h63 W62 K64 q65 => ?_
    obtain ⟨rfl, O69⟩ := q65
    show Goes _ _ _ _ _ _ _ _ _ _ _ T61 (mkF m 116 #[.val (.int p1), .val (.int p2), .val (.int p3), .val (.int p4), .val (.int (1 : Int32)), .val (.ref s1), .val (.ref s2), .val (.ref s3), .val (.ref l1), .val (.ref s1), .unset, .unset] [(.ref o1)])
    refine g_astore W62 at_116 (pc' := 118) (L' := #[.val (.int p1), .val (.int p2), .val (.int p3), .val (.int p4), .val (.int (1 : Int32)), .val (.ref s1), .val (.ref s2), .val (.ref s3), .val (.ref l1), .val (.ref s1), .val (.ref o1), .unset]) rfl rfl rfl ?_
    refine g_aload W62 at_118 (pc' := 120) rfl rfl rfl ?_
    have K70 : Keep h37 h63 [] := ((((Keep.refl h37 []).ext E46).ext E52).trans K64 fun x q => by cases List.mem_singleton.mp q; exact Or.inr (Nat.le_of_eq g45.symm))
    have F71 := Ol1.mv K70
    have F72 := Ad1.mv K70
    have K73 : Keep h3 h37 [] := ((((((Keep.refl h3 []).trans K10 fun _ q => nomatch q).trans K16 fun _ q => nomatch q).ext E23).trans K29 fun x q => by cases List.mem_singleton.mp q; exact Or.inr (Nat.le_trans K32.1 (Nat.le_of_eq g22.symm))).trans K38 fun x q => by cases List.mem_singleton.mp q; exact Or.inr (Nat.le_trans K32.1 (Nat.le_of_eq g22.symm)))
    have K74 : Keep h3 h63 [] := (((((((((Keep.refl h3 []).trans K10 fun _ q => nomatch q).trans K16 fun _ q => nomatch q).ext E23).trans K29 fun x q => by cases List.mem_singleton.mp q; exact Or.inr (Nat.le_trans K32.1 (Nat.le_of_eq g22.symm))).trans K38 fun x q => by cases List.mem_singleton.mp q; exact Or.inr (Nat.le_trans K32.1 (Nat.le_of_eq g22.symm))).ext E46).ext E52).trans K64 fun x q => by cases List.mem_singleton.mp q; exact Or.inr (Nat.le_trans K73.1 (Nat.le_of_eq g45.symm)))
    have F75 := X1.mv K74
    refine g_virtual W62 at_120 (pc' := 123) (a := o1) (fr' := []) (argsL := []) (rest := []) (Wd := 0) (kc := 0) (ks := 0) rfl (hw _ (List.mem_of_getElem? (i := 114) rfl)) (hw _ (List.mem_of_getElem? (i := 115) rfl)) (hw _ (List.mem_of_getElem? (i := 117) rfl)) (hw _ (List.mem_of_getElem? (i := 116) rfl)) (by decide) O69.1 rfl rfl (lenOf pd_13 rfl) rfl all0 (by decide) (by decide) (Met.pays (rm_last hw hEL Sc hzc o1 l1 d s1 kd2 (1 : Int32) (1 : Int32) _ _ _ W62.ext O69 F71 F72 (by decide) (by decide) rfl F75) (hw _ (List.mem_of_getElem? (i := 118) rfl)) (hw _ (List.mem_of_getElem? (i := 99) rfl)) hEL (by decide) (by decide)) fun v81 T76 h78 W77 K79 q80 => ?_
    obtain ⟨rfl, rfl⟩ := q80
    show Goes _ _ _ _ _ _ _ _ _ _ _ T76 (mkF m 123 #[.val (.int p1), .val (.int p2), .val (.int p3), .val (.int p4), .val (.int (1 : Int32)), .val (.ref s1), .val (.ref s2), .val (.ref s3), .val (.ref l1), .val (.ref s1), .val (.ref o1), .unset] [(.ref s1)])
    refine g_astore W77 at_123 (pc' := 125) (L' := #[.val (.int p1), .val (.int p2), .val (.int p3), .val (.int p4), .val (.int (1 : Int32)), .val (.ref s1), .val (.ref s2), .val (.ref s3), .val (.ref l1), .val (.ref s1), .val (.ref o1), .val (.ref s1)]) rfl rfl rfl ?_
    refine g_aload W77 at_125 (pc' := 127) rfl rfl rfl ?_
    refine g_aload W77 at_127 (pc' := 129) rfl rfl rfl ?_
    refine g_acmpN W77 at_129 (pc' := 132) rfl rfl rfl (Jvm.Free.XT.aa_ne_f rfl) ?_
    refine g_aload W77 at_132 (pc' := 134) rfl rfl rfl ?_
    refine g_virtual W77 at_134 (pc' := 137) (a := o1) (fr' := []) (argsL := []) (rest := []) (Wd := 0) (kc := 0) (ks := 0) rfl (hw _ (List.mem_of_getElem? (i := 149) rfl)) (hw _ (List.mem_of_getElem? (i := 150) rfl)) (hw _ (List.mem_of_getElem? (i := 152) rfl)) (hw _ (List.mem_of_getElem? (i := 151) rfl)) (by decide) O69.1 rfl rfl (lenOf pd_14 rfl) rfl all0 (by decide) (by decide) (Met.pays (met_getter (rm := ({ frames := 0, cells := 0, slots := 0, locals := 0 } : Room)) (plainFor_of_name pn_1) hEL W77.ext d_prog_9_method_13_code_0 d_prog_9_method_13_code_1 (hw _ (List.mem_of_getElem? (i := 112) rfl)) (O69.get 1 rfl) (Or.inl ⟨d_prog_9_method_13_code_4, rfl, rfl⟩)) (hw _ (List.mem_of_getElem? (i := 153) rfl)) (hw _ (List.mem_of_getElem? (i := 99) rfl)) hEL (by decide) (by decide)) fun v87 T82 h84 W83 K85 q86 => ?_
    obtain ⟨rfl, rfl⟩ := q86
    show Goes _ _ _ _ _ _ _ _ _ _ _ T82 (mkF m 137 #[.val (.int p1), .val (.int p2), .val (.int p3), .val (.int p4), .val (.int (1 : Int32)), .val (.ref s1), .val (.ref s2), .val (.ref s3), .val (.ref l1), .val (.ref s1), .val (.ref o1), .val (.ref s1)] [(.ref l1)])
    refine g_interface W83 at_137 (pc' := 142) (a := l1) (fr' := []) (argsL := []) (rest := []) (Wd := 0) (kc := 0) (ks := 0) rfl (hw _ (List.mem_of_getElem? (i := 154) rfl)) (hw _ (List.mem_of_getElem? (i := 120) rfl)) (hw _ (List.mem_of_getElem? (i := 121) rfl)) (hw _ (List.mem_of_getElem? (i := 122) rfl)) (hw _ (List.mem_of_getElem? (i := 123) rfl)) (hw _ (List.mem_of_getElem? (i := 124) rfl)) (hw _ (List.mem_of_getElem? (i := 125) rfl)) (hw _ (List.mem_of_getElem? (i := 69) rfl)) rfl (by decide) F71.1 rfl rfl (lenOf pd_9 rfl) rfl all0 (by decide) (by decide) (Met.pays (met_getter (rm := ({ frames := 0, cells := 0, slots := 0, locals := 0 } : Room)) (plainFor_of_name pn_0) hEL W83.ext d_jdk_38_method_8_code_0 d_jdk_38_method_8_code_1 (hw _ (List.mem_of_getElem? (i := 73) rfl)) (F71.get 2 rfl) (Or.inr ⟨d_jdk_38_method_8_code_4, by decide, rfl, _, rfl⟩)) (hw _ (List.mem_of_getElem? (i := 126) rfl)) (hw _ (List.mem_of_getElem? (i := 40) rfl)) hEL (by decide) (by decide)) fun v93 T88 h90 W89 K91 q92 => ?_
    obtain ⟨rfl, rfl⟩ := q92
    show Goes _ _ _ _ _ _ _ _ _ _ _ T88 (mkF m 142 #[.val (.int p1), .val (.int p2), .val (.int p3), .val (.int p4), .val (.int (1 : Int32)), .val (.ref s1), .val (.ref s2), .val (.ref s3), .val (.ref l1), .val (.ref s1), .val (.ref o1), .val (.ref s1)] [(.int (1 : Int32))])
    refine g_iload W89 at_142 (pc' := 144) rfl rfl ?_
    refine g_icmpN W89 at_144 (pc' := 147) rfl (Jvm.Free.XT.ii_ne_f rfl) ?_
    refine g_iconst W89 at_147 (pc' := 148) (v := (1 : Int32)) rfl rfl ?_
    refine g_goto W89 at_148 (pc' := 152) (by decide) (by decide) ?_
    have K94 : Keep h h15 [] := ((((Keep.refl h []).trans K4 fun _ q => nomatch q).trans K10 fun _ q => nomatch q).trans K16 fun _ q => nomatch q)
    have K95 : Keep h h37 [] := (((((((Keep.refl h []).trans K4 fun _ q => nomatch q).trans K10 fun _ q => nomatch q).trans K16 fun _ q => nomatch q).ext E23).trans K29 fun x q => by cases List.mem_singleton.mp q; exact Or.inr (Nat.le_trans K94.1 (Nat.le_of_eq g22.symm))).trans K38 fun x q => by cases List.mem_singleton.mp q; exact Or.inr (Nat.le_trans K94.1 (Nat.le_of_eq g22.symm)))
    have K96 : Keep h h63 [] := ((((((((((Keep.refl h []).trans K4 fun _ q => nomatch q).trans K10 fun _ q => nomatch q).trans K16 fun _ q => nomatch q).ext E23).trans K29 fun x q => by cases List.mem_singleton.mp q; exact Or.inr (Nat.le_trans K94.1 (Nat.le_of_eq g22.symm))).trans K38 fun x q => by cases List.mem_singleton.mp q; exact Or.inr (Nat.le_trans K94.1 (Nat.le_of_eq g22.symm))).ext E46).ext E52).trans K64 fun x q => by cases List.mem_singleton.mp q; exact Or.inr (Nat.le_trans K95.1 (Nat.le_of_eq g45.symm)))
    exact g_ireturn W89 at_152 (by decide) rfl K96 rfl (by decide) (by decide)
  · rw [c1]
    refine g_iconst W at_6 (pc' := 7) (v := (1 : Int32)) rfl rfl ?_
    refine g_iadd W at_7 (pc' := 8) rfl ?_
    show Goes _ _ _ _ _ _ _ _ _ _ _ T (mkF m 8 #[.val (.int p1), .val (.int p2), .val (.int p3), .val (.int p4), .unset, .unset, .unset, .unset, .unset, .unset, .unset, .unset] [(.int (2 : Int32))])
    refine g_istore W at_8 (pc' := 10) (L' := #[.val (.int p1), .val (.int p2), .val (.int p3), .val (.int p4), .val (.int (2 : Int32)), .unset, .unset, .unset, .unset, .unset, .unset, .unset]) rfl rfl ?_
    refine g_iload_n W at_10 (pc' := 11) rfl rfl ?_
    refine g_static W at_11 (pc' := 14) (fr' := []) (argsL := [(.int p2)]) (rest := []) (Wd := 0) (kc := 6) (ks := 16) rfl (hw _ (List.mem_of_getElem? (i := 1) rfl)) (hw _ (List.mem_of_getElem? (i := 2) rfl)) (hw _ (List.mem_of_getElem? (i := 3) rfl)) (hw _ (List.mem_of_getElem? (i := 4) rfl)) (by decide) rfl rfl (lenOf pd_10 rfl) rfl all0 (by decide) (by decide) (Met.pays (rm_tok hw hEL Sc hzc p2 _ W.ext) (hw _ (List.mem_of_getElem? (i := 4) rfl)) (hw _ (List.mem_of_getElem? (i := 3) rfl)) hEL (by decide) (by decide)) fun v102 T97 h99 W98 K100 q101 => ?_
    obtain ⟨s1, rfl, X1⟩ := q101
    show Goes _ _ _ _ _ _ _ _ _ _ _ T97 (mkF m 14 #[.val (.int p1), .val (.int p2), .val (.int p3), .val (.int p4), .val (.int (2 : Int32)), .unset, .unset, .unset, .unset, .unset, .unset, .unset] [(.ref s1)])
    refine g_astore W98 at_14 (pc' := 16) (L' := #[.val (.int p1), .val (.int p2), .val (.int p3), .val (.int p4), .val (.int (2 : Int32)), .val (.ref s1), .unset, .unset, .unset, .unset, .unset, .unset]) rfl rfl rfl ?_
    refine g_iload_n W98 at_16 (pc' := 17) rfl rfl ?_
    refine g_static W98 at_17 (pc' := 20) (fr' := []) (argsL := [(.int p3)]) (rest := []) (Wd := 0) (kc := 6) (ks := 16) rfl (hw _ (List.mem_of_getElem? (i := 1) rfl)) (hw _ (List.mem_of_getElem? (i := 2) rfl)) (hw _ (List.mem_of_getElem? (i := 3) rfl)) (hw _ (List.mem_of_getElem? (i := 4) rfl)) (by decide) rfl rfl (lenOf pd_10 rfl) rfl all0 (by decide) (by decide) (Met.pays (rm_tok hw hEL Sc hzc p3 _ W98.ext) (hw _ (List.mem_of_getElem? (i := 4) rfl)) (hw _ (List.mem_of_getElem? (i := 3) rfl)) hEL (by decide) (by decide)) fun v108 T103 h105 W104 K106 q107 => ?_
    obtain ⟨s2, rfl, X2⟩ := q107
    show Goes _ _ _ _ _ _ _ _ _ _ _ T103 (mkF m 20 #[.val (.int p1), .val (.int p2), .val (.int p3), .val (.int p4), .val (.int (2 : Int32)), .val (.ref s1), .unset, .unset, .unset, .unset, .unset, .unset] [(.ref s2)])
    refine g_astore W104 at_20 (pc' := 22) (L' := #[.val (.int p1), .val (.int p2), .val (.int p3), .val (.int p4), .val (.int (2 : Int32)), .val (.ref s1), .val (.ref s2), .unset, .unset, .unset, .unset, .unset]) rfl rfl rfl ?_
    refine g_iload_n W104 at_22 (pc' := 23) rfl rfl ?_
    refine g_static W104 at_23 (pc' := 26) (fr' := []) (argsL := [(.int p4)]) (rest := []) (Wd := 0) (kc := 6) (ks := 16) rfl (hw _ (List.mem_of_getElem? (i := 1) rfl)) (hw _ (List.mem_of_getElem? (i := 2) rfl)) (hw _ (List.mem_of_getElem? (i := 3) rfl)) (hw _ (List.mem_of_getElem? (i := 4) rfl)) (by decide) rfl rfl (lenOf pd_10 rfl) rfl all0 (by decide) (by decide) (Met.pays (rm_tok hw hEL Sc hzc p4 _ W104.ext) (hw _ (List.mem_of_getElem? (i := 4) rfl)) (hw _ (List.mem_of_getElem? (i := 3) rfl)) hEL (by decide) (by decide)) fun v114 T109 h111 W110 K112 q113 => ?_
    obtain ⟨s3, rfl, X3⟩ := q113
    show Goes _ _ _ _ _ _ _ _ _ _ _ T109 (mkF m 26 #[.val (.int p1), .val (.int p2), .val (.int p3), .val (.int p4), .val (.int (2 : Int32)), .val (.ref s1), .val (.ref s2), .unset, .unset, .unset, .unset, .unset] [(.ref s3)])
    refine g_astore W110 at_26 (pc' := 28) (L' := #[.val (.int p1), .val (.int p2), .val (.int p3), .val (.int p4), .val (.int (2 : Int32)), .val (.ref s1), .val (.ref s2), .val (.ref s3), .unset, .unset, .unset, .unset]) rfl rfl rfl ?_
    refine g_new W110 at_28 (pc' := 31) rfl (hw _ (List.mem_of_getElem? (i := 38) rfl)) (hw _ (List.mem_of_getElem? (i := 39) rfl)) (hw _ (List.mem_of_getElem? (i := 40) rfl)) (by decide) (by decide) fun T115 h117 l1 g118 W116 E119 A120 D121 => ?_
    have O_l1 := new_AL hw A120 D121
    refine g_dup W116 at_31 (pc' := 32) rfl rfl ?_
    refine g_special W116 at_32 (pc' := 35) (a := l1) (fr' := [l1]) (argsL := []) (rest := [(.ref l1)]) (Wd := 1) (kc := 0) (ks := 0) rfl rfl (hw _ (List.mem_of_getElem? (i := 41) rfl)) (hw _ (List.mem_of_getElem? (i := 42) rfl)) (hw _ (List.mem_of_getElem? (i := 43) rfl)) (by decide) rfl rfl (lenOf pd_1 rfl) rfl (allS (List.mem_of_getElem? (i := 0) rfl) (all0)) (by decide) (by decide) (Met.pays (rm_alinit hw hEL Sc hzc l1 _ W116.ext Sd Ad (W116.frs l1 (List.mem_of_getElem? (i := 0) rfl)).1 O_l1) (hw _ (List.mem_of_getElem? (i := 43) rfl)) (hw _ (List.mem_of_getElem? (i := 40) rfl)) hEL (by decide) (by decide)) fun v127 T122 h124 W123 K125 q126 => ?_
    obtain ⟨rfl, Ol0⟩ := q126
    show Goes _ _ _ _ _ _ _ _ _ _ _ T122 (mkF m 35 #[.val (.int p1), .val (.int p2), .val (.int p3), .val (.int p4), .val (.int (2 : Int32)), .val (.ref s1), .val (.ref s2), .val (.ref s3), .unset, .unset, .unset, .unset] [(.ref l1)])
    refine g_astore W123 at_35 (pc' := 37) (L' := #[.val (.int p1), .val (.int p2), .val (.int p3), .val (.int p4), .val (.int (2 : Int32)), .val (.ref s1), .val (.ref s2), .val (.ref s3), .val (.ref l1), .unset, .unset, .unset]) rfl rfl rfl ?_
    refine g_aload W123 at_37 (pc' := 39) rfl rfl rfl ?_
    refine g_aload W123 at_39 (pc' := 41) rfl rfl rfl ?_
    have K128 : Keep h99 h111 [] := (((Keep.refl h99 []).trans K106 fun _ q => nomatch q).trans K112 fun _ q => nomatch q)
    have K129 : Keep h99 h124 [] := (((((Keep.refl h99 []).trans K106 fun _ q => nomatch q).trans K112 fun _ q => nomatch q).ext E119).trans K125 fun x q => by cases List.mem_singleton.mp q; exact Or.inr (Nat.le_trans K128.1 (Nat.le_of_eq g118.symm)))
    have F130 := X1.mv K129
    have hXa := W123.ext
    refine g_interface W123 at_41 (pc' := 46) (a := l1) (fr' := [l1]) (argsL := [(.ref s1)]) (rest := []) (Wd := 0) (kc := 1) (ks := 10) rfl (hw _ (List.mem_of_getElem? (i := 62) rfl)) (hw _ (List.mem_of_getElem? (i := 63) rfl)) (hw _ (List.mem_of_getElem? (i := 64) rfl)) (hw _ (List.mem_of_getElem? (i := 65) rfl)) (hw _ (List.mem_of_getElem? (i := 66) rfl)) (hw _ (List.mem_of_getElem? (i := 67) rfl)) (hw _ (List.mem_of_getElem? (i := 68) rfl)) (hw _ (List.mem_of_getElem? (i := 69) rfl)) rfl (by decide) Ol0.1 rfl rfl (lenOf pd_11 rfl) rfl (allS (List.mem_of_getElem? (i := 0) rfl) (all0)) (by decide) (by decide) (Met.pays (rm_addf hw hEL Sc hzc l1 s1 _ W123.ext Sd Ad (W123.frs l1 (List.mem_of_getElem? (i := 0) rfl)).1 (Ins.of_exa F130 (hw _ (List.mem_of_getElem? (i := 96) rfl))) Ol0) (hw _ (List.mem_of_getElem? (i := 70) rfl)) (hw _ (List.mem_of_getElem? (i := 40) rfl)) hEL (by decide) (by decide)) fun v136 T131 h133 W132 K134 q135 => ?_
    obtain ⟨rfl, d, kd2, gd, Ol1, Ad1, Ov⟩ := q135
    show Goes _ _ _ _ _ _ _ _ _ _ _ T131 (mkF m 46 #[.val (.int p1), .val (.int p2), .val (.int p3), .val (.int p4), .val (.int (2 : Int32)), .val (.ref s1), .val (.ref s2), .val (.ref s3), .val (.ref l1), .unset, .unset, .unset] [(.int (1 : Int32))])
    have W137 := W132.addArv Ad1 (by decide) (Nat.le_trans hXa.1 gd)
    refine g_pop W137 at_46 (pc' := 47) rfl rfl ?_
    refine g_iload W137 at_47 (pc' := 49) rfl rfl ?_
    refine g_iconst W137 at_49 (pc' := 50) (v := (2 : Int32)) rfl rfl ?_
    refine g_icmpN W137 at_50 (pc' := 53) rfl (Jvm.Free.XT.ii_lt_f (by decide)) ?_
    refine g_aload W137 at_53 (pc' := 55) rfl rfl rfl ?_
    refine g_aload W137 at_55 (pc' := 57) rfl rfl rfl ?_
    have K138 : Keep h105 h111 [] := ((Keep.refl h105 []).trans K112 fun _ q => nomatch q)
    have K139 : Keep h105 h133 [] := (((((Keep.refl h105 []).trans K112 fun _ q => nomatch q).ext E119).trans K125 fun x q => by cases List.mem_singleton.mp q; exact Or.inr (Nat.le_trans K138.1 (Nat.le_of_eq g118.symm))).trans K134 fun x q => by cases List.mem_singleton.mp q; exact Or.inr (Nat.le_trans K138.1 (Nat.le_of_eq g118.symm)))
    have F140 := X2.mv K139
    refine g_interface W137 at_57 (pc' := 62) (a := l1) (fr' := [l1, d]) (argsL := [(.ref s2)]) (rest := []) (Wd := 0) (kc := 0) (ks := 0) rfl (hw _ (List.mem_of_getElem? (i := 62) rfl)) (hw _ (List.mem_of_getElem? (i := 63) rfl)) (hw _ (List.mem_of_getElem? (i := 64) rfl)) (hw _ (List.mem_of_getElem? (i := 65) rfl)) (hw _ (List.mem_of_getElem? (i := 66) rfl)) (hw _ (List.mem_of_getElem? (i := 67) rfl)) (hw _ (List.mem_of_getElem? (i := 68) rfl)) (hw _ (List.mem_of_getElem? (i := 69) rfl)) rfl (by decide) Ol1.1 rfl rfl (lenOf pd_11 rfl) rfl (allS (List.mem_of_getElem? (i := 1) rfl) (allS (List.mem_of_getElem? (i := 0) rfl) (all0))) (by decide) (by decide) (Met.pays (rm_add_1 hw hEL Sc hzc l1 s2 d kd2 (.ref s1) _ W137.ext (W137.frs l1 (List.mem_of_getElem? (i := 1) rfl)).1 (W137.frs d (List.mem_of_getElem? (i := 0) rfl)).1 (Ins.of_exa F140 (hw _ (List.mem_of_getElem? (i := 96) rfl))) Ol1 Ad1 Ov) (hw _ (List.mem_of_getElem? (i := 70) rfl)) (hw _ (List.mem_of_getElem? (i := 40) rfl)) hEL (by decide) (by decide)) fun v146 T141 h143 W142 K144 q145 => ?_
    obtain ⟨rfl, Ol2, Ad2⟩ := q145
    show Goes _ _ _ _ _ _ _ _ _ _ _ T141 (mkF m 62 #[.val (.int p1), .val (.int p2), .val (.int p3), .val (.int p4), .val (.int (2 : Int32)), .val (.ref s1), .val (.ref s2), .val (.ref s3), .val (.ref l1), .unset, .unset, .unset] [(.int (1 : Int32))])
    refine g_pop W142 at_62 (pc' := 63) rfl rfl ?_
    refine g_iload W142 at_63 (pc' := 65) rfl rfl ?_
    refine g_iconst W142 at_65 (pc' := 66) (v := (3 : Int32)) rfl rfl ?_
    refine g_icmpY W142 at_66 (pc' := 79) (by decide) (by decide) (Jvm.Free.XT.ii_lt_t (by decide)) ?_
    refine g_iload W142 at_79 (pc' := 81) rfl rfl ?_
    refine g_iconst W142 at_81 (pc' := 82) (v := (1 : Int32)) rfl rfl ?_
    refine g_icmpY W142 at_82 (pc' := 90) (by decide) (by decide) (Jvm.Free.XT.ii_ne_t (by decide)) ?_
    refine g_iload W142 at_90 (pc' := 92) rfl rfl ?_
    refine g_iconst W142 at_92 (pc' := 93) (v := (2 : Int32)) rfl rfl ?_
    refine g_icmpN W142 at_93 (pc' := 96) rfl (Jvm.Free.XT.ii_ne_f rfl) ?_
    refine g_aload W142 at_96 (pc' := 98) rfl rfl rfl ?_
    refine g_goto W142 at_98 (pc' := 103) (by decide) (by decide) ?_
    refine g_astore W142 at_103 (pc' := 105) (L' := #[.val (.int p1), .val (.int p2), .val (.int p3), .val (.int p4), .val (.int (2 : Int32)), .val (.ref s1), .val (.ref s2), .val (.ref s3), .val (.ref l1), .val (.ref s2), .unset, .unset]) rfl rfl rfl ?_
    refine g_new W142 at_105 (pc' := 108) rfl (hw _ (List.mem_of_getElem? (i := 97) rfl)) (hw _ (List.mem_of_getElem? (i := 98) rfl)) (hw _ (List.mem_of_getElem? (i := 99) rfl)) (by decide) (by decide) fun T147 h149 o1 g150 W148 E151 A152 D153 => ?_
    have O_o1 := new_Jp hw A152 D153
    refine g_dup W148 at_108 (pc' := 109) rfl rfl ?_
    refine g_ldc W148 at_109 (pc' := 111) (text := "/x") (vs := [(.int (47 : Int32)), (.int (120 : Int32))]) (zz := (2 : Int32)) (n := 8) rfl (hw _ (List.mem_of_getElem? (i := 100) rfl)) (wS_of hw) (List.mem_of_getElem? (i := 0) rfl) ⟨by decide +kernel, by decide +kernel⟩ (by decide) (by decide) (by decide +kernel) (by decide) (by decide) (by decide) fun T154 h156 a164 b165 kb163 W155 E157 X158 C159 V160 A161 ne162 => ?_
    refine g_aload W155 at_111 (pc' := 113) rfl rfl rfl ?_
    have K172 : Keep h149 h156 [] := ((Keep.refl h149 []).ext E157)
    have F173 := O_o1.mv K172
    refine g_special W155 at_113 (pc' := 116) (a := o1) (fr' := [o1]) (argsL := [(.ref a164), (.ref l1)]) (rest := [(.ref o1)]) (Wd := 1) (kc := 0) (ks := 0) rfl rfl (hw _ (List.mem_of_getElem? (i := 101) rfl)) (hw _ (List.mem_of_getElem? (i := 102) rfl)) (hw _ (List.mem_of_getElem? (i := 103) rfl)) (by decide) rfl rfl (lenOf pd_12 rfl) rfl (allS (List.mem_of_getElem? (i := 0) rfl) (all0)) (by decide) (by decide) (Met.pays (rm_init hw hEL Sc hzc o1 (.ref a164) (.ref l1) _ W155.ext rfl rfl (W155.frs o1 (List.mem_of_getElem? (i := 0) rfl)).1 F173) (hw _ (List.mem_of_getElem? (i := 103) rfl)) (hw _ (List.mem_of_getElem? (i := 99) rfl)) hEL (by decide) (by decide)) fun v171 T166 h168 W167 K169 q170 => ?_
    obtain ⟨rfl, O174⟩ := q170
    show Goes _ _ _ _ _ _ _ _ _ _ _ T166 (mkF m 116 #[.val (.int p1), .val (.int p2), .val (.int p3), .val (.int p4), .val (.int (2 : Int32)), .val (.ref s1), .val (.ref s2), .val (.ref s3), .val (.ref l1), .val (.ref s2), .unset, .unset] [(.ref o1)])
    refine g_astore W167 at_116 (pc' := 118) (L' := #[.val (.int p1), .val (.int p2), .val (.int p3), .val (.int p4), .val (.int (2 : Int32)), .val (.ref s1), .val (.ref s2), .val (.ref s3), .val (.ref l1), .val (.ref s2), .val (.ref o1), .unset]) rfl rfl rfl ?_
    refine g_aload W167 at_118 (pc' := 120) rfl rfl rfl ?_
    have K175 : Keep h143 h168 [] := ((((Keep.refl h143 []).ext E151).ext E157).trans K169 fun x q => by cases List.mem_singleton.mp q; exact Or.inr (Nat.le_of_eq g150.symm))
    have F176 := Ol2.mv K175
    have F177 := Ad2.mv K175
    have K178 : Keep h105 h124 [] := ((((Keep.refl h105 []).trans K112 fun _ q => nomatch q).ext E119).trans K125 fun x q => by cases List.mem_singleton.mp q; exact Or.inr (Nat.le_trans K138.1 (Nat.le_of_eq g118.symm)))
    have K179 : Keep h105 h143 [] := ((((((Keep.refl h105 []).trans K112 fun _ q => nomatch q).ext E119).trans K125 fun x q => by cases List.mem_singleton.mp q; exact Or.inr (Nat.le_trans K138.1 (Nat.le_of_eq g118.symm))).trans K134 fun x q => by cases List.mem_singleton.mp q; exact Or.inr (Nat.le_trans K138.1 (Nat.le_of_eq g118.symm))).trans K144 (allS (Or.inr (Nat.le_trans K138.1 (Nat.le_of_eq g118.symm))) (allS (Or.inr (Nat.le_trans K178.1 gd)) (all0))))
    have K180 : Keep h105 h168 [] := (((((((((Keep.refl h105 []).trans K112 fun _ q => nomatch q).ext E119).trans K125 fun x q => by cases List.mem_singleton.mp q; exact Or.inr (Nat.le_trans K138.1 (Nat.le_of_eq g118.symm))).trans K134 fun x q => by cases List.mem_singleton.mp q; exact Or.inr (Nat.le_trans K138.1 (Nat.le_of_eq g118.symm))).trans K144 (allS (Or.inr (Nat.le_trans K138.1 (Nat.le_of_eq g118.symm))) (allS (Or.inr (Nat.le_trans K178.1 gd)) (all0)))).ext E151).ext E157).trans K169 fun x q => by cases List.mem_singleton.mp q; exact Or.inr (Nat.le_trans K179.1 (Nat.le_of_eq g150.symm)))
    have F181 := X2.mv K180
    refine g_virtual W167 at_120 (pc' := 123) (a := o1) (fr' := []) (argsL := []) (rest := []) (Wd := 0) (kc := 0) (ks := 0) rfl (hw _ (List.mem_of_getElem? (i := 114) rfl)) (hw _ (List.mem_of_getElem? (i := 115) rfl)) (hw _ (List.mem_of_getElem? (i := 117) rfl)) (hw _ (List.mem_of_getElem? (i := 116) rfl)) (by decide) O174.1 rfl rfl (lenOf pd_13 rfl) rfl all0 (by decide) (by decide) (Met.pays (rm_last hw hEL Sc hzc o1 l1 d s2 kd2 (2 : Int32) (2 : Int32) _ _ _ W167.ext O174 F176 F177 (by decide) (by decide) rfl F181) (hw _ (List.mem_of_getElem? (i := 118) rfl)) (hw _ (List.mem_of_getElem? (i := 99) rfl)) hEL (by decide) (by decide)) fun v187 T182 h184 W183 K185 q186 => ?_
    obtain ⟨rfl, rfl⟩ := q186
    show Goes _ _ _ _ _ _ _ _ _ _ _ T182 (mkF m 123 #[.val (.int p1), .val (.int p2), .val (.int p3), .val (.int p4), .val (.int (2 : Int32)), .val (.ref s1), .val (.ref s2), .val (.ref s3), .val (.ref l1), .val (.ref s2), .val (.ref o1), .unset] [(.ref s2)])
    refine g_astore W183 at_123 (pc' := 125) (L' := #[.val (.int p1), .val (.int p2), .val (.int p3), .val (.int p4), .val (.int (2 : Int32)), .val (.ref s1), .val (.ref s2), .val (.ref s3), .val (.ref l1), .val (.ref s2), .val (.ref o1), .val (.ref s2)]) rfl rfl rfl ?_
    refine g_aload W183 at_125 (pc' := 127) rfl rfl rfl ?_
    refine g_aload W183 at_127 (pc' := 129) rfl rfl rfl ?_
    refine g_acmpN W183 at_129 (pc' := 132) rfl rfl rfl (Jvm.Free.XT.aa_ne_f rfl) ?_
    refine g_aload W183 at_132 (pc' := 134) rfl rfl rfl ?_
    refine g_virtual W183 at_134 (pc' := 137) (a := o1) (fr' := []) (argsL := []) (rest := []) (Wd := 0) (kc := 0) (ks := 0) rfl (hw _ (List.mem_of_getElem? (i := 149) rfl)) (hw _ (List.mem_of_getElem? (i := 150) rfl)) (hw _ (List.mem_of_getElem? (i := 152) rfl)) (hw _ (List.mem_of_getElem? (i := 151) rfl)) (by decide) O174.1 rfl rfl (lenOf pd_14 rfl) rfl all0 (by decide) (by decide) (Met.pays (met_getter (rm := ({ frames := 0, cells := 0, slots := 0, locals := 0 } : Room)) (plainFor_of_name pn_1) hEL W183.ext d_prog_9_method_13_code_0 d_prog_9_method_13_code_1 (hw _ (List.mem_of_getElem? (i := 112) rfl)) (O174.get 1 rfl) (Or.inl ⟨d_prog_9_method_13_code_4, rfl, rfl⟩)) (hw _ (List.mem_of_getElem? (i := 153) rfl)) (hw _ (List.mem_of_getElem? (i := 99) rfl)) hEL (by decide) (by decide)) fun v193 T188 h190 W189 K191 q192 => ?_
    obtain ⟨rfl, rfl⟩ := q192
    show Goes _ _ _ _ _ _ _ _ _ _ _ T188 (mkF m 137 #[.val (.int p1), .val (.int p2), .val (.int p3), .val (.int p4), .val (.int (2 : Int32)), .val (.ref s1), .val (.ref s2), .val (.ref s3), .val (.ref l1), .val (.ref s2), .val (.ref o1), .val (.ref s2)] [(.ref l1)])
    refine g_interface W189 at_137 (pc' := 142) (a := l1) (fr' := []) (argsL := []) (rest := []) (Wd := 0) (kc := 0) (ks := 0) rfl (hw _ (List.mem_of_getElem? (i := 154) rfl)) (hw _ (List.mem_of_getElem? (i := 120) rfl)) (hw _ (List.mem_of_getElem? (i := 121) rfl)) (hw _ (List.mem_of_getElem? (i := 122) rfl)) (hw _ (List.mem_of_getElem? (i := 123) rfl)) (hw _ (List.mem_of_getElem? (i := 124) rfl)) (hw _ (List.mem_of_getElem? (i := 125) rfl)) (hw _ (List.mem_of_getElem? (i := 69) rfl)) rfl (by decide) F176.1 rfl rfl (lenOf pd_9 rfl) rfl all0 (by decide) (by decide) (Met.pays (met_getter (rm := ({ frames := 0, cells := 0, slots := 0, locals := 0 } : Room)) (plainFor_of_name pn_0) hEL W189.ext d_jdk_38_method_8_code_0 d_jdk_38_method_8_code_1 (hw _ (List.mem_of_getElem? (i := 73) rfl)) (F176.get 2 rfl) (Or.inr ⟨d_jdk_38_method_8_code_4, by decide, rfl, _, rfl⟩)) (hw _ (List.mem_of_getElem? (i := 126) rfl)) (hw _ (List.mem_of_getElem? (i := 40) rfl)) hEL (by decide) (by decide)) fun v199 T194 h196 W195 K197 q198 => ?_
    obtain ⟨rfl, rfl⟩ := q198
    show Goes _ _ _ _ _ _ _ _ _ _ _ T194 (mkF m 142 #[.val (.int p1), .val (.int p2), .val (.int p3), .val (.int p4), .val (.int (2 : Int32)), .val (.ref s1), .val (.ref s2), .val (.ref s3), .val (.ref l1), .val (.ref s2), .val (.ref o1), .val (.ref s2)] [(.int (2 : Int32))])
    refine g_iload W195 at_142 (pc' := 144) rfl rfl ?_
    refine g_icmpN W195 at_144 (pc' := 147) rfl (Jvm.Free.XT.ii_ne_f rfl) ?_
    refine g_iconst W195 at_147 (pc' := 148) (v := (1 : Int32)) rfl rfl ?_
    refine g_goto W195 at_148 (pc' := 152) (by decide) (by decide) ?_
    have K200 : Keep h h111 [] := ((((Keep.refl h []).trans K100 fun _ q => nomatch q).trans K106 fun _ q => nomatch q).trans K112 fun _ q => nomatch q)
    have K201 : Keep h h124 [] := ((((((Keep.refl h []).trans K100 fun _ q => nomatch q).trans K106 fun _ q => nomatch q).trans K112 fun _ q => nomatch q).ext E119).trans K125 fun x q => by cases List.mem_singleton.mp q; exact Or.inr (Nat.le_trans K200.1 (Nat.le_of_eq g118.symm)))
    have K202 : Keep h h143 [] := ((((((((Keep.refl h []).trans K100 fun _ q => nomatch q).trans K106 fun _ q => nomatch q).trans K112 fun _ q => nomatch q).ext E119).trans K125 fun x q => by cases List.mem_singleton.mp q; exact Or.inr (Nat.le_trans K200.1 (Nat.le_of_eq g118.symm))).trans K134 fun x q => by cases List.mem_singleton.mp q; exact Or.inr (Nat.le_trans K200.1 (Nat.le_of_eq g118.symm))).trans K144 (allS (Or.inr (Nat.le_trans K200.1 (Nat.le_of_eq g118.symm))) (allS (Or.inr (Nat.le_trans K201.1 gd)) (all0))))
    have K203 : Keep h h168 [] := (((((((((((Keep.refl h []).trans K100 fun _ q => nomatch q).trans K106 fun _ q => nomatch q).trans K112 fun _ q => nomatch q).ext E119).trans K125 fun x q => by cases List.mem_singleton.mp q; exact Or.inr (Nat.le_trans K200.1 (Nat.le_of_eq g118.symm))).trans K134 fun x q => by cases List.mem_singleton.mp q; exact Or.inr (Nat.le_trans K200.1 (Nat.le_of_eq g118.symm))).trans K144 (allS (Or.inr (Nat.le_trans K200.1 (Nat.le_of_eq g118.symm))) (allS (Or.inr (Nat.le_trans K201.1 gd)) (all0)))).ext E151).ext E157).trans K169 fun x q => by cases List.mem_singleton.mp q; exact Or.inr (Nat.le_trans K202.1 (Nat.le_of_eq g150.symm)))
    exact g_ireturn W195 at_152 (by decide) rfl K203 rfl (by decide) (by decide)
  · rw [c1]
    refine g_iconst W at_6 (pc' := 7) (v := (1 : Int32)) rfl rfl ?_
    refine g_iadd W at_7 (pc' := 8) rfl ?_
    show Goes _ _ _ _ _ _ _ _ _ _ _ T (mkF m 8 #[.val (.int p1), .val (.int p2), .val (.int p3), .val (.int p4), .unset, .unset, .unset, .unset, .unset, .unset, .unset, .unset] [(.int (3 : Int32))])
    refine g_istore W at_8 (pc' := 10) (L' := #[.val (.int p1), .val (.int p2), .val (.int p3), .val (.int p4), .val (.int (3 : Int32)), .unset, .unset, .unset, .unset, .unset, .unset, .unset]) rfl rfl ?_
    refine g_iload_n W at_10 (pc' := 11) rfl rfl ?_
    refine g_static W at_11 (pc' := 14) (fr' := []) (argsL := [(.int p2)]) (rest := []) (Wd := 0) (kc := 6) (ks := 16) rfl (hw _ (List.mem_of_getElem? (i := 1) rfl)) (hw _ (List.mem_of_getElem? (i := 2) rfl)) (hw _ (List.mem_of_getElem? (i := 3) rfl)) (hw _ (List.mem_of_getElem? (i := 4) rfl)) (by decide) rfl rfl (lenOf pd_10 rfl) rfl all0 (by decide) (by decide) (Met.pays (rm_tok hw hEL Sc hzc p2 _ W.ext) (hw _ (List.mem_of_getElem? (i := 4) rfl)) (hw _ (List.mem_of_getElem? (i := 3) rfl)) hEL (by decide) (by decide)) fun v209 T204 h206 W205 K207 q208 => ?_
    obtain ⟨s1, rfl, X1⟩ := q208
    show Goes _ _ _ _ _ _ _ _ _ _ _ T204 (mkF m 14 #[.val (.int p1), .val (.int p2), .val (.int p3), .val (.int p4), .val (.int (3 : Int32)), .unset, .unset, .unset, .unset, .unset, .unset, .unset] [(.ref s1)])
    refine g_astore W205 at_14 (pc' := 16) (L' := #[.val (.int p1), .val (.int p2), .val (.int p3), .val (.int p4), .val (.int (3 : Int32)), .val (.ref s1), .unset, .unset, .unset, .unset, .unset, .unset]) rfl rfl rfl ?_
    refine g_iload_n W205 at_16 (pc' := 17) rfl rfl ?_
    refine g_static W205 at_17 (pc' := 20) (fr' := []) (argsL := [(.int p3)]) (rest := []) (Wd := 0) (kc := 6) (ks := 16) rfl (hw _ (List.mem_of_getElem? (i := 1) rfl)) (hw _ (List.mem_of_getElem? (i := 2) rfl)) (hw _ (List.mem_of_getElem? (i := 3) rfl)) (hw _ (List.mem_of_getElem? (i := 4) rfl)) (by decide) rfl rfl (lenOf pd_10 rfl) rfl all0 (by decide) (by decide) (Met.pays (rm_tok hw hEL Sc hzc p3 _ W205.ext) (hw _ (List.mem_of_getElem? (i := 4) rfl)) (hw _ (List.mem_of_getElem? (i := 3) rfl)) hEL (by decide) (by decide)) fun v215 T210 h212 W211 K213 q214 => ?_
    obtain ⟨s2, rfl, X2⟩ := q214
    show Goes _ _ _ _ _ _ _ _ _ _ _ T210 (mkF m 20 #[.val (.int p1), .val (.int p2), .val (.int p3), .val (.int p4), .val (.int (3 : Int32)), .val (.ref s1), .unset, .unset, .unset, .unset, .unset, .unset] [(.ref s2)])
    refine g_astore W211 at_20 (pc' := 22) (L' := #[.val (.int p1), .val (.int p2), .val (.int p3), .val (.int p4), .val (.int (3 : Int32)), .val (.ref s1), .val (.ref s2), .unset, .unset, .unset, .unset, .unset]) rfl rfl rfl ?_
    refine g_iload_n W211 at_22 (pc' := 23) rfl rfl ?_
    refine g_static W211 at_23 (pc' := 26) (fr' := []) (argsL := [(.int p4)]) (rest := []) (Wd := 0) (kc := 6) (ks := 16) rfl (hw _ (List.mem_of_getElem? (i := 1) rfl)) (hw _ (List.mem_of_getElem? (i := 2) rfl)) (hw _ (List.mem_of_getElem? (i := 3) rfl)) (hw _ (List.mem_of_getElem? (i := 4) rfl)) (by decide) rfl rfl (lenOf pd_10 rfl) rfl all0 (by decide) (by decide) (Met.pays (rm_tok hw hEL Sc hzc p4 _ W211.ext) (hw _ (List.mem_of_getElem? (i := 4) rfl)) (hw _ (List.mem_of_getElem? (i := 3) rfl)) hEL (by decide) (by decide)) fun v221 T216 h218 W217 K219 q220 => ?_
    obtain ⟨s3, rfl, X3⟩ := q220
    show Goes _ _ _ _ _ _ _ _ _ _ _ T216 (mkF m 26 #[.val (.int p1), .val (.int p2), .val (.int p3), .val (.int p4), .val (.int (3 : Int32)), .val (.ref s1), .val (.ref s2), .unset, .unset, .unset, .unset, .unset] [(.ref s3)])
    refine g_astore W217 at_26 (pc' := 28) (L' := #[.val (.int p1), .val (.int p2), .val (.int p3), .val (.int p4), .val (.int (3 : Int32)), .val (.ref s1), .val (.ref s2), .val (.ref s3), .unset, .unset, .unset, .unset]) rfl rfl rfl ?_
    refine g_new W217 at_28 (pc' := 31) rfl (hw _ (List.mem_of_getElem? (i := 38) rfl)) (hw _ (List.mem_of_getElem? (i := 39) rfl)) (hw _ (List.mem_of_getElem? (i := 40) rfl)) (by decide) (by decide) fun T222 h224 l1 g225 W223 E226 A227 D228 => ?_
    have O_l1 := new_AL hw A227 D228
    refine g_dup W223 at_31 (pc' := 32) rfl rfl ?_
    refine g_special W223 at_32 (pc' := 35) (a := l1) (fr' := [l1]) (argsL := []) (rest := [(.ref l1)]) (Wd := 1) (kc := 0) (ks := 0) rfl rfl (hw _ (List.mem_of_getElem? (i := 41) rfl)) (hw _ (List.mem_of_getElem? (i := 42) rfl)) (hw _ (List.mem_of_getElem? (i := 43) rfl)) (by decide) rfl rfl (lenOf pd_1 rfl) rfl (allS (List.mem_of_getElem? (i := 0) rfl) (all0)) (by decide) (by decide) (Met.pays (rm_alinit hw hEL Sc hzc l1 _ W223.ext Sd Ad (W223.frs l1 (List.mem_of_getElem? (i := 0) rfl)).1 O_l1) (hw _ (List.mem_of_getElem? (i := 43) rfl)) (hw _ (List.mem_of_getElem? (i := 40) rfl)) hEL (by decide) (by decide)) fun v234 T229 h231 W230 K232 q233 => ?_
    obtain ⟨rfl, Ol0⟩ := q233
    show Goes _ _ _ _ _ _ _ _ _ _ _ T229 (mkF m 35 #[.val (.int p1), .val (.int p2), .val (.int p3), .val (.int p4), .val (.int (3 : Int32)), .val (.ref s1), .val (.ref s2), .val (.ref s3), .unset, .unset, .unset, .unset] [(.ref l1)])
    refine g_astore W230 at_35 (pc' := 37) (L' := #[.val (.int p1), .val (.int p2), .val (.int p3), .val (.int p4), .val (.int (3 : Int32)), .val (.ref s1), .val (.ref s2), .val (.ref s3), .val (.ref l1), .unset, .unset, .unset]) rfl rfl rfl ?_
    refine g_aload W230 at_37 (pc' := 39) rfl rfl rfl ?_
    refine g_aload W230 at_39 (pc' := 41) rfl rfl rfl ?_
    have K235 : Keep h206 h218 [] := (((Keep.refl h206 []).trans K213 fun _ q => nomatch q).trans K219 fun _ q => nomatch q)
    have K236 : Keep h206 h231 [] := (((((Keep.refl h206 []).trans K213 fun _ q => nomatch q).trans K219 fun _ q => nomatch q).ext E226).trans K232 fun x q => by cases List.mem_singleton.mp q; exact Or.inr (Nat.le_trans K235.1 (Nat.le_of_eq g225.symm)))
    have F237 := X1.mv K236
    have hXa := W230.ext
    refine g_interface W230 at_41 (pc' := 46) (a := l1) (fr' := [l1]) (argsL := [(.ref s1)]) (rest := []) (Wd := 0) (kc := 1) (ks := 10) rfl (hw _ (List.mem_of_getElem? (i := 62) rfl)) (hw _ (List.mem_of_getElem? (i := 63) rfl)) (hw _ (List.mem_of_getElem? (i := 64) rfl)) (hw _ (List.mem_of_getElem? (i := 65) rfl)) (hw _ (List.mem_of_getElem? (i := 66) rfl)) (hw _ (List.mem_of_getElem? (i := 67) rfl)) (hw _ (List.mem_of_getElem? (i := 68) rfl)) (hw _ (List.mem_of_getElem? (i := 69) rfl)) rfl (by decide) Ol0.1 rfl rfl (lenOf pd_11 rfl) rfl (allS (List.mem_of_getElem? (i := 0) rfl) (all0)) (by decide) (by decide) (Met.pays (rm_addf hw hEL Sc hzc l1 s1 _ W230.ext Sd Ad (W230.frs l1 (List.mem_of_getElem? (i := 0) rfl)).1 (Ins.of_exa F237 (hw _ (List.mem_of_getElem? (i := 96) rfl))) Ol0) (hw _ (List.mem_of_getElem? (i := 70) rfl)) (hw _ (List.mem_of_getElem? (i := 40) rfl)) hEL (by decide) (by decide)) fun v243 T238 h240 W239 K241 q242 => ?_
    obtain ⟨rfl, d, kd2, gd, Ol1, Ad1, Ov⟩ := q242
    show Goes _ _ _ _ _ _ _ _ _ _ _ T238 (mkF m 46 #[.val (.int p1), .val (.int p2), .val (.int p3), .val (.int p4), .val (.int (3 : Int32)), .val (.ref s1), .val (.ref s2), .val (.ref s3), .val (.ref l1), .unset, .unset, .unset] [(.int (1 : Int32))])
    have W244 := W239.addArv Ad1 (by decide) (Nat.le_trans hXa.1 gd)
    refine g_pop W244 at_46 (pc' := 47) rfl rfl ?_
    refine g_iload W244 at_47 (pc' := 49) rfl rfl ?_
    refine g_iconst W244 at_49 (pc' := 50) (v := (2 : Int32)) rfl rfl ?_
    refine g_icmpN W244 at_50 (pc' := 53) rfl (Jvm.Free.XT.ii_lt_f (by decide)) ?_
    refine g_aload W244 at_53 (pc' := 55) rfl rfl rfl ?_
    refine g_aload W244 at_55 (pc' := 57) rfl rfl rfl ?_
    have K245 : Keep h212 h218 [] := ((Keep.refl h212 []).trans K219 fun _ q => nomatch q)
    have K246 : Keep h212 h240 [] := (((((Keep.refl h212 []).trans K219 fun _ q => nomatch q).ext E226).trans K232 fun x q => by cases List.mem_singleton.mp q; exact Or.inr (Nat.le_trans K245.1 (Nat.le_of_eq g225.symm))).trans K241 fun x q => by cases List.mem_singleton.mp q; exact Or.inr (Nat.le_trans K245.1 (Nat.le_of_eq g225.symm)))
    have F247 := X2.mv K246
    refine g_interface W244 at_57 (pc' := 62) (a := l1) (fr' := [l1, d]) (argsL := [(.ref s2)]) (rest := []) (Wd := 0) (kc := 0) (ks := 0) rfl (hw _ (List.mem_of_getElem? (i := 62) rfl)) (hw _ (List.mem_of_getElem? (i := 63) rfl)) (hw _ (List.mem_of_getElem? (i := 64) rfl)) (hw _ (List.mem_of_getElem? (i := 65) rfl)) (hw _ (List.mem_of_getElem? (i := 66) rfl)) (hw _ (List.mem_of_getElem? (i := 67) rfl)) (hw _ (List.mem_of_getElem? (i := 68) rfl)) (hw _ (List.mem_of_getElem? (i := 69) rfl)) rfl (by decide) Ol1.1 rfl rfl (lenOf pd_11 rfl) rfl (allS (List.mem_of_getElem? (i := 1) rfl) (allS (List.mem_of_getElem? (i := 0) rfl) (all0))) (by decide) (by decide) (Met.pays (rm_add_1 hw hEL Sc hzc l1 s2 d kd2 (.ref s1) _ W244.ext (W244.frs l1 (List.mem_of_getElem? (i := 1) rfl)).1 (W244.frs d (List.mem_of_getElem? (i := 0) rfl)).1 (Ins.of_exa F247 (hw _ (List.mem_of_getElem? (i := 96) rfl))) Ol1 Ad1 Ov) (hw _ (List.mem_of_getElem? (i := 70) rfl)) (hw _ (List.mem_of_getElem? (i := 40) rfl)) hEL (by decide) (by decide)) fun v253 T248 h250 W249 K251 q252 => ?_
    obtain ⟨rfl, Ol2, Ad2⟩ := q252
    show Goes _ _ _ _ _ _ _ _ _ _ _ T248 (mkF m 62 #[.val (.int p1), .val (.int p2), .val (.int p3), .val (.int p4), .val (.int (3 : Int32)), .val (.ref s1), .val (.ref s2), .val (.ref s3), .val (.ref l1), .unset, .unset, .unset] [(.int (1 : Int32))])
    refine g_pop W249 at_62 (pc' := 63) rfl rfl ?_
    refine g_iload W249 at_63 (pc' := 65) rfl rfl ?_
    refine g_iconst W249 at_65 (pc' := 66) (v := (3 : Int32)) rfl rfl ?_
    refine g_icmpN W249 at_66 (pc' := 69) rfl (Jvm.Free.XT.ii_lt_f (by decide)) ?_
    refine g_aload W249 at_69 (pc' := 71) rfl rfl rfl ?_
    refine g_aload W249 at_71 (pc' := 73) rfl rfl rfl ?_
    have K254 : Keep h218 h231 [] := (((Keep.refl h218 []).ext E226).trans K232 fun x q => by cases List.mem_singleton.mp q; exact Or.inr (Nat.le_of_eq g225.symm))
    have K255 : Keep h218 h250 [] := (((((Keep.refl h218 []).ext E226).trans K232 fun x q => by cases List.mem_singleton.mp q; exact Or.inr (Nat.le_of_eq g225.symm)).trans K241 fun x q => by cases List.mem_singleton.mp q; exact Or.inr (Nat.le_of_eq g225.symm)).trans K251 (allS (Or.inr (Nat.le_of_eq g225.symm)) (allS (Or.inr (Nat.le_trans K254.1 gd)) (all0))))
    have F256 := X3.mv K255
    refine g_interface W249 at_73 (pc' := 78) (a := l1) (fr' := [l1, d]) (argsL := [(.ref s3)]) (rest := []) (Wd := 0) (kc := 0) (ks := 0) rfl (hw _ (List.mem_of_getElem? (i := 62) rfl)) (hw _ (List.mem_of_getElem? (i := 63) rfl)) (hw _ (List.mem_of_getElem? (i := 64) rfl)) (hw _ (List.mem_of_getElem? (i := 65) rfl)) (hw _ (List.mem_of_getElem? (i := 66) rfl)) (hw _ (List.mem_of_getElem? (i := 67) rfl)) (hw _ (List.mem_of_getElem? (i := 68) rfl)) (hw _ (List.mem_of_getElem? (i := 69) rfl)) rfl (by decide) Ol2.1 rfl rfl (lenOf pd_11 rfl) rfl (allS (List.mem_of_getElem? (i := 1) rfl) (allS (List.mem_of_getElem? (i := 0) rfl) (all0))) (by decide) (by decide) (Met.pays (rm_add_2 hw hEL Sc hzc l1 s3 d kd2 (.ref s1) (.ref s2) _ W249.ext (W249.frs l1 (List.mem_of_getElem? (i := 1) rfl)).1 (W249.frs d (List.mem_of_getElem? (i := 0) rfl)).1 (Ins.of_exa F256 (hw _ (List.mem_of_getElem? (i := 96) rfl))) Ol2 Ad2 Ov) (hw _ (List.mem_of_getElem? (i := 70) rfl)) (hw _ (List.mem_of_getElem? (i := 40) rfl)) hEL (by decide) (by decide)) fun v262 T257 h259 W258 K260 q261 => ?_
    obtain ⟨rfl, Ol3, Ad3⟩ := q261
    show Goes _ _ _ _ _ _ _ _ _ _ _ T257 (mkF m 78 #[.val (.int p1), .val (.int p2), .val (.int p3), .val (.int p4), .val (.int (3 : Int32)), .val (.ref s1), .val (.ref s2), .val (.ref s3), .val (.ref l1), .unset, .unset, .unset] [(.int (1 : Int32))])
    refine g_pop W258 at_78 (pc' := 79) rfl rfl ?_
    refine g_iload W258 at_79 (pc' := 81) rfl rfl ?_
    refine g_iconst W258 at_81 (pc' := 82) (v := (1 : Int32)) rfl rfl ?_
    refine g_icmpY W258 at_82 (pc' := 90) (by decide) (by decide) (Jvm.Free.XT.ii_ne_t (by decide)) ?_
    refine g_iload W258 at_90 (pc' := 92) rfl rfl ?_
    refine g_iconst W258 at_92 (pc' := 93) (v := (2 : Int32)) rfl rfl ?_
    refine g_icmpY W258 at_93 (pc' := 101) (by decide) (by decide) (Jvm.Free.XT.ii_ne_t (by decide)) ?_
    refine g_aload W258 at_101 (pc' := 103) rfl rfl rfl ?_
    refine g_astore W258 at_103 (pc' := 105) (L' := #[.val (.int p1), .val (.int p2), .val (.int p3), .val (.int p4), .val (.int (3 : Int32)), .val (.ref s1), .val (.ref s2), .val (.ref s3), .val (.ref l1), .val (.ref s3), .unset, .unset]) rfl rfl rfl ?_
    refine g_new W258 at_105 (pc' := 108) rfl (hw _ (List.mem_of_getElem? (i := 97) rfl)) (hw _ (List.mem_of_getElem? (i := 98) rfl)) (hw _ (List.mem_of_getElem? (i := 99) rfl)) (by decide) (by decide) fun T263 h265 o1 g266 W264 E267 A268 D269 => ?_
    have O_o1 := new_Jp hw A268 D269
    refine g_dup W264 at_108 (pc' := 109) rfl rfl ?_
    refine g_ldc W264 at_109 (pc' := 111) (text := "/x") (vs := [(.int (47 : Int32)), (.int (120 : Int32))]) (zz := (2 : Int32)) (n := 8) rfl (hw _ (List.mem_of_getElem? (i := 100) rfl)) (wS_of hw) (List.mem_of_getElem? (i := 0) rfl) ⟨by decide +kernel, by decide +kernel⟩ (by decide) (by decide) (by decide +kernel) (by decide) (by decide) (by decide) fun T270 h272 a280 b281 kb279 W271 E273 X274 C275 V276 A277 ne278 => ?_
    refine g_aload W271 at_111 (pc' := 113) rfl rfl rfl ?_
    have K288 : Keep h265 h272 [] := ((Keep.refl h265 []).ext E273)
    have F289 := O_o1.mv K288
    refine g_special W271 at_113 (pc' := 116) (a := o1) (fr' := [o1]) (argsL := [(.ref a280), (.ref l1)]) (rest := [(.ref o1)]) (Wd := 1) (kc := 0) (ks := 0) rfl rfl (hw _ (List.mem_of_getElem? (i := 101) rfl)) (hw _ (List.mem_of_getElem? (i := 102) rfl)) (hw _ (List.mem_of_getElem? (i := 103) rfl)) (by decide) rfl rfl (lenOf pd_12 rfl) rfl (allS (List.mem_of_getElem? (i := 0) rfl) (all0)) (by decide) (by decide) (Met.pays (rm_init hw hEL Sc hzc o1 (.ref a280) (.ref l1) _ W271.ext rfl rfl (W271.frs o1 (List.mem_of_getElem? (i := 0) rfl)).1 F289) (hw _ (List.mem_of_getElem? (i := 103) rfl)) (hw _ (List.mem_of_getElem? (i := 99) rfl)) hEL (by decide) (by decide)) fun v287 T282 h284 W283 K285 q286 => ?_
    obtain ⟨rfl, O290⟩ := q286
    show Goes _ _ _ _ _ _ _ _ _ _ _ T282 (mkF m 116 #[.val (.int p1), .val (.int p2), .val (.int p3), .val (.int p4), .val (.int (3 : Int32)), .val (.ref s1), .val (.ref s2), .val (.ref s3), .val (.ref l1), .val (.ref s3), .unset, .unset] [(.ref o1)])
    refine g_astore W283 at_116 (pc' := 118) (L' := #[.val (.int p1), .val (.int p2), .val (.int p3), .val (.int p4), .val (.int (3 : Int32)), .val (.ref s1), .val (.ref s2), .val (.ref s3), .val (.ref l1), .val (.ref s3), .val (.ref o1), .unset]) rfl rfl rfl ?_
    refine g_aload W283 at_118 (pc' := 120) rfl rfl rfl ?_
    have K291 : Keep h259 h284 [] := ((((Keep.refl h259 []).ext E267).ext E273).trans K285 fun x q => by cases List.mem_singleton.mp q; exact Or.inr (Nat.le_of_eq g266.symm))
    have F292 := Ol3.mv K291
    have F293 := Ad3.mv K291
    have K294 : Keep h218 h259 [] := ((((((Keep.refl h218 []).ext E226).trans K232 fun x q => by cases List.mem_singleton.mp q; exact Or.inr (Nat.le_of_eq g225.symm)).trans K241 fun x q => by cases List.mem_singleton.mp q; exact Or.inr (Nat.le_of_eq g225.symm)).trans K251 (allS (Or.inr (Nat.le_of_eq g225.symm)) (allS (Or.inr (Nat.le_trans K254.1 gd)) (all0)))).trans K260 (allS (Or.inr (Nat.le_of_eq g225.symm)) (allS (Or.inr (Nat.le_trans K254.1 gd)) (all0))))
    have K295 : Keep h218 h284 [] := (((((((((Keep.refl h218 []).ext E226).trans K232 fun x q => by cases List.mem_singleton.mp q; exact Or.inr (Nat.le_of_eq g225.symm)).trans K241 fun x q => by cases List.mem_singleton.mp q; exact Or.inr (Nat.le_of_eq g225.symm)).trans K251 (allS (Or.inr (Nat.le_of_eq g225.symm)) (allS (Or.inr (Nat.le_trans K254.1 gd)) (all0)))).trans K260 (allS (Or.inr (Nat.le_of_eq g225.symm)) (allS (Or.inr (Nat.le_trans K254.1 gd)) (all0)))).ext E267).ext E273).trans K285 fun x q => by cases List.mem_singleton.mp q; exact Or.inr (Nat.le_trans K294.1 (Nat.le_of_eq g266.symm)))
    have F296 := X3.mv K295
    refine g_virtual W283 at_120 (pc' := 123) (a := o1) (fr' := []) (argsL := []) (rest := []) (Wd := 0) (kc := 0) (ks := 0) rfl (hw _ (List.mem_of_getElem? (i := 114) rfl)) (hw _ (List.mem_of_getElem? (i := 115) rfl)) (hw _ (List.mem_of_getElem? (i := 117) rfl)) (hw _ (List.mem_of_getElem? (i := 116) rfl)) (by decide) O290.1 rfl rfl (lenOf pd_13 rfl) rfl all0 (by decide) (by decide) (Met.pays (rm_last hw hEL Sc hzc o1 l1 d s3 kd2 (3 : Int32) (3 : Int32) _ _ _ W283.ext O290 F292 F293 (by decide) (by decide) rfl F296) (hw _ (List.mem_of_getElem? (i := 118) rfl)) (hw _ (List.mem_of_getElem? (i := 99) rfl)) hEL (by decide) (by decide)) fun v302 T297 h299 W298 K300 q301 => ?_
    obtain ⟨rfl, rfl⟩ := q301
    show Goes _ _ _ _ _ _ _ _ _ _ _ T297 (mkF m 123 #[.val (.int p1), .val (.int p2), .val (.int p3), .val (.int p4), .val (.int (3 : Int32)), .val (.ref s1), .val (.ref s2), .val (.ref s3), .val (.ref l1), .val (.ref s3), .val (.ref o1), .unset] [(.ref s3)])
    refine g_astore W298 at_123 (pc' := 125) (L' := #[.val (.int p1), .val (.int p2), .val (.int p3), .val (.int p4), .val (.int (3 : Int32)), .val (.ref s1), .val (.ref s2), .val (.ref s3), .val (.ref l1), .val (.ref s3), .val (.ref o1), .val (.ref s3)]) rfl rfl rfl ?_
    refine g_aload W298 at_125 (pc' := 127) rfl rfl rfl ?_
    refine g_aload W298 at_127 (pc' := 129) rfl rfl rfl ?_
    refine g_acmpN W298 at_129 (pc' := 132) rfl rfl rfl (Jvm.Free.XT.aa_ne_f rfl) ?_
    refine g_aload W298 at_132 (pc' := 134) rfl rfl rfl ?_
    refine g_virtual W298 at_134 (pc' := 137) (a := o1) (fr' := []) (argsL := []) (rest := []) (Wd := 0) (kc := 0) (ks := 0) rfl (hw _ (List.mem_of_getElem? (i := 149) rfl)) (hw _ (List.mem_of_getElem? (i := 150) rfl)) (hw _ (List.mem_of_getElem? (i := 152) rfl)) (hw _ (List.mem_of_getElem? (i := 151) rfl)) (by decide) O290.1 rfl rfl (lenOf pd_14 rfl) rfl all0 (by decide) (by decide) (Met.pays (met_getter (rm := ({ frames := 0, cells := 0, slots := 0, locals := 0 } : Room)) (plainFor_of_name pn_1) hEL W298.ext d_prog_9_method_13_code_0 d_prog_9_method_13_code_1 (hw _ (List.mem_of_getElem? (i := 112) rfl)) (O290.get 1 rfl) (Or.inl ⟨d_prog_9_method_13_code_4, rfl, rfl⟩)) (hw _ (List.mem_of_getElem? (i := 153) rfl)) (hw _ (List.mem_of_getElem? (i := 99) rfl)) hEL (by decide) (by decide)) fun v308 T303 h305 W304 K306 q307 => ?_
    obtain ⟨rfl, rfl⟩ := q307
    show Goes _ _ _ _ _ _ _ _ _ _ _ T303 (mkF m 137 #[.val (.int p1), .val (.int p2), .val (.int p3), .val (.int p4), .val (.int (3 : Int32)), .val (.ref s1), .val (.ref s2), .val (.ref s3), .val (.ref l1), .val (.ref s3), .val (.ref o1), .val (.ref s3)] [(.ref l1)])
    refine g_interface W304 at_137 (pc' := 142) (a := l1) (fr' := []) (argsL := []) (rest := []) (Wd := 0) (kc := 0) (ks := 0) rfl (hw _ (List.mem_of_getElem? (i := 154) rfl)) (hw _ (List.mem_of_getElem? (i := 120) rfl)) (hw _ (List.mem_of_getElem? (i := 121) rfl)) (hw _ (List.mem_of_getElem? (i := 122) rfl)) (hw _ (List.mem_of_getElem? (i := 123) rfl)) (hw _ (List.mem_of_getElem? (i := 124) rfl)) (hw _ (List.mem_of_getElem? (i := 125) rfl)) (hw _ (List.mem_of_getElem? (i := 69) rfl)) rfl (by decide) F292.1 rfl rfl (lenOf pd_9 rfl) rfl all0 (by decide) (by decide) (Met.pays (met_getter (rm := ({ frames := 0, cells := 0, slots := 0, locals := 0 } : Room)) (plainFor_of_name pn_0) hEL W304.ext d_jdk_38_method_8_code_0 d_jdk_38_method_8_code_1 (hw _ (List.mem_of_getElem? (i := 73) rfl)) (F292.get 2 rfl) (Or.inr ⟨d_jdk_38_method_8_code_4, by decide, rfl, _, rfl⟩)) (hw _ (List.mem_of_getElem? (i := 126) rfl)) (hw _ (List.mem_of_getElem? (i := 40) rfl)) hEL (by decide) (by decide)) fun v314 T309 h311 W310 K312 q313 => ?_
    obtain ⟨rfl, rfl⟩ := q313
    show Goes _ _ _ _ _ _ _ _ _ _ _ T309 (mkF m 142 #[.val (.int p1), .val (.int p2), .val (.int p3), .val (.int p4), .val (.int (3 : Int32)), .val (.ref s1), .val (.ref s2), .val (.ref s3), .val (.ref l1), .val (.ref s3), .val (.ref o1), .val (.ref s3)] [(.int (3 : Int32))])
    refine g_iload W310 at_142 (pc' := 144) rfl rfl ?_
    refine g_icmpN W310 at_144 (pc' := 147) rfl (Jvm.Free.XT.ii_ne_f rfl) ?_
    refine g_iconst W310 at_147 (pc' := 148) (v := (1 : Int32)) rfl rfl ?_
    refine g_goto W310 at_148 (pc' := 152) (by decide) (by decide) ?_
    have K315 : Keep h h218 [] := ((((Keep.refl h []).trans K207 fun _ q => nomatch q).trans K213 fun _ q => nomatch q).trans K219 fun _ q => nomatch q)
    have K316 : Keep h h231 [] := ((((((Keep.refl h []).trans K207 fun _ q => nomatch q).trans K213 fun _ q => nomatch q).trans K219 fun _ q => nomatch q).ext E226).trans K232 fun x q => by cases List.mem_singleton.mp q; exact Or.inr (Nat.le_trans K315.1 (Nat.le_of_eq g225.symm)))
    have K317 : Keep h h259 [] := (((((((((Keep.refl h []).trans K207 fun _ q => nomatch q).trans K213 fun _ q => nomatch q).trans K219 fun _ q => nomatch q).ext E226).trans K232 fun x q => by cases List.mem_singleton.mp q; exact Or.inr (Nat.le_trans K315.1 (Nat.le_of_eq g225.symm))).trans K241 fun x q => by cases List.mem_singleton.mp q; exact Or.inr (Nat.le_trans K315.1 (Nat.le_of_eq g225.symm))).trans K251 (allS (Or.inr (Nat.le_trans K315.1 (Nat.le_of_eq g225.symm))) (allS (Or.inr (Nat.le_trans K316.1 gd)) (all0)))).trans K260 (allS (Or.inr (Nat.le_trans K315.1 (Nat.le_of_eq g225.symm))) (allS (Or.inr (Nat.le_trans K316.1 gd)) (all0))))
    have K318 : Keep h h284 [] := ((((((((((((Keep.refl h []).trans K207 fun _ q => nomatch q).trans K213 fun _ q => nomatch q).trans K219 fun _ q => nomatch q).ext E226).trans K232 fun x q => by cases List.mem_singleton.mp q; exact Or.inr (Nat.le_trans K315.1 (Nat.le_of_eq g225.symm))).trans K241 fun x q => by cases List.mem_singleton.mp q; exact Or.inr (Nat.le_trans K315.1 (Nat.le_of_eq g225.symm))).trans K251 (allS (Or.inr (Nat.le_trans K315.1 (Nat.le_of_eq g225.symm))) (allS (Or.inr (Nat.le_trans K316.1 gd)) (all0)))).trans K260 (allS (Or.inr (Nat.le_trans K315.1 (Nat.le_of_eq g225.symm))) (allS (Or.inr (Nat.le_trans K316.1 gd)) (all0)))).ext E267).ext E273).trans K285 fun x q => by cases List.mem_singleton.mp q; exact Or.inr (Nat.le_trans K317.1 (Nat.le_of_eq g266.symm)))
    exact g_ireturn W310 at_152 (by decide) rfl K318 rfl (by decide) (by decide)
theorem comes_1 {Post : Tables → Env → Array Value → State → Outcome → State → Prop} (hpost : ∀ tb e args s v u, (limb_1_1.after args s (.returned v) u = true ∧ limb_1_2.after args s (.returned v) u = true ∧ True) → ReturnedEndW s (.returned v) u (Jvm.fieldLocs frame_1_writes args s ++ Jvm.arrayLocs frame_1_arrays args s ++ Jvm.staticLocs frame_1_statics s) 40 2240 → Post tb e args s (.returned v) u) :
    ArmFor flags0 classFile x code maxLocals ret World_1 tables_1 room_1 Calls_1 rest_1 Pre_1 Post := by
  intro l hfl _ _ p e ha hc hk s m args below hf hA hF happ hP
  obtain ⟨hcalls, hrest, hpre⟩ := hP
  obtain ⟨-, -, -, hnamed, -, -, -, hat⟩ := (Spec.applies_iff hf).mp happ
  obtain ⟨hg, hn⟩ := and_e (Cond.before_iff.mp (show (Jvm.Cond.and given_1 narrow_1).before args s = true from hpre))
  obtain ⟨g0, r0⟩ := and_e hg
  obtain ⟨g1, r1⟩ := and_e r0
  obtain ⟨g2, r2⟩ := and_e r1
  obtain ⟨g3, r3⟩ := and_e r2
  obtain ⟨w0, w1, w2, w3, rfl⟩ : ∃ w0 w1 w2 w3 : Value, args = #[w0, w1, w2, w3] := by
    have hs : args.size = 4 := by simpa [Cond.value, given_1] using g0
    obtain ⟨L⟩ := args
    match L, hs with
    | [w0, w1, w2, w3], _ => exact ⟨w0, w1, w2, w3, rfl⟩
  have hw := fun d (hd : d ∈ tables_1) => atoms_spec (ws := Jvm.Cond.code x code maxLocals ret :: tables_1) hat d (List.mem_cons_of_mem _ hd)
  obtain ⟨hsets, hown0⟩ := atoms_of _ (rest_1_c_eq ▸ (show rest_1_c.before _ s = true from hrest))
  obtain ⟨i0, e0⟩ := is_v g1
  obtain rfl : w0 = (.int i0) := Option.some.inj e0
  obtain ⟨i1, e1⟩ := is_v g2
  obtain rfl : w1 = (.int i1) := Option.some.inj e1
  obtain ⟨i2, e2⟩ := is_v g3
  obtain rfl : w2 = (.int i2) := Option.some.inj e2
  obtain ⟨i3, e3⟩ := is_v r3
  obtain rfl : w3 = (.int i3) := Option.some.inj e3
  obtain ⟨zc, ez⟩ := is_v (Cond.before_iff.mp (hsets _ (List.mem_of_getElem? (i := 1) rfl)))
  have Sc : Sta s s.heap "java/lang/String" "COMPACT_STRINGS" "Z" (.int zc) := Sta.start ez (Or.inl (hsets _ (List.mem_of_getElem? (i := 0) rfl)))
  have hzc : ¬ (zc = (0 : Int32)) := gotF (Cond.eq_ints ez (Term.int_eval (0))) (not_v (Cond.before_iff.mp (hsets _ (List.mem_of_getElem? (i := 2) rfl))))
  have hEL : EW s _ EL1 := (EW.cons (hw _ (List.mem_of_getElem? (i := 100) rfl)) (by decide) (EW.cons (hw _ (List.mem_of_getElem? (i := 19) rfl)) (by decide) EW.nil))
  have hCH : CHv s EL1 s.vm s.heap := CHv.start hEL hcalls.1 (hsets _ (List.mem_of_getElem? (i := 2) rfl)) (hw _ (List.mem_of_getElem? (i := 20) rfl)) (hw _ (List.mem_of_getElem? (i := 6) rfl))
  obtain ⟨de, ede⟩ := arr_v (Cond.before_iff.mp (hsets _ (List.mem_of_getElem? (i := 15) rfl)))
  have Sd : Sta s s.heap "java/util/ArrayList" "DEFAULTCAPACITY_EMPTY_ELEMENTDATA" "[Ljava/lang/Object;" (.ref de) := Sta.start ede (Or.inr ⟨(hw _ (List.mem_of_getElem? (i := 40) rfl)), (hsets _ (List.mem_of_getElem? (i := 11) rfl))⟩)
  obtain ⟨kd, Ad⟩ := arv0 (dv := .null) ede (Cond.before_iff.mp (hsets _ (List.mem_of_getElem? (i := 15) rfl))) (Cond.before_iff.mp (hsets _ (List.mem_of_getElem? (i := 17) rfl)))
  obtain ⟨n, o, h1, h2, h3, v, L, rfl, ⟨K, rfl, N⟩, hch, hnw, hq⟩ := rm_law hw hEL Sc hzc i0 i1 i2 i3 s.heap ⟨Nat.le_refl _, fun _ _ q => q⟩ Sd Ad p e ha hc hk s m _ below hf ((Spec.applies_iff_loose hf).mp happ).1 ⟨rfl, State.Warmed39.refl s, rfl, hCH, fun _ q => nomatch q⟩ trivial
  refine ⟨n, _, h1, h2, h3, hpost _ _ _ _ _ _ ⟨Cond.after_iff.mpr rfl, Cond.after_iff.mpr (eq_i res_at (Term.int_eval (1)) rfl), trivial⟩ ⟨⟨_, rfl⟩, hq.2.1, hq.2.2.1, (hq.2.2.2.sift fun y hy => Or.inr (N y hy)).mono (by decide) (by decide)⟩⟩
theorem main_1_1 : Claimed_1_1 := comes_1 fun _ _ _ _ _ _ h hF => ⟨h.1, hF⟩
theorem main_1_2 : Claimed_1_2 := comes_1 fun _ _ _ _ _ _ h hF => ⟨h.2.1, hF⟩
end Own
theorem main_1_1 : Claimed_1_1 := Own.main_1_1
theorem main_1_2 : Claimed_1_2 := Own.main_1_2
end Jvm.Pilot.@@N@@
namespace Jvm.Pilot.@@N@@
open Jvm Jvm.ClassFile Sem Op Lib Jvm.Free Jvm.Stand Jvm.Pilot.@@N@@.Jvm.D
/-! MADE BY PROGRAM (witnessworld.py) out of the Statement's table words and the real class files: 32 classes; the members and pool entries that the words name. The judged class is class 1, her method 2. -/
namespace start1
open Jvm.ClassFile
def u (s : String) : CpInfo := .utf8 (stringToUtf16 s)
/-- a pool by its gaps: so many unusable entries, then the entry; so many at the end -/
def gap : Nat → List CpInfo → List CpInfo
  | 0, r => r
  | n + 1, r => .unusable :: gap n r
def poolList (es : List (Nat × CpInfo)) (last : Nat) : List CpInfo := es.foldr (fun e r => gap e.1 (e.2 :: r)) (gap last [])
def pool (es : List (Nat × CpInfo)) (last : Nat) : Array CpInfo := ⟨poolList es last⟩
def fileOf (pool : Array CpInfo) (this : Nat) (attrs : Array Attribute := #[]) (ms : Array MethodInfo := #[]) (fl : Nat := 33) (sup : Nat := 0) (ifs : Array Nat := #[]) (fds : Array FieldInfo := #[]) : ClassFile where
  minorVersion := 0
  majorVersion := 65
  constantPool := pool
  accessFlags := fl
  thisClass := this
  superClass := sup
  interfaces := ifs
  fields := fds
  methods := ms
  attributes := attrs
def plain (name : String) (sup : Option ClassId) : Class where
  name := name
  kind := .ordinary
  loader := none
  accessFlags := 33
  super := sup
  interfaces := #[]
  cf := none
  fields := #[]
  methods := #[]
  instanceTypes := #[]
  staticTypes := #[]
  resolved := #[]
  callSites := []
  init := .initialized
  statics := none
  mirror := none

def pool0 : Array CpInfo := pool [(5, u "<init>"), (0, u "()V"), (1, .class_ 10), (1, u "java/lang/Object")] 113

def k0c0 : Code := { maxStack := 0, maxLocals := 1, code := object_method_1_code, exceptionTable := #[], attributes := #[] }
def k0m0 : Method := { name := "<init>", desc := "()V", sig := { parameters := [], returnType := none }, accessFlags := 1, code := some k0c0 }
/-- java/lang/Object -/
def k0 : Class := { plain "java/lang/Object" none with
  accessFlags := 33
  interfaces := #[]
  cf := some (fileOf pool0 8 #[] #[{ accessFlags := 1, nameIndex := 5, descriptorIndex := 6, attributes := #[] }] 33 0 #[] #[])
  fields := #[]
  methods := #[k0m0]
  instanceTypes := #[]
  staticTypes := #[]
  resolved := Array.replicate 124 none
  statics := none }

def pool1 : Array CpInfo := pool [(2, .class_ 4), (0, .nameAndType 5 6), (0, u "java/lang/Object"), (0, u "<init>"), (0, u "()V"), (0, .class_ 8), (0, u "java/lang/String"), (0, .methodref 7 10), (0, .nameAndType 5 11), (0, u "([C)V"), (0, .integer 2147483647), (0, .methodref 14 15), (0, .class_ 16), (0, .nameAndType 17 18), (0, u "com/example/tethercall/tethercall/JsonPointerLastPinLaw"), (0, u "tok"), (0, u "(I)Ljava/lang/String;"), (0, .class_ 20), (0, u "java/util/ArrayList"), (0, .methodref 19 3), (0, .interfaceMethodref 23 24), (0, .class_ 25), (0, .nameAndType 26 27), (0, u "java/util/List"), (0, u "add"), (0, u "(Ljava/lang/Object;)Z"), (0, .class_ 29), (0, u "com/example/tethercall/tethercall/JsonPointer"), (0, .string 31), (0, u "/x"), (0, .methodref 28 33), (0, .nameAndType 5 34), (0, u "(Ljava/lang/String;Ljava/util/List;)V"), (0, .methodref 28 36), (0, .nameAndType 37 38), (0, u "last"), (0, u "()Ljava/lang/String;"), (0, .methodref 28 40), (0, .nameAndType 41 42), (0, u "tokens"), (0, u "()Ljava/util/List;"), (0, .interfaceMethodref 23 44), (0, .nameAndType 45 46), (0, u "size"), (0, u "()I"), (3, u "law"), (0, u "(IIII)Z")] 2

def k1m0 : Method := { name := "<init>", desc := "()V", sig := { parameters := [], returnType := none }, accessFlags := 1, code := none }
def k1c1 : Code := { maxStack := 6, maxLocals := 4, code := method_2_code, exceptionTable := #[], attributes := #[] }
def k1m1 : Method := { name := "tok", desc := "(I)Ljava/lang/String;", sig := { parameters := [.int], returnType := some (.object "java/lang/String") }, accessFlags := 10, code := some k1c1 }
def k1c2 : Code := { maxStack := 4, maxLocals := 12, code := code, exceptionTable := #[], attributes := #[] }
def k1m2 : Method := { name := "law", desc := "(IIII)Z", sig := { parameters := [.int, .int, .int, .int], returnType := some .boolean }, accessFlags := 9, code := some k1c2 }
/-- com/example/tethercall/tethercall/JsonPointerLastPinLaw -/
def k1 : Class := { plain "com/example/tethercall/tethercall/JsonPointerLastPinLaw" (some 0) with
  accessFlags := 49
  interfaces := #[]
  cf := some (fileOf pool1 14 #[] #[{ accessFlags := 1, nameIndex := 5, descriptorIndex := 6, attributes := #[] }, { accessFlags := 10, nameIndex := 17, descriptorIndex := 18, attributes := #[] }, { accessFlags := 9, nameIndex := 50, descriptorIndex := 51, attributes := #[] }] 49 2 #[] #[])
  fields := #[]
  methods := #[k1m0, k1m1, k1m2]
  instanceTypes := #[]
  staticTypes := #[]
  resolved := Array.replicate 54 none
  statics := none }

def pool2 : Array CpInfo := pool [(1, .class_ 2), (0, u "java/io/Serializable"), (0, .class_ 4), (0, u "java/lang/Object")] 2

/-- java/io/Serializable -/
def k2 : Class := { plain "java/io/Serializable" (some 0) with
  accessFlags := 1537
  interfaces := #[]
  cf := some (fileOf pool2 1 #[] #[] 1537 3 #[] #[])
  fields := #[]
  methods := #[]
  instanceTypes := #[]
  staticTypes := #[]
  resolved := Array.replicate 7 none
  statics := none }

def pool3 : Array CpInfo := pool [(1, .class_ 2), (0, u "java/lang/Comparable"), (0, .class_ 4), (0, u "java/lang/Object")] 7

/-- java/lang/Comparable -/
def k3 : Class := { plain "java/lang/Comparable" (some 0) with
  accessFlags := 1537
  interfaces := #[]
  cf := some (fileOf pool3 1 #[] #[] 1537 3 #[] #[])
  fields := #[]
  methods := #[]
  instanceTypes := #[]
  staticTypes := #[]
  resolved := Array.replicate 12 none
  statics := none }

def pool4 : Array CpInfo := pool [(2, .class_ 4), (1, u "java/lang/CharSequence"), (42, .class_ 48), (0, u "java/lang/CharSequence$1CodePointIterator"), (10, .class_ 60), (0, u "java/lang/CharSequence$1CharIterator"), (5, .class_ 67), (0, u "java/lang/Object")] 63

/-- java/lang/CharSequence -/
def k4 : Class := { plain "java/lang/CharSequence" (some 0) with
  accessFlags := 1537
  interfaces := #[]
  cf := some (fileOf pool4 2 #[.nestMembers #[47, 59]] #[] 1537 66 #[] #[])
  fields := #[]
  methods := #[]
  instanceTypes := #[]
  staticTypes := #[]
  resolved := Array.replicate 131 none
  statics := none }

def pool5 : Array CpInfo := pool [(1, .class_ 2), (0, u "java/lang/constant/Constable"), (0, .class_ 4), (0, u "java/lang/Object")] 6

/-- java/lang/constant/Constable -/
def k5 : Class := { plain "java/lang/constant/Constable" (some 0) with
  accessFlags := 1537
  interfaces := #[]
  cf := some (fileOf pool5 1 #[] #[] 1537 3 #[] #[])
  fields := #[]
  methods := #[]
  instanceTypes := #[]
  staticTypes := #[]
  resolved := Array.replicate 11 none
  statics := none }

def pool6 : Array CpInfo := pool [(1, .class_ 2), (0, u "java/lang/constant/ConstantDesc"), (0, .class_ 4), (0, u "java/lang/Object")] 32

/-- java/lang/constant/ConstantDesc -/
def k6 : Class := { plain "java/lang/constant/ConstantDesc" (some 0) with
  accessFlags := 1537
  interfaces := #[]
  cf := some (fileOf pool6 1 #[] #[] 1537 3 #[] #[])
  fields := #[]
  methods := #[]
  instanceTypes := #[]
  staticTypes := #[]
  resolved := Array.replicate 37 none
  statics := none }

def pool7 : Array CpInfo := pool [(1, .methodref 2 3), (0, .class_ 4), (0, .nameAndType 5 6), (0, u "java/lang/Object"), (0, u "<init>"), (0, u "()V"), (0, .string 8), (0, u ""), (0, .fieldref 10 11), (0, .class_ 12), (0, .nameAndType 13 14), (0, u "java/lang/String"), (0, u "value"), (0, u "[B"), (0, .fieldref 10 16), (0, .nameAndType 17 18), (0, u "coder"), (0, u "B"), (2, u "hash"), (0, u "I"), (2, u "hashIsZero"), (0, u "Z"), (0, .methodref 10 28), (0, .nameAndType 5 29), (0, u "([CIILjava/lang/Void;)V"), (8, .fieldref 10 39), (0, .nameAndType 40 26), (0, u "COMPACT_STRINGS"), (1, .class_ 44), (1, u "java/lang/StringUTF16"), (0, u "compress"), (1, .methodref 42 48), (0, .nameAndType 49 50), (0, u "coderFromArrayLen"), (0, u "([BI)B"), (126, .methodref 42 178), (0, .nameAndType 45 179), (0, u "([CII)[B"), (395, .class_ 576), (0, u "java/lang/CharSequence"), (22, u "CASE_INSENSITIVE_ORDER"), (0, u "Ljava/util/Comparator;"), (409, u "([C)V"), (90, u "serialPersistentFields"), (0, u "[Ljava/io/ObjectStreamField;"), (0, .class_ 1104), (0, u "java/lang/String$CaseInsensitiveComparator"), (1, .class_ 1107), (0, u "java/io/Serializable"), (0, .class_ 1109), (0, u "java/lang/Comparable"), (0, .class_ 1111), (0, u "java/lang/constant/Constable"), (0, .class_ 1113), (0, u "java/lang/constant/ConstantDesc"), (2, u "serialVersionUID"), (0, u "J"), (3, u "REPL"), (0, u "C"), (2, u "LATIN1"), (1, u "UTF16")] 323

def k7m0 : Method := { name := "<init>", desc := "()V", sig := { parameters := [], returnType := none }, accessFlags := 1, code := none }
def k7c1 : Code := { maxStack := 5, maxLocals := 2, code := jdk_42_method_3_code, exceptionTable := #[], attributes := #[] }
def k7m1 : Method := { name := "<init>", desc := "([C)V", sig := { parameters := [(.array .char)], returnType := none }, accessFlags := 1, code := some k7c1 }
def k7c2 : Code := { maxStack := 4, maxLocals := 6, code := jdk_42_method_149_code, exceptionTable := #[], attributes := #[] }
def k7m2 : Method := { name := "<init>", desc := "([CIILjava/lang/Void;)V", sig := { parameters := [(.array .char), .int, .int, (.object "java/lang/Void")], returnType := none }, accessFlags := 2, code := some k7c2 }
/-- java/lang/String -/
def k7 : Class := { plain "java/lang/String" (some 0) with
  accessFlags := 49
  interfaces := #[2, 3, 4, 5, 6]
  cf := some (fileOf pool7 10 #[.nestMembers #[1103]] #[{ accessFlags := 1, nameIndex := 5, descriptorIndex := 6, attributes := #[] }, { accessFlags := 1, nameIndex := 5, descriptorIndex := 1010, attributes := #[] }, { accessFlags := 2, nameIndex := 5, descriptorIndex := 29, attributes := #[] }] 49 2 #[1106, 1108, 575, 1110, 1112] #[{ accessFlags := 18, nameIndex := 13, descriptorIndex := 14, attributes := #[] }, { accessFlags := 18, nameIndex := 17, descriptorIndex := 18, attributes := #[] }, { accessFlags := 2, nameIndex := 21, descriptorIndex := 22, attributes := #[] }, { accessFlags := 2, nameIndex := 25, descriptorIndex := 26, attributes := #[] }, { accessFlags := 26, nameIndex := 1116, descriptorIndex := 1117, attributes := #[] }, { accessFlags := 24, nameIndex := 40, descriptorIndex := 26, attributes := #[] }, { accessFlags := 26, nameIndex := 1101, descriptorIndex := 1102, attributes := #[] }, { accessFlags := 26, nameIndex := 1121, descriptorIndex := 1122, attributes := #[] }, { accessFlags := 25, nameIndex := 599, descriptorIndex := 600, attributes := #[] }, { accessFlags := 24, nameIndex := 1125, descriptorIndex := 18, attributes := #[] }, { accessFlags := 24, nameIndex := 1127, descriptorIndex := 18, attributes := #[] }])
  fields := #[{ name := "value", type := (.array .byte), accessFlags := 18, slot := 0, constantValue := 0 }, { name := "coder", type := .byte, accessFlags := 18, slot := 1, constantValue := 0 }, { name := "hash", type := .int, accessFlags := 2, slot := 2, constantValue := 0 }, { name := "hashIsZero", type := .boolean, accessFlags := 2, slot := 3, constantValue := 0 }, { name := "serialVersionUID", type := .long, accessFlags := 26, slot := 0, constantValue := 0 }, { name := "COMPACT_STRINGS", type := .boolean, accessFlags := 24, slot := 1, constantValue := 0 }, { name := "serialPersistentFields", type := (.array (.object "java/io/ObjectStreamField")), accessFlags := 26, slot := 2, constantValue := 0 }, { name := "REPL", type := .char, accessFlags := 26, slot := 3, constantValue := 0 }, { name := "CASE_INSENSITIVE_ORDER", type := (.object "java/util/Comparator"), accessFlags := 25, slot := 4, constantValue := 0 }, { name := "LATIN1", type := .byte, accessFlags := 24, slot := 5, constantValue := 0 }, { name := "UTF16", type := .byte, accessFlags := 24, slot := 6, constantValue := 0 }]
  methods := #[k7m0, k7m1, k7m2]
  instanceTypes := #[(.array .byte), .byte, .int, .boolean]
  staticTypes := #[.long, .boolean, (.array (.object "java/io/ObjectStreamField")), .char, (.object "java/util/Comparator"), .byte, .byte]
  resolved := Array.replicate 1451 none
  statics := some 0 }

def pool8 : Array CpInfo := pool [(6, .class_ 8), (1, u "java/lang/Object"), (0, u "<init>"), (0, u "()V"), (1, .class_ 14), (1, u "java/lang/StringUTF16"), (31, u "$assertionsDisabled"), (0, u "Z"), (13, u "HI_BYTE_SHIFT"), (0, u "I"), (2, u "LO_BYTE_SHIFT"), (49, .methodref 12 116), (0, .nameAndType 117 118), (0, u "compress"), (0, u "([CI[BII)I"), (3, u "([CII)[B"), (138, u "coderFromArrayLen"), (0, u "([BI)B"), (106, .class_ 371), (1, u "java/lang/StringUTF16$LinesSpliterator"), (58, u "MAX_LENGTH"), (196, .class_ 628), (0, u "java/lang/StringUTF16$CodePointsSpliterator"), (0, .class_ 630), (0, u "java/lang/StringUTF16$CharsSpliterator")] 4

def k8m0 : Method := { name := "<init>", desc := "()V", sig := { parameters := [], returnType := none }, accessFlags := 0, code := none }
def k8c1 : Code := { maxStack := 2, maxLocals := 2, code := jdk_52_method_15_code, exceptionTable := #[], attributes := #[] }
def k8m1 : Method := { name := "coderFromArrayLen", desc := "([BI)B", sig := { parameters := [(.array .byte), .int], returnType := some .byte }, accessFlags := 8, code := some k8c1 }
def k8c2 : Code := { maxStack := 5, maxLocals := 6, code := jdk_52_method_16_code, exceptionTable := #[], attributes := #[] }
def k8m2 : Method := { name := "compress", desc := "([CII)[B", sig := { parameters := [(.array .char), .int, .int], returnType := some (.array .byte) }, accessFlags := 9, code := some k8c2 }
def k8c3 : Code := { maxStack := 3, maxLocals := 7, code := jdk_52_method_21_code, exceptionTable := #[], attributes := #[] }
def k8m3 : Method := { name := "compress", desc := "([CI[BII)I", sig := { parameters := [(.array .char), .int, (.array .byte), .int, .int], returnType := some .int }, accessFlags := 9, code := some k8c3 }
/-- java/lang/StringUTF16 -/
def k8 : Class := { plain "java/lang/StringUTF16" (some 0) with
  accessFlags := 48
  interfaces := #[]
  cf := some (fileOf pool8 12 #[.nestMembers #[627, 629, 369]] #[{ accessFlags := 0, nameIndex := 9, descriptorIndex := 10, attributes := #[] }, { accessFlags := 8, nameIndex := 261, descriptorIndex := 262, attributes := #[] }, { accessFlags := 9, nameIndex := 117, descriptorIndex := 122, attributes := #[] }, { accessFlags := 9, nameIndex := 117, descriptorIndex := 118, attributes := #[] }] 48 6 #[] #[{ accessFlags := 26, nameIndex := 61, descriptorIndex := 62, attributes := #[] }, { accessFlags := 26, nameIndex := 65, descriptorIndex := 62, attributes := #[] }, { accessFlags := 24, nameIndex := 430, descriptorIndex := 62, attributes := #[] }, { accessFlags := 4120, nameIndex := 46, descriptorIndex := 47, attributes := #[] }])
  fields := #[{ name := "HI_BYTE_SHIFT", type := .int, accessFlags := 26, slot := 0, constantValue := 0 }, { name := "LO_BYTE_SHIFT", type := .int, accessFlags := 26, slot := 1, constantValue := 0 }, { name := "MAX_LENGTH", type := .int, accessFlags := 24, slot := 2, constantValue := 0 }, { name := "$assertionsDisabled", type := .boolean, accessFlags := 4120, slot := 3, constantValue := 0 }]
  methods := #[k8m0, k8m1, k8m2, k8m3]
  instanceTypes := #[]
  staticTypes := #[.int, .int, .int, .boolean]
  resolved := Array.replicate 635 none
  statics := none }

def pool9 : Array CpInfo := pool [(8, .class_ 10), (1, u "java/lang/Iterable"), (24, .class_ 36), (0, u "java/lang/Object")] 25

/-- java/lang/Iterable -/
def k9 : Class := { plain "java/lang/Iterable" (some 0) with
  accessFlags := 1537
  interfaces := #[]
  cf := some (fileOf pool9 8 #[] #[] 1537 35 #[] #[])
  fields := #[]
  methods := #[]
  instanceTypes := #[]
  staticTypes := #[]
  resolved := Array.replicate 62 none
  statics := none }

def pool10 : Array CpInfo := pool [(10, .class_ 12), (1, u "java/util/Collection"), (47, .class_ 61), (0, u "java/lang/Object"), (0, .class_ 63), (0, u "java/lang/Iterable")] 51

/-- java/util/Collection -/
def k10 : Class := { plain "java/util/Collection" (some 0) with
  accessFlags := 1537
  interfaces := #[9]
  cf := some (fileOf pool10 10 #[] #[] 1537 60 #[62] #[])
  fields := #[]
  methods := #[]
  instanceTypes := #[]
  staticTypes := #[]
  resolved := Array.replicate 115 none
  statics := none }

def pool11 : Array CpInfo := pool [(1, .methodref 2 3), (0, .class_ 4), (0, .nameAndType 5 6), (0, u "java/lang/Object"), (0, u "<init>"), (0, u "()V"), (1, .class_ 10), (1, u "java/util/AbstractCollection"), (66, .class_ 78), (0, u "java/util/Collection")] 81

def k11c0 : Code := { maxStack := 1, maxLocals := 1, code := jdk_22_method_1_code, exceptionTable := #[], attributes := #[] }
def k11m0 : Method := { name := "<init>", desc := "()V", sig := { parameters := [], returnType := none }, accessFlags := 4, code := some k11c0 }
/-- java/util/AbstractCollection -/
def k11 : Class := { plain "java/util/AbstractCollection" (some 0) with
  accessFlags := 1057
  interfaces := #[10]
  cf := some (fileOf pool11 8 #[] #[{ accessFlags := 4, nameIndex := 5, descriptorIndex := 6, attributes := #[] }] 1057 2 #[77] #[])
  fields := #[]
  methods := #[k11m0]
  instanceTypes := #[]
  staticTypes := #[]
  resolved := Array.replicate 160 none
  statics := none }

def pool12 : Array CpInfo := pool [(8, .class_ 10), (1, u "java/util/SequencedCollection"), (15, .class_ 27), (0, u "java/lang/Object"), (0, .class_ 29), (0, u "java/util/Collection")] 27

/-- java/util/SequencedCollection -/
def k12 : Class := { plain "java/util/SequencedCollection" (some 0) with
  accessFlags := 1537
  interfaces := #[10]
  cf := some (fileOf pool12 8 #[] #[] 1537 26 #[28] #[])
  fields := #[]
  methods := #[]
  instanceTypes := #[]
  staticTypes := #[]
  resolved := Array.replicate 57 none
  statics := none }

def pool13 : Array CpInfo := pool [(8, .class_ 10), (1, u "java/util/List"), (49, u "add"), (3, u "(Ljava/lang/Object;)Z"), (10, u "get"), (0, u "(I)Ljava/lang/Object;"), (2, u "size"), (0, u "()I"), (22, .class_ 104), (0, u "java/lang/Object"), (15, .class_ 121), (0, u "java/util/SequencedCollection")] 129

def k13m0 : Method := { name := "size", desc := "()I", sig := { parameters := [], returnType := some .int }, accessFlags := 1025, code := none }
def k13m1 : Method := { name := "add", desc := "(Ljava/lang/Object;)Z", sig := { parameters := [(.object "java/lang/Object")], returnType := some .boolean }, accessFlags := 1025, code := none }
def k13m2 : Method := { name := "get", desc := "(I)Ljava/lang/Object;", sig := { parameters := [.int], returnType := some (.object "java/lang/Object") }, accessFlags := 1025, code := none }
/-- java/util/List -/
def k13 : Class := { plain "java/util/List" (some 0) with
  accessFlags := 1537
  interfaces := #[12]
  cf := some (fileOf pool13 8 #[] #[{ accessFlags := 1025, nameIndex := 79, descriptorIndex := 80, attributes := #[] }, { accessFlags := 1025, nameIndex := 60, descriptorIndex := 64, attributes := #[] }, { accessFlags := 1025, nameIndex := 75, descriptorIndex := 76, attributes := #[] }] 1537 103 #[120] #[])
  fields := #[]
  methods := #[k13m0, k13m1, k13m2]
  instanceTypes := #[]
  staticTypes := #[]
  resolved := Array.replicate 251 none
  statics := none }

def pool14 : Array CpInfo := pool [(1, .methodref 2 3), (0, .class_ 4), (0, .nameAndType 5 6), (0, u "java/util/AbstractCollection"), (0, u "<init>"), (0, u "()V"), (0, .fieldref 8 9), (0, .class_ 10), (0, .nameAndType 11 12), (0, u "java/util/AbstractList"), (0, u "modCount"), (0, u "I"), (64, .class_ 78), (0, u "java/util/AbstractList$Itr"), (3, .class_ 83), (0, u "java/util/AbstractList$ListItr"), (9, .class_ 94), (0, u "java/util/AbstractList$RandomAccessSubList"), (3, .class_ 99), (0, u "java/util/AbstractList$SubList"), (33, .class_ 134), (0, u "java/util/List"), (73, .class_ 209), (0, u "java/util/AbstractList$SubList$1"), (0, .class_ 211), (0, u "java/util/AbstractList$RandomAccessSpliterator")] 6

def k14c0 : Code := { maxStack := 2, maxLocals := 1, code := jdk_39_method_1_code, exceptionTable := #[], attributes := #[] }
def k14m0 : Method := { name := "<init>", desc := "()V", sig := { parameters := [], returnType := none }, accessFlags := 4, code := some k14c0 }
/-- java/util/AbstractList -/
def k14 : Class := { plain "java/util/AbstractList" (some 11) with
  accessFlags := 1057
  interfaces := #[13]
  cf := some (fileOf pool14 8 #[.nestMembers #[93, 98, 208, 210, 82, 77]] #[{ accessFlags := 4, nameIndex := 5, descriptorIndex := 6, attributes := #[] }] 1057 2 #[133] #[{ accessFlags := 132, nameIndex := 11, descriptorIndex := 12, attributes := #[] }])
  fields := #[{ name := "modCount", type := .int, accessFlags := 132, slot := 0, constantValue := 0 }]
  methods := #[k14m0]
  instanceTypes := #[.int]
  staticTypes := #[]
  resolved := Array.replicate 218 none
  statics := none }

def pool15 : Array CpInfo := pool [(1, .class_ 2), (0, u "java/util/RandomAccess"), (0, .class_ 4), (0, u "java/lang/Object")] 2

/-- java/util/RandomAccess -/
def k15 : Class := { plain "java/util/RandomAccess" (some 0) with
  accessFlags := 1537
  interfaces := #[]
  cf := some (fileOf pool15 1 #[] #[] 1537 3 #[] #[])
  fields := #[]
  methods := #[]
  instanceTypes := #[]
  staticTypes := #[]
  resolved := Array.replicate 7 none
  statics := none }

def pool16 : Array CpInfo := pool [(1, .class_ 2), (0, u "java/lang/Cloneable"), (0, .class_ 4), (0, u "java/lang/Object")] 2

/-- java/lang/Cloneable -/
def k16 : Class := { plain "java/lang/Cloneable" (some 0) with
  accessFlags := 1537
  interfaces := #[]
  cf := some (fileOf pool16 1 #[] #[] 1537 3 #[] #[])
  fields := #[]
  methods := #[]
  instanceTypes := #[]
  staticTypes := #[]
  resolved := Array.replicate 7 none
  statics := none }

def pool17 : Array CpInfo := pool [(1, .methodref 2 3), (0, .class_ 4), (0, .nameAndType 5 6), (0, u "java/util/AbstractList"), (0, u "<init>"), (0, u "()V"), (0, .class_ 8), (0, u "java/lang/Object"), (0, .fieldref 10 11), (0, .class_ 12), (0, .nameAndType 13 14), (0, u "java/util/ArrayList"), (0, u "elementData"), (0, u "[Ljava/lang/Object;"), (2, u "EMPTY_ELEMENTDATA"), (21, .fieldref 10 40), (0, .nameAndType 41 14), (0, u "DEFAULTCAPACITY_EMPTY_ELEMENTDATA"), (5, u "()[Ljava/lang/Object;"), (0, .fieldref 10 49), (0, .nameAndType 50 51), (0, u "size"), (0, u "I"), (11, .fieldref 10 64), (0, .nameAndType 65 51), (0, u "modCount"), (3, .methodref 10 70), (0, .nameAndType 71 72), (0, u "grow"), (0, u "(I)[Ljava/lang/Object;"), (6, .methodref 80 81), (0, .class_ 82), (0, .nameAndType 83 84), (0, u "java/lang/Math"), (0, u "max"), (0, u "(II)I"), (11, u "(Ljava/lang/Object;)Z"), (21, .methodref 119 120), (0, .class_ 121), (0, .nameAndType 122 84), (0, u "java/util/Objects"), (0, u "checkIndex"), (0, .methodref 10 124), (0, .nameAndType 13 125), (0, u "(I)Ljava/lang/Object;"), (3, .methodref 10 130), (0, .nameAndType 71 47), (0, .methodref 10 132), (0, .nameAndType 133 134), (0, u "add"), (0, u "(Ljava/lang/Object;[Ljava/lang/Object;I)V"), (13, .class_ 149), (0, u "java/util/List"), (36, u "()I"), (75, .class_ 263), (0, u "java/util/ArrayList$ListItr"), (3, .class_ 268), (0, u "java/util/ArrayList$Itr"), (7, .class_ 277), (0, u "java/util/ArrayList$SubList"), (12, .class_ 291), (0, u "java/util/ArrayList$ArrayListSpliterator"), (37, .class_ 330), (0, u "java/util/RandomAccess"), (0, .class_ 332), (0, u "java/lang/Cloneable"), (0, .class_ 334), (0, u "java/io/Serializable"), (0, u "serialVersionUID"), (0, u "J"), (3, u "DEFAULT_CAPACITY"), (40, u "get"), (118, .class_ 501), (0, u "java/util/ArrayList$SubList$2"), (0, .class_ 503), (0, u "java/util/ArrayList$SubList$1")] 5

def k17c0 : Code := { maxStack := 2, maxLocals := 1, code := jdk_38_method_2_code, exceptionTable := #[], attributes := #[] }
def k17m0 : Method := { name := "<init>", desc := "()V", sig := { parameters := [], returnType := none }, accessFlags := 1, code := some k17c0 }
def k17c1 : Code := { maxStack := 4, maxLocals := 4, code := jdk_38_method_6_code, exceptionTable := #[], attributes := #[] }
def k17m1 : Method := { name := "grow", desc := "(I)[Ljava/lang/Object;", sig := { parameters := [.int], returnType := some (.array (.object "java/lang/Object")) }, accessFlags := 2, code := some k17c1 }
def k17c2 : Code := { maxStack := 3, maxLocals := 1, code := jdk_38_method_7_code, exceptionTable := #[], attributes := #[] }
def k17m2 : Method := { name := "grow", desc := "()[Ljava/lang/Object;", sig := { parameters := [], returnType := some (.array (.object "java/lang/Object")) }, accessFlags := 2, code := some k17c2 }
def k17c3 : Code := { maxStack := 1, maxLocals := 1, code := jdk_38_method_8_code, exceptionTable := #[], attributes := #[] }
def k17m3 : Method := { name := "size", desc := "()I", sig := { parameters := [], returnType := some .int }, accessFlags := 1, code := some k17c3 }
def k17c4 : Code := { maxStack := 2, maxLocals := 2, code := jdk_38_method_18_code, exceptionTable := #[], attributes := #[] }
def k17m4 : Method := { name := "elementData", desc := "(I)Ljava/lang/Object;", sig := { parameters := [.int], returnType := some (.object "java/lang/Object") }, accessFlags := 0, code := some k17c4 }
def k17c5 : Code := { maxStack := 2, maxLocals := 2, code := jdk_38_method_20_code, exceptionTable := #[], attributes := #[] }
def k17m5 : Method := { name := "get", desc := "(I)Ljava/lang/Object;", sig := { parameters := [.int], returnType := some (.object "java/lang/Object") }, accessFlags := 1, code := some k17c5 }
def k17c6 : Code := { maxStack := 3, maxLocals := 4, code := jdk_38_method_24_code, exceptionTable := #[], attributes := #[] }
def k17m6 : Method := { name := "add", desc := "(Ljava/lang/Object;[Ljava/lang/Object;I)V", sig := { parameters := [(.object "java/lang/Object"), (.array (.object "java/lang/Object")), .int], returnType := none }, accessFlags := 2, code := some k17c6 }
def k17c7 : Code := { maxStack := 4, maxLocals := 2, code := jdk_38_method_25_code, exceptionTable := #[], attributes := #[] }
def k17m7 : Method := { name := "add", desc := "(Ljava/lang/Object;)Z", sig := { parameters := [(.object "java/lang/Object")], returnType := some .boolean }, accessFlags := 1, code := some k17c7 }
/-- java/util/ArrayList -/
def k17 : Class := { plain "java/util/ArrayList" (some 14) with
  accessFlags := 33
  interfaces := #[13, 15, 16, 2]
  cf := some (fileOf pool17 10 #[.nestMembers #[290, 276, 500, 502, 262, 267]] #[{ accessFlags := 1, nameIndex := 5, descriptorIndex := 6, attributes := #[] }, { accessFlags := 2, nameIndex := 71, descriptorIndex := 72, attributes := #[] }, { accessFlags := 2, nameIndex := 71, descriptorIndex := 47, attributes := #[] }, { accessFlags := 1, nameIndex := 50, descriptorIndex := 186, attributes := #[] }, { accessFlags := 0, nameIndex := 13, descriptorIndex := 125, attributes := #[] }, { accessFlags := 1, nameIndex := 381, descriptorIndex := 125, attributes := #[] }, { accessFlags := 2, nameIndex := 133, descriptorIndex := 134, attributes := #[] }, { accessFlags := 1, nameIndex := 133, descriptorIndex := 96, attributes := #[] }] 33 2 #[148, 329, 331, 333] #[{ accessFlags := 26, nameIndex := 335, descriptorIndex := 336, attributes := #[] }, { accessFlags := 26, nameIndex := 340, descriptorIndex := 51, attributes := #[] }, { accessFlags := 26, nameIndex := 17, descriptorIndex := 14, attributes := #[] }, { accessFlags := 26, nameIndex := 41, descriptorIndex := 14, attributes := #[] }, { accessFlags := 128, nameIndex := 13, descriptorIndex := 14, attributes := #[] }, { accessFlags := 2, nameIndex := 50, descriptorIndex := 51, attributes := #[] }])
  fields := #[{ name := "serialVersionUID", type := .long, accessFlags := 26, slot := 0, constantValue := 0 }, { name := "DEFAULT_CAPACITY", type := .int, accessFlags := 26, slot := 1, constantValue := 0 }, { name := "EMPTY_ELEMENTDATA", type := (.array (.object "java/lang/Object")), accessFlags := 26, slot := 2, constantValue := 0 }, { name := "DEFAULTCAPACITY_EMPTY_ELEMENTDATA", type := (.array (.object "java/lang/Object")), accessFlags := 26, slot := 3, constantValue := 0 }, { name := "elementData", type := (.array (.object "java/lang/Object")), accessFlags := 128, slot := 1, constantValue := 0 }, { name := "size", type := .int, accessFlags := 2, slot := 2, constantValue := 0 }]
  methods := #[k17m0, k17m1, k17m2, k17m3, k17m4, k17m5, k17m6, k17m7]
  instanceTypes := #[.int, (.array (.object "java/lang/Object")), .int]
  staticTypes := #[.long, .int, (.array (.object "java/lang/Object")), (.array (.object "java/lang/Object"))]
  resolved := Array.replicate 509 none
  statics := some 1 }

def pool18 : Array CpInfo := pool [(1, .class_ 2), (0, u "java/lang/Math"), (1, .class_ 6), (1, u "java/lang/Object"), (0, u "<init>"), (0, u "()V"), (89, .class_ 100), (1, u "java/lang/Math$RandomNumberGeneratorHolder"), (71, u "negativeZeroFloatBits"), (0, u "J"), (2, u "negativeZeroDoubleBits"), (21, u "max"), (46, u "$assertionsDisabled"), (0, u "Z"), (88, u "(II)I"), (2, u "twoToTheDoubleScaleDown"), (0, u "D"), (4, u "twoToTheDoubleScaleUp"), (9, u "E"), (3, u "PI"), (2, u "TAU"), (2, u "DEGREES_TO_RADIANS"), (0, u "RADIANS_TO_DEGREES")] 94

def k18m0 : Method := { name := "<init>", desc := "()V", sig := { parameters := [], returnType := none }, accessFlags := 2, code := none }
def k18c1 : Code := { maxStack := 2, maxLocals := 2, code := jdk_29_method_65_code, exceptionTable := #[], attributes := #[] }
def k18m1 : Method := { name := "max", desc := "(II)I", sig := { parameters := [.int, .int], returnType := some .int }, accessFlags := 9, code := some k18c1 }
/-- java/lang/Math -/
def k18 : Class := { plain "java/lang/Math" (some 0) with
  accessFlags := 49
  interfaces := #[]
  cf := some (fileOf pool18 1 #[.nestMembers #[98]] #[{ accessFlags := 2, nameIndex := 7, descriptorIndex := 8, attributes := #[] }, { accessFlags := 9, nameIndex := 198, descriptorIndex := 335, attributes := #[] }] 49 4 #[] #[{ accessFlags := 25, nameIndex := 354, descriptorIndex := 339, attributes := #[] }, { accessFlags := 25, nameIndex := 358, descriptorIndex := 339, attributes := #[] }, { accessFlags := 25, nameIndex := 361, descriptorIndex := 339, attributes := #[] }, { accessFlags := 26, nameIndex := 364, descriptorIndex := 339, attributes := #[] }, { accessFlags := 26, nameIndex := 365, descriptorIndex := 339, attributes := #[] }, { accessFlags := 26, nameIndex := 172, descriptorIndex := 173, attributes := #[] }, { accessFlags := 26, nameIndex := 176, descriptorIndex := 173, attributes := #[] }, { accessFlags := 8, nameIndex := 344, descriptorIndex := 339, attributes := #[] }, { accessFlags := 8, nameIndex := 338, descriptorIndex := 339, attributes := #[] }, { accessFlags := 4120, nameIndex := 245, descriptorIndex := 246, attributes := #[] }])
  fields := #[{ name := "E", type := .double, accessFlags := 25, slot := 0, constantValue := 0 }, { name := "PI", type := .double, accessFlags := 25, slot := 1, constantValue := 0 }, { name := "TAU", type := .double, accessFlags := 25, slot := 2, constantValue := 0 }, { name := "DEGREES_TO_RADIANS", type := .double, accessFlags := 26, slot := 3, constantValue := 0 }, { name := "RADIANS_TO_DEGREES", type := .double, accessFlags := 26, slot := 4, constantValue := 0 }, { name := "negativeZeroFloatBits", type := .long, accessFlags := 26, slot := 5, constantValue := 0 }, { name := "negativeZeroDoubleBits", type := .long, accessFlags := 26, slot := 6, constantValue := 0 }, { name := "twoToTheDoubleScaleUp", type := .double, accessFlags := 8, slot := 7, constantValue := 0 }, { name := "twoToTheDoubleScaleDown", type := .double, accessFlags := 8, slot := 8, constantValue := 0 }, { name := "$assertionsDisabled", type := .boolean, accessFlags := 4120, slot := 9, constantValue := 0 }]
  methods := #[k18m0, k18m1]
  instanceTypes := #[]
  staticTypes := #[.double, .double, .double, .double, .double, .long, .long, .double, .double, .boolean]
  resolved := Array.replicate 460 none
  statics := none }

def pool19 : Array CpInfo := pool [(1, .methodref 2 3), (0, .class_ 4), (0, .nameAndType 5 6), (0, u "java/lang/Object"), (0, u "<init>"), (0, u "()V"), (0, .class_ 8), (0, u "java/lang/Record")] 13

def k19c0 : Code := { maxStack := 1, maxLocals := 1, code := jdk_30_method_1_code, exceptionTable := #[], attributes := #[] }
def k19m0 : Method := { name := "<init>", desc := "()V", sig := { parameters := [], returnType := none }, accessFlags := 4, code := some k19c0 }
/-- java/lang/Record -/
def k19 : Class := { plain "java/lang/Record" (some 0) with
  accessFlags := 1057
  interfaces := #[]
  cf := some (fileOf pool19 7 #[] #[{ accessFlags := 4, nameIndex := 5, descriptorIndex := 6, attributes := #[] }] 1057 2 #[] #[])
  fields := #[]
  methods := #[k19m0]
  instanceTypes := #[]
  staticTypes := #[]
  resolved := Array.replicate 22 none
  statics := none }

def pool20 : Array CpInfo := pool [(1, .methodref 2 3), (0, .class_ 4), (0, .nameAndType 5 6), (0, u "java/lang/Record"), (0, u "<init>"), (0, u "()V"), (0, .fieldref 8 9), (0, .class_ 10), (0, .nameAndType 11 12), (0, u "com/example/tethercall/tethercall/JsonPointer"), (0, u "text"), (0, u "Ljava/lang/String;"), (0, .fieldref 8 14), (0, .nameAndType 15 16), (0, u "tokens"), (0, u "Ljava/util/List;"), (1, .class_ 20), (1, u "java/lang/String"), (15, u "()I"), (3, u "()Ljava/lang/String;"), (1, .class_ 44), (1, u "java/util/List"), (16, u "(Ljava/lang/String;Ljava/util/List;)V"), (14, u "ARRAY_INDEX"), (0, u "Ljava/util/regex/Pattern;"), (22, .interfaceMethodref 42 101), (0, .nameAndType 102 36), (0, u "size"), (4, .interfaceMethodref 42 108), (0, .nameAndType 109 110), (0, u "get"), (0, u "(I)Ljava/lang/Object;"), (34, u "()Ljava/util/List;"), (1, u "last")] 24

def k20c0 : Code := { maxStack := 2, maxLocals := 3, code := prog_9_method_1_code, exceptionTable := #[], attributes := #[] }
def k20m0 : Method := { name := "<init>", desc := "(Ljava/lang/String;Ljava/util/List;)V", sig := { parameters := [(.object "java/lang/String"), (.object "java/util/List")], returnType := none }, accessFlags := 0, code := some k20c0 }
def k20c1 : Code := { maxStack := 3, maxLocals := 1, code := prog_9_method_7_code, exceptionTable := #[], attributes := #[] }
def k20m1 : Method := { name := "last", desc := "()Ljava/lang/String;", sig := { parameters := [], returnType := some (.object "java/lang/String") }, accessFlags := 0, code := some k20c1 }
def k20c2 : Code := { maxStack := 1, maxLocals := 1, code := prog_9_method_13_code, exceptionTable := #[], attributes := #[] }
def k20m2 : Method := { name := "tokens", desc := "()Ljava/util/List;", sig := { parameters := [], returnType := some (.object "java/util/List") }, accessFlags := 1, code := some k20c2 }
/-- com/example/tethercall/tethercall/JsonPointer -/
def k20 : Class := { plain "com/example/tethercall/tethercall/JsonPointer" (some 19) with
  accessFlags := 48
  interfaces := #[]
  cf := some (fileOf pool20 8 #[] #[{ accessFlags := 0, nameIndex := 5, descriptorIndex := 61, attributes := #[] }, { accessFlags := 0, nameIndex := 147, descriptorIndex := 40, attributes := #[] }, { accessFlags := 1, nameIndex := 15, descriptorIndex := 145, attributes := #[] }] 48 2 #[] #[{ accessFlags := 18, nameIndex := 11, descriptorIndex := 12, attributes := #[] }, { accessFlags := 18, nameIndex := 15, descriptorIndex := 16, attributes := #[] }, { accessFlags := 26, nameIndex := 76, descriptorIndex := 77, attributes := #[] }])
  fields := #[{ name := "text", type := (.object "java/lang/String"), accessFlags := 18, slot := 0, constantValue := 0 }, { name := "tokens", type := (.object "java/util/List"), accessFlags := 18, slot := 1, constantValue := 0 }, { name := "ARRAY_INDEX", type := (.object "java/util/regex/Pattern"), accessFlags := 26, slot := 0, constantValue := 0 }]
  methods := #[k20m0, k20m1, k20m2]
  instanceTypes := #[(.object "java/lang/String"), (.object "java/util/List")]
  staticTypes := #[(.object "java/util/regex/Pattern")]
  resolved := Array.replicate 172 none
  statics := none }

def pool21 : Array CpInfo := pool [(2, .class_ 4), (1, u "java/lang/Object"), (0, u "<init>"), (0, u "()V"), (35, .class_ 44), (1, u "java/util/Objects"), (60, .methodref 106 107), (0, .class_ 108), (0, .nameAndType 109 110), (0, u "jdk/internal/util/Preconditions"), (0, u "checkIndex"), (0, u "(IILjava/util/function/BiFunction;)I"), (60, u "(II)I")] 12

def k21m0 : Method := { name := "<init>", desc := "()V", sig := { parameters := [], returnType := none }, accessFlags := 2, code := none }
def k21c1 : Code := { maxStack := 3, maxLocals := 2, code := jdk_31_method_17_code, exceptionTable := #[], attributes := #[] }
def k21m1 : Method := { name := "checkIndex", desc := "(II)I", sig := { parameters := [.int, .int], returnType := some .int }, accessFlags := 9, code := some k21c1 }
/-- java/util/Objects -/
def k21 : Class := { plain "java/util/Objects" (some 0) with
  accessFlags := 49
  interfaces := #[]
  cf := some (fileOf pool21 42 #[] #[{ accessFlags := 2, nameIndex := 5, descriptorIndex := 6, attributes := #[] }, { accessFlags := 9, nameIndex := 109, descriptorIndex := 171, attributes := #[] }] 49 2 #[] #[])
  fields := #[]
  methods := #[k21m0, k21m1]
  instanceTypes := #[]
  staticTypes := #[]
  resolved := Array.replicate 184 none
  statics := none }

def pool22 : Array CpInfo := pool [(2, .class_ 4), (1, u "java/lang/Object"), (0, u "<init>"), (0, u "()V"), (17, .class_ 26), (1, u "jdk/internal/util/Preconditions"), (6, u "checkIndex"), (21, .class_ 56), (0, u "jdk/internal/util/Preconditions$4"), (57, .class_ 115), (0, u "jdk/internal/util/Preconditions$1"), (7, u "SIOOBE_FORMATTER"), (0, u "Ljava/util/function/BiFunction;"), (0, .class_ 126), (0, u "jdk/internal/util/Preconditions$2"), (3, u "AIOOBE_FORMATTER"), (0, .class_ 132), (0, u "jdk/internal/util/Preconditions$3"), (3, u "IOOBE_FORMATTER"), (41, u "(IILjava/util/function/BiFunction;)I")] 15

def k22m0 : Method := { name := "<init>", desc := "()V", sig := { parameters := [], returnType := none }, accessFlags := 1, code := none }
def k22c1 : Code := { maxStack := 3, maxLocals := 3, code := jdk_41_method_11_code, exceptionTable := #[], attributes := #[] }
def k22m1 : Method := { name := "checkIndex", desc := "(IILjava/util/function/BiFunction;)I", sig := { parameters := [.int, .int, (.object "java/util/function/BiFunction")], returnType := some .int }, accessFlags := 9, code := some k22c1 }
/-- jdk/internal/util/Preconditions -/
def k22 : Class := { plain "jdk/internal/util/Preconditions" (some 0) with
  accessFlags := 33
  interfaces := #[]
  cf := some (fileOf pool22 24 #[.nestMembers #[55, 131, 125, 114]] #[{ accessFlags := 1, nameIndex := 5, descriptorIndex := 6, attributes := #[] }, { accessFlags := 9, nameIndex := 33, descriptorIndex := 178, attributes := #[] }] 33 2 #[] #[{ accessFlags := 25, nameIndex := 123, descriptorIndex := 124, attributes := #[] }, { accessFlags := 25, nameIndex := 130, descriptorIndex := 124, attributes := #[] }, { accessFlags := 25, nameIndex := 136, descriptorIndex := 124, attributes := #[] }])
  fields := #[{ name := "SIOOBE_FORMATTER", type := (.object "java/util/function/BiFunction"), accessFlags := 25, slot := 0, constantValue := 0 }, { name := "AIOOBE_FORMATTER", type := (.object "java/util/function/BiFunction"), accessFlags := 25, slot := 1, constantValue := 0 }, { name := "IOOBE_FORMATTER", type := (.object "java/util/function/BiFunction"), accessFlags := 25, slot := 2, constantValue := 0 }]
  methods := #[k22m0, k22m1]
  instanceTypes := #[]
  staticTypes := #[(.object "java/util/function/BiFunction"), (.object "java/util/function/BiFunction"), (.object "java/util/function/BiFunction")]
  resolved := Array.replicate 194 none
  statics := some 2 }

def pool23 : Array CpInfo := pool [(4, .class_ 6), (1, u "java/lang/Object"), (0, u "<init>"), (0, u "()V"), (5, .class_ 16), (1, u "java/lang/StringLatin1"), (104, u "$assertionsDisabled"), (0, u "Z"), (98, .class_ 223), (1, u "java/lang/StringLatin1$LinesSpliterator"), (166, .class_ 391), (0, u "java/lang/StringLatin1$CharsSpliterator")] 3

def k23m0 : Method := { name := "<init>", desc := "()V", sig := { parameters := [], returnType := none }, accessFlags := 0, code := none }
/-- java/lang/StringLatin1 -/
def k23 : Class := { plain "java/lang/StringLatin1" (some 0) with
  accessFlags := 48
  interfaces := #[]
  cf := some (fileOf pool23 14 #[.nestMembers #[390, 221]] #[{ accessFlags := 0, nameIndex := 7, descriptorIndex := 8, attributes := #[] }] 48 4 #[] #[{ accessFlags := 4120, nameIndex := 121, descriptorIndex := 122, attributes := #[] }])
  fields := #[{ name := "$assertionsDisabled", type := .boolean, accessFlags := 4120, slot := 0, constantValue := 0 }]
  methods := #[k23m0]
  instanceTypes := #[]
  staticTypes := #[.boolean]
  resolved := Array.replicate 395 none
  statics := none }

def pool24 : Array CpInfo := pool [(9, u "<init>"), (6, .class_ 18), (1, u "java/lang/Object"), (0, u "()V"), (1, .class_ 23), (1, u "jdk/internal/util/ArraysSupport"), (0, u "LOG2_ARRAY_LONG_INDEX_SCALE"), (0, u "I"), (2, u "U"), (0, u "Ljdk/internal/misc/Unsafe;"), (8, u "BIG_ENDIAN"), (0, u "Z"), (8, u "LOG2_BYTE_BIT_SIZE"), (4, u "LOG2_ARRAY_INT_INDEX_SCALE"), (54, u "JLA"), (0, u "Ljdk/internal/access/JavaLangAccess;"), (11, u "LOG2_ARRAY_BOOLEAN_INDEX_SCALE"), (9, u "LOG2_ARRAY_BYTE_INDEX_SCALE"), (5, u "LOG2_ARRAY_CHAR_INDEX_SCALE"), (5, u "LOG2_ARRAY_SHORT_INDEX_SCALE"), (18, u "LOG2_ARRAY_FLOAT_INDEX_SCALE"), (24, u "LOG2_ARRAY_DOUBLE_INDEX_SCALE"), (89, u "T_BOOLEAN"), (2, u "T_CHAR"), (1, u "T_FLOAT"), (1, u "T_DOUBLE"), (1, u "T_BYTE"), (1, u "T_SHORT"), (1, u "T_INT"), (1, u "T_LONG"), (1, u "SOFT_MAX_ARRAY_LENGTH")] 83

def k24m0 : Method := { name := "<init>", desc := "()V", sig := { parameters := [], returnType := none }, accessFlags := 2, code := none }
/-- jdk/internal/util/ArraysSupport -/
def k24 : Class := { plain "jdk/internal/util/ArraysSupport" (some 0) with
  accessFlags := 33
  interfaces := #[]
  cf := some (fileOf pool24 21 #[] #[{ accessFlags := 2, nameIndex := 9, descriptorIndex := 19, attributes := #[] }] 33 16 #[] #[{ accessFlags := 24, nameIndex := 28, descriptorIndex := 29, attributes := #[] }, { accessFlags := 26, nameIndex := 38, descriptorIndex := 39, attributes := #[] }, { accessFlags := 25, nameIndex := 121, descriptorIndex := 25, attributes := #[] }, { accessFlags := 25, nameIndex := 131, descriptorIndex := 25, attributes := #[] }, { accessFlags := 25, nameIndex := 137, descriptorIndex := 25, attributes := #[] }, { accessFlags := 25, nameIndex := 143, descriptorIndex := 25, attributes := #[] }, { accessFlags := 25, nameIndex := 53, descriptorIndex := 25, attributes := #[] }, { accessFlags := 25, nameIndex := 24, descriptorIndex := 25, attributes := #[] }, { accessFlags := 25, nameIndex := 162, descriptorIndex := 25, attributes := #[] }, { accessFlags := 25, nameIndex := 187, descriptorIndex := 25, attributes := #[] }, { accessFlags := 26, nameIndex := 48, descriptorIndex := 25, attributes := #[] }, { accessFlags := 25, nameIndex := 277, descriptorIndex := 25, attributes := #[] }, { accessFlags := 25, nameIndex := 280, descriptorIndex := 25, attributes := #[] }, { accessFlags := 25, nameIndex := 282, descriptorIndex := 25, attributes := #[] }, { accessFlags := 25, nameIndex := 284, descriptorIndex := 25, attributes := #[] }, { accessFlags := 25, nameIndex := 286, descriptorIndex := 25, attributes := #[] }, { accessFlags := 25, nameIndex := 288, descriptorIndex := 25, attributes := #[] }, { accessFlags := 25, nameIndex := 290, descriptorIndex := 25, attributes := #[] }, { accessFlags := 25, nameIndex := 292, descriptorIndex := 25, attributes := #[] }, { accessFlags := 26, nameIndex := 108, descriptorIndex := 109, attributes := #[] }, { accessFlags := 25, nameIndex := 294, descriptorIndex := 25, attributes := #[] }])
  fields := #[{ name := "U", type := (.object "jdk/internal/misc/Unsafe"), accessFlags := 24, slot := 0, constantValue := 0 }, { name := "BIG_ENDIAN", type := .boolean, accessFlags := 26, slot := 1, constantValue := 0 }, { name := "LOG2_ARRAY_BOOLEAN_INDEX_SCALE", type := .int, accessFlags := 25, slot := 2, constantValue := 0 }, { name := "LOG2_ARRAY_BYTE_INDEX_SCALE", type := .int, accessFlags := 25, slot := 3, constantValue := 0 }, { name := "LOG2_ARRAY_CHAR_INDEX_SCALE", type := .int, accessFlags := 25, slot := 4, constantValue := 0 }, { name := "LOG2_ARRAY_SHORT_INDEX_SCALE", type := .int, accessFlags := 25, slot := 5, constantValue := 0 }, { name := "LOG2_ARRAY_INT_INDEX_SCALE", type := .int, accessFlags := 25, slot := 6, constantValue := 0 }, { name := "LOG2_ARRAY_LONG_INDEX_SCALE", type := .int, accessFlags := 25, slot := 7, constantValue := 0 }, { name := "LOG2_ARRAY_FLOAT_INDEX_SCALE", type := .int, accessFlags := 25, slot := 8, constantValue := 0 }, { name := "LOG2_ARRAY_DOUBLE_INDEX_SCALE", type := .int, accessFlags := 25, slot := 9, constantValue := 0 }, { name := "LOG2_BYTE_BIT_SIZE", type := .int, accessFlags := 26, slot := 10, constantValue := 0 }, { name := "T_BOOLEAN", type := .int, accessFlags := 25, slot := 11, constantValue := 0 }, { name := "T_CHAR", type := .int, accessFlags := 25, slot := 12, constantValue := 0 }, { name := "T_FLOAT", type := .int, accessFlags := 25, slot := 13, constantValue := 0 }, { name := "T_DOUBLE", type := .int, accessFlags := 25, slot := 14, constantValue := 0 }, { name := "T_BYTE", type := .int, accessFlags := 25, slot := 15, constantValue := 0 }, { name := "T_SHORT", type := .int, accessFlags := 25, slot := 16, constantValue := 0 }, { name := "T_INT", type := .int, accessFlags := 25, slot := 17, constantValue := 0 }, { name := "T_LONG", type := .int, accessFlags := 25, slot := 18, constantValue := 0 }, { name := "JLA", type := (.object "jdk/internal/access/JavaLangAccess"), accessFlags := 26, slot := 19, constantValue := 0 }, { name := "SOFT_MAX_ARRAY_LENGTH", type := .int, accessFlags := 25, slot := 20, constantValue := 0 }]
  methods := #[k24m0]
  instanceTypes := #[]
  staticTypes := #[(.object "jdk/internal/misc/Unsafe"), .boolean, .int, .int, .int, .int, .int, .int, .int, .int, .int, .int, .int, .int, .int, .int, .int, .int, .int, (.object "jdk/internal/access/JavaLangAccess"), .int]
  resolved := Array.replicate 378 none
  statics := none }

/-- the primitive byte -/
def k25 : Class := { plain "byte" none with kind := .primitive 'B', accessFlags := 0x411 }
/-- [B -/
def k26 : Class := { plain "[B" (some 0) with kind := .array 25 .byte, interfaces := #[16, 2], accessFlags := 1041 }

/-- the primitive char -/
def k27 : Class := { plain "char" none with kind := .primitive 'C', accessFlags := 0x411 }
/-- [C -/
def k28 : Class := { plain "[C" (some 0) with kind := .array 27 .char, interfaces := #[16, 2], accessFlags := 1041 }

/-- the primitive int -/
def k29 : Class := { plain "int" none with kind := .primitive 'I', accessFlags := 0x411 }
/-- [I -/
def k30 : Class := { plain "[I" (some 0) with kind := .array 29 .int, interfaces := #[16, 2], accessFlags := 1041 }

/-- [Ljava/lang/Object; -/
def k31 : Class := { plain "[Ljava/lang/Object;" (some 0) with kind := .array 0 (.object "java/lang/Object"), interfaces := #[16, 2], accessFlags := 1041 }

def heap : Heap := #[{ cls := 7, slots := #[.long 0, .int 1, .null, .int 0, .null, .int 0, .int 0], vm := .statics 7 },
  { cls := 17, slots := #[.long 0, .int 0, .ref 3, .ref 4], vm := .statics 17 },
  { cls := 22, slots := #[.null, .null, .null], vm := .statics 22 },
  { cls := 31, slots := #[], vm := .none },
  { cls := 31, slots := #[], vm := .none }]
def classes : Array Class := #[k0, k1, k2, k3, k4, k5, k6, k7, k8, k9, k10, k11, k12, k13, k14, k15, k16, k17, k18, k19, k20, k21, k22, k23, k24, k25, k26, k27, k28, k29, k30, k31]
def interned : List (Array UInt16 × Addr) := []
def slotsUsed : Nat := 14
def theMethod : MethodId := ⟨1, 2⟩
def args0 : Array Value := #[.int 5, .int 6, .int 7, .int 8]
def aboutOver (below : List Frame) : State where
  vm := { classes := classes, interned := interned.toArray }
  heap := heap
  slotsUsed := slotsUsed
  threads := #[{ frames := .invoking theMethod args0 :: below }]
def below0 : List Frame := [.native { method := ⟨0, 0⟩, args := #[] }]
def about1 : State := aboutOver below0
def p0 : Program := .bare "" "" ""
def e0 : Env := launch0.env 0 0 0
theorem w_frames : about1.frames = Frame.invoking theMethod args0 :: below0 := rfl
set_option maxRecDepth 65536 in
theorem w_args : argsFit about1.vm theMethod args0 = true := by decide +kernel
set_option maxRecDepth 65536 in
theorem w_heap : heapFits about1 = true := by decide +kernel
set_option maxRecDepth 65536 in
theorem w_runnable : about1.curStatus? = some .runnable := by decide +kernel
set_option maxRecDepth 65536 in
theorem w_alone : about1.alone = true := by decide +kernel
set_option maxRecDepth 65536 in
theorem w_named : about1.methodNamed? x = some theMethod := by decide +kernel
set_option maxRecDepth 65536 in
theorem w_hears : about1.hears theMethod below0 = true := by decide +kernel
set_option maxRecDepth 65536 in
theorem w_ripe : about1.ripe theMethod args0 below0 = true := by decide +kernel
theorem w_running : about1.status = .running := rfl
set_option maxRecDepth 65536 in
theorem w_room : about1.hasRoom e0.platform room_1 = true :=
  launch0.hasRoom_least _ room_1 (by decide +kernel) (by decide +kernel) (by decide +kernel) (by decide +kernel) (by decide +kernel) (by decide +kernel)
theorem allAtoms_all (ts : List Jvm.Cond) (a : Array Jvm.Value) (st : Jvm.State) : (allAtoms ts).before a st = ts.all (fun c => c.before a st) := by
  induction ts with
  | nil => rfl
  | cons c t ih =>
    show (Jvm.Cond.and c (allAtoms t)).before a st = _
    rw [Jvm.Cond.before_and, ih, List.all_cons]
def words1 : List Jvm.Cond := Jvm.Cond.code x code maxLocals ret :: tables_1
/-- a 'code' word, met by the world's own term for the bytes: nothing is compared byte by byte -/
theorem code_word {y : MethodName} {bytes : ByteArray} {mx : Nat} {rt : Option FieldType} {a : Array Value} {s : State} {m : MethodId} {meth : Method} {c : Code} (h1 : s.methodNamed? y = some m) (h2 : s.vm.method? m = some meth) (h3 : meth.code = some c) (h4 : c.code = bytes)
    (h5 : (c.maxLocals == mx && c.exceptionTable.isEmpty && decide (c.maxStack ≤ mostOperands) && decide (meth.sig.returnType = rt) && !meth.locks && decide (parseMethodDescriptor y.desc = some meth.sig)) = true) : (Jvm.Cond.code y bytes mx rt).before a s = true := by
  simp only [Bool.and_eq_true, beq_iff_eq, Bool.not_eq_true', decide_eq_true_eq] at h5
  obtain ⟨⟨⟨⟨⟨g1, g2⟩, g3⟩, g4⟩, g5⟩, g6⟩ := h5
  simp [Cond.before, Cond.holds, Cond.value, h1, h2, h3, h4, g1, g2, g3, g4, g5, g6]
def isCode : Jvm.Cond → Bool
  | .code _ _ _ _ => true
  | _ => false
theorem all_split {L : List Jvm.Cond} {P : Jvm.Cond → Bool} (h1 : L.all (fun c => isCode c || P c) = true) (h2 : ∀ c ∈ L.filter isCode, P c = true) : L.all P = true := by
  refine List.all_eq_true.mpr fun c hc => ?_
  have h := List.all_eq_true.mp h1 c hc
  rcases Bool.eq_false_or_eq_true (isCode c) with hi | hi
  · exact h2 c (List.mem_filter.mpr ⟨hc, hi⟩)
  · simpa [hi] using h
set_option maxRecDepth 65536 in
theorem w_c0 : (Jvm.Cond.code x code maxLocals ret).before args0 about1 = true := code_word (m := ⟨1, 2⟩) (meth := k1m2) (c := k1c2) (by decide +kernel) rfl rfl rfl (by decide +kernel)
set_option maxRecDepth 65536 in
theorem w_c1 : (Jvm.Cond.code ({ cls := "com/example/tethercall/tethercall/JsonPointerLastPinLaw", name := "tok", desc := "(I)Ljava/lang/String;" } : Jvm.MethodName) method_2_code (4 : Nat) (Option.some (Jvm.ClassFile.FieldType.object "java/lang/String"))).before args0 about1 = true := code_word (m := ⟨1, 1⟩) (meth := k1m1) (c := k1c1) (by decide +kernel) rfl rfl rfl (by decide +kernel)
set_option maxRecDepth 65536 in
theorem w_c2 : (Jvm.Cond.code ({ cls := "java/lang/String", name := "<init>", desc := "([C)V" } : Jvm.MethodName) jdk_42_method_3_code (2 : Nat) (Option.none : Option Jvm.ClassFile.FieldType)).before args0 about1 = true := code_word (m := ⟨7, 1⟩) (meth := k7m1) (c := k7c1) (by decide +kernel) rfl rfl rfl (by decide +kernel)
set_option maxRecDepth 65536 in
theorem w_c3 : (Jvm.Cond.code ({ cls := "java/lang/String", name := "<init>", desc := "([CIILjava/lang/Void;)V" } : Jvm.MethodName) jdk_42_method_149_code (6 : Nat) (Option.none : Option Jvm.ClassFile.FieldType)).before args0 about1 = true := code_word (m := ⟨7, 2⟩) (meth := k7m2) (c := k7c2) (by decide +kernel) rfl rfl rfl (by decide +kernel)
set_option maxRecDepth 65536 in
theorem w_c4 : (Jvm.Cond.code ({ cls := "java/lang/Object", name := "<init>", desc := "()V" } : Jvm.MethodName) object_method_1_code (1 : Nat) (Option.none : Option Jvm.ClassFile.FieldType)).before args0 about1 = true := code_word (m := ⟨0, 0⟩) (meth := k0m0) (c := k0c0) (by decide +kernel) rfl rfl rfl (by decide +kernel)
set_option maxRecDepth 65536 in
theorem w_c5 : (Jvm.Cond.code ({ cls := "java/lang/StringUTF16", name := "compress", desc := "([CII)[B" } : Jvm.MethodName) jdk_52_method_16_code (6 : Nat) (Option.some (Jvm.ClassFile.FieldType.array Jvm.ClassFile.FieldType.byte))).before args0 about1 = true := code_word (m := ⟨8, 2⟩) (meth := k8m2) (c := k8c2) (by decide +kernel) rfl rfl rfl (by decide +kernel)
set_option maxRecDepth 65536 in
theorem w_c6 : (Jvm.Cond.code ({ cls := "java/lang/StringUTF16", name := "compress", desc := "([CI[BII)I" } : Jvm.MethodName) jdk_52_method_21_code (7 : Nat) (Option.some Jvm.ClassFile.FieldType.int)).before args0 about1 = true := code_word (m := ⟨8, 3⟩) (meth := k8m3) (c := k8c3) (by decide +kernel) rfl rfl rfl (by decide +kernel)
set_option maxRecDepth 65536 in
theorem w_c7 : (Jvm.Cond.code ({ cls := "java/lang/StringUTF16", name := "coderFromArrayLen", desc := "([BI)B" } : Jvm.MethodName) jdk_52_method_15_code (2 : Nat) (Option.some Jvm.ClassFile.FieldType.byte)).before args0 about1 = true := code_word (m := ⟨8, 1⟩) (meth := k8m1) (c := k8c1) (by decide +kernel) rfl rfl rfl (by decide +kernel)
set_option maxRecDepth 65536 in
theorem w_c8 : (Jvm.Cond.code ({ cls := "java/util/ArrayList", name := "<init>", desc := "()V" } : Jvm.MethodName) jdk_38_method_2_code (1 : Nat) (Option.none : Option Jvm.ClassFile.FieldType)).before args0 about1 = true := code_word (m := ⟨17, 0⟩) (meth := k17m0) (c := k17c0) (by decide +kernel) rfl rfl rfl (by decide +kernel)
set_option maxRecDepth 65536 in
theorem w_c9 : (Jvm.Cond.code ({ cls := "java/util/AbstractList", name := "<init>", desc := "()V" } : Jvm.MethodName) jdk_39_method_1_code (1 : Nat) (Option.none : Option Jvm.ClassFile.FieldType)).before args0 about1 = true := code_word (m := ⟨14, 0⟩) (meth := k14m0) (c := k14c0) (by decide +kernel) rfl rfl rfl (by decide +kernel)
set_option maxRecDepth 65536 in
theorem w_c10 : (Jvm.Cond.code ({ cls := "java/util/AbstractCollection", name := "<init>", desc := "()V" } : Jvm.MethodName) jdk_22_method_1_code (1 : Nat) (Option.none : Option Jvm.ClassFile.FieldType)).before args0 about1 = true := code_word (m := ⟨11, 0⟩) (meth := k11m0) (c := k11c0) (by decide +kernel) rfl rfl rfl (by decide +kernel)
set_option maxRecDepth 65536 in
theorem w_c11 : (Jvm.Cond.code ({ cls := "java/util/ArrayList", name := "add", desc := "(Ljava/lang/Object;)Z" } : Jvm.MethodName) jdk_38_method_25_code (2 : Nat) (Option.some Jvm.ClassFile.FieldType.boolean)).before args0 about1 = true := code_word (m := ⟨17, 7⟩) (meth := k17m7) (c := k17c7) (by decide +kernel) rfl rfl rfl (by decide +kernel)
set_option maxRecDepth 65536 in
theorem w_c12 : (Jvm.Cond.code ({ cls := "java/util/ArrayList", name := "add", desc := "(Ljava/lang/Object;[Ljava/lang/Object;I)V" } : Jvm.MethodName) jdk_38_method_24_code (4 : Nat) (Option.none : Option Jvm.ClassFile.FieldType)).before args0 about1 = true := code_word (m := ⟨17, 6⟩) (meth := k17m6) (c := k17c6) (by decide +kernel) rfl rfl rfl (by decide +kernel)
set_option maxRecDepth 65536 in
theorem w_c13 : (Jvm.Cond.code ({ cls := "java/util/ArrayList", name := "grow", desc := "()[Ljava/lang/Object;" } : Jvm.MethodName) jdk_38_method_7_code (1 : Nat) (Option.some (Jvm.ClassFile.FieldType.array (Jvm.ClassFile.FieldType.object "java/lang/Object")))).before args0 about1 = true := code_word (m := ⟨17, 2⟩) (meth := k17m2) (c := k17c2) (by decide +kernel) rfl rfl rfl (by decide +kernel)
set_option maxRecDepth 65536 in
theorem w_c14 : (Jvm.Cond.code ({ cls := "java/util/ArrayList", name := "grow", desc := "(I)[Ljava/lang/Object;" } : Jvm.MethodName) jdk_38_method_6_code (4 : Nat) (Option.some (Jvm.ClassFile.FieldType.array (Jvm.ClassFile.FieldType.object "java/lang/Object")))).before args0 about1 = true := code_word (m := ⟨17, 1⟩) (meth := k17m1) (c := k17c1) (by decide +kernel) rfl rfl rfl (by decide +kernel)
set_option maxRecDepth 65536 in
theorem w_c15 : (Jvm.Cond.code ({ cls := "java/lang/Math", name := "max", desc := "(II)I" } : Jvm.MethodName) jdk_29_method_65_code (2 : Nat) (Option.some Jvm.ClassFile.FieldType.int)).before args0 about1 = true := code_word (m := ⟨18, 1⟩) (meth := k18m1) (c := k18c1) (by decide +kernel) rfl rfl rfl (by decide +kernel)
set_option maxRecDepth 65536 in
theorem w_c16 : (Jvm.Cond.code ({ cls := "com/example/tethercall/tethercall/JsonPointer", name := "<init>", desc := "(Ljava/lang/String;Ljava/util/List;)V" } : Jvm.MethodName) prog_9_method_1_code (3 : Nat) (Option.none : Option Jvm.ClassFile.FieldType)).before args0 about1 = true := code_word (m := ⟨20, 0⟩) (meth := k20m0) (c := k20c0) (by decide +kernel) rfl rfl rfl (by decide +kernel)
set_option maxRecDepth 65536 in
theorem w_c17 : (Jvm.Cond.code ({ cls := "java/lang/Record", name := "<init>", desc := "()V" } : Jvm.MethodName) jdk_30_method_1_code (1 : Nat) (Option.none : Option Jvm.ClassFile.FieldType)).before args0 about1 = true := code_word (m := ⟨19, 0⟩) (meth := k19m0) (c := k19c0) (by decide +kernel) rfl rfl rfl (by decide +kernel)
set_option maxRecDepth 65536 in
theorem w_c18 : (Jvm.Cond.code ({ cls := "com/example/tethercall/tethercall/JsonPointer", name := "last", desc := "()Ljava/lang/String;" } : Jvm.MethodName) prog_9_method_7_code (1 : Nat) (Option.some (Jvm.ClassFile.FieldType.object "java/lang/String"))).before args0 about1 = true := code_word (m := ⟨20, 1⟩) (meth := k20m1) (c := k20c1) (by decide +kernel) rfl rfl rfl (by decide +kernel)
set_option maxRecDepth 65536 in
theorem w_c19 : (Jvm.Cond.code ({ cls := "java/util/ArrayList", name := "size", desc := "()I" } : Jvm.MethodName) jdk_38_method_8_code (1 : Nat) (Option.some Jvm.ClassFile.FieldType.int)).before args0 about1 = true := code_word (m := ⟨17, 3⟩) (meth := k17m3) (c := k17c3) (by decide +kernel) rfl rfl rfl (by decide +kernel)
set_option maxRecDepth 65536 in
theorem w_c20 : (Jvm.Cond.code ({ cls := "java/util/ArrayList", name := "get", desc := "(I)Ljava/lang/Object;" } : Jvm.MethodName) jdk_38_method_20_code (2 : Nat) (Option.some (Jvm.ClassFile.FieldType.object "java/lang/Object"))).before args0 about1 = true := code_word (m := ⟨17, 5⟩) (meth := k17m5) (c := k17c5) (by decide +kernel) rfl rfl rfl (by decide +kernel)
set_option maxRecDepth 65536 in
theorem w_c21 : (Jvm.Cond.code ({ cls := "java/util/Objects", name := "checkIndex", desc := "(II)I" } : Jvm.MethodName) jdk_31_method_17_code (2 : Nat) (Option.some Jvm.ClassFile.FieldType.int)).before args0 about1 = true := code_word (m := ⟨21, 1⟩) (meth := k21m1) (c := k21c1) (by decide +kernel) rfl rfl rfl (by decide +kernel)
set_option maxRecDepth 65536 in
theorem w_c22 : (Jvm.Cond.code ({ cls := "jdk/internal/util/Preconditions", name := "checkIndex", desc := "(IILjava/util/function/BiFunction;)I" } : Jvm.MethodName) jdk_41_method_11_code (3 : Nat) (Option.some Jvm.ClassFile.FieldType.int)).before args0 about1 = true := code_word (m := ⟨22, 1⟩) (meth := k22m1) (c := k22c1) (by decide +kernel) rfl rfl rfl (by decide +kernel)
set_option maxRecDepth 65536 in
theorem w_c23 : (Jvm.Cond.code ({ cls := "java/util/ArrayList", name := "elementData", desc := "(I)Ljava/lang/Object;" } : Jvm.MethodName) jdk_38_method_18_code (2 : Nat) (Option.some (Jvm.ClassFile.FieldType.object "java/lang/Object"))).before args0 about1 = true := code_word (m := ⟨17, 4⟩) (meth := k17m4) (c := k17c4) (by decide +kernel) rfl rfl rfl (by decide +kernel)
set_option maxRecDepth 65536 in
theorem w_c24 : (Jvm.Cond.code ({ cls := "com/example/tethercall/tethercall/JsonPointer", name := "tokens", desc := "()Ljava/util/List;" } : Jvm.MethodName) prog_9_method_13_code (1 : Nat) (Option.some (Jvm.ClassFile.FieldType.object "java/util/List"))).before args0 about1 = true := code_word (m := ⟨20, 2⟩) (meth := k20m2) (c := k20c2) (by decide +kernel) rfl rfl rfl (by decide +kernel)
def codes1 : List Jvm.Cond := [Jvm.Cond.code x code maxLocals ret, Jvm.Cond.code ({ cls := "com/example/tethercall/tethercall/JsonPointerLastPinLaw", name := "tok", desc := "(I)Ljava/lang/String;" } : Jvm.MethodName) method_2_code (4 : Nat) (Option.some (Jvm.ClassFile.FieldType.object "java/lang/String")), Jvm.Cond.code ({ cls := "java/lang/String", name := "<init>", desc := "([C)V" } : Jvm.MethodName) jdk_42_method_3_code (2 : Nat) (Option.none : Option Jvm.ClassFile.FieldType), Jvm.Cond.code ({ cls := "java/lang/String", name := "<init>", desc := "([CIILjava/lang/Void;)V" } : Jvm.MethodName) jdk_42_method_149_code (6 : Nat) (Option.none : Option Jvm.ClassFile.FieldType), Jvm.Cond.code ({ cls := "java/lang/Object", name := "<init>", desc := "()V" } : Jvm.MethodName) object_method_1_code (1 : Nat) (Option.none : Option Jvm.ClassFile.FieldType), Jvm.Cond.code ({ cls := "java/lang/StringUTF16", name := "compress", desc := "([CII)[B" } : Jvm.MethodName) jdk_52_method_16_code (6 : Nat) (Option.some (Jvm.ClassFile.FieldType.array Jvm.ClassFile.FieldType.byte)), Jvm.Cond.code ({ cls := "java/lang/StringUTF16", name := "compress", desc := "([CI[BII)I" } : Jvm.MethodName) jdk_52_method_21_code (7 : Nat) (Option.some Jvm.ClassFile.FieldType.int), Jvm.Cond.code ({ cls := "java/lang/StringUTF16", name := "coderFromArrayLen", desc := "([BI)B" } : Jvm.MethodName) jdk_52_method_15_code (2 : Nat) (Option.some Jvm.ClassFile.FieldType.byte), Jvm.Cond.code ({ cls := "java/util/ArrayList", name := "<init>", desc := "()V" } : Jvm.MethodName) jdk_38_method_2_code (1 : Nat) (Option.none : Option Jvm.ClassFile.FieldType), Jvm.Cond.code ({ cls := "java/util/AbstractList", name := "<init>", desc := "()V" } : Jvm.MethodName) jdk_39_method_1_code (1 : Nat) (Option.none : Option Jvm.ClassFile.FieldType), Jvm.Cond.code ({ cls := "java/util/AbstractCollection", name := "<init>", desc := "()V" } : Jvm.MethodName) jdk_22_method_1_code (1 : Nat) (Option.none : Option Jvm.ClassFile.FieldType), Jvm.Cond.code ({ cls := "java/util/ArrayList", name := "add", desc := "(Ljava/lang/Object;)Z" } : Jvm.MethodName) jdk_38_method_25_code (2 : Nat) (Option.some Jvm.ClassFile.FieldType.boolean), Jvm.Cond.code ({ cls := "java/util/ArrayList", name := "add", desc := "(Ljava/lang/Object;[Ljava/lang/Object;I)V" } : Jvm.MethodName) jdk_38_method_24_code (4 : Nat) (Option.none : Option Jvm.ClassFile.FieldType), Jvm.Cond.code ({ cls := "java/util/ArrayList", name := "grow", desc := "()[Ljava/lang/Object;" } : Jvm.MethodName) jdk_38_method_7_code (1 : Nat) (Option.some (Jvm.ClassFile.FieldType.array (Jvm.ClassFile.FieldType.object "java/lang/Object"))), Jvm.Cond.code ({ cls := "java/util/ArrayList", name := "grow", desc := "(I)[Ljava/lang/Object;" } : Jvm.MethodName) jdk_38_method_6_code (4 : Nat) (Option.some (Jvm.ClassFile.FieldType.array (Jvm.ClassFile.FieldType.object "java/lang/Object"))), Jvm.Cond.code ({ cls := "java/lang/Math", name := "max", desc := "(II)I" } : Jvm.MethodName) jdk_29_method_65_code (2 : Nat) (Option.some Jvm.ClassFile.FieldType.int), Jvm.Cond.code ({ cls := "com/example/tethercall/tethercall/JsonPointer", name := "<init>", desc := "(Ljava/lang/String;Ljava/util/List;)V" } : Jvm.MethodName) prog_9_method_1_code (3 : Nat) (Option.none : Option Jvm.ClassFile.FieldType), Jvm.Cond.code ({ cls := "java/lang/Record", name := "<init>", desc := "()V" } : Jvm.MethodName) jdk_30_method_1_code (1 : Nat) (Option.none : Option Jvm.ClassFile.FieldType), Jvm.Cond.code ({ cls := "com/example/tethercall/tethercall/JsonPointer", name := "last", desc := "()Ljava/lang/String;" } : Jvm.MethodName) prog_9_method_7_code (1 : Nat) (Option.some (Jvm.ClassFile.FieldType.object "java/lang/String")), Jvm.Cond.code ({ cls := "java/util/ArrayList", name := "size", desc := "()I" } : Jvm.MethodName) jdk_38_method_8_code (1 : Nat) (Option.some Jvm.ClassFile.FieldType.int), Jvm.Cond.code ({ cls := "java/util/ArrayList", name := "get", desc := "(I)Ljava/lang/Object;" } : Jvm.MethodName) jdk_38_method_20_code (2 : Nat) (Option.some (Jvm.ClassFile.FieldType.object "java/lang/Object")), Jvm.Cond.code ({ cls := "java/util/Objects", name := "checkIndex", desc := "(II)I" } : Jvm.MethodName) jdk_31_method_17_code (2 : Nat) (Option.some Jvm.ClassFile.FieldType.int), Jvm.Cond.code ({ cls := "jdk/internal/util/Preconditions", name := "checkIndex", desc := "(IILjava/util/function/BiFunction;)I" } : Jvm.MethodName) jdk_41_method_11_code (3 : Nat) (Option.some Jvm.ClassFile.FieldType.int), Jvm.Cond.code ({ cls := "java/util/ArrayList", name := "elementData", desc := "(I)Ljava/lang/Object;" } : Jvm.MethodName) jdk_38_method_18_code (2 : Nat) (Option.some (Jvm.ClassFile.FieldType.object "java/lang/Object")), Jvm.Cond.code ({ cls := "com/example/tethercall/tethercall/JsonPointer", name := "tokens", desc := "()Ljava/util/List;" } : Jvm.MethodName) prog_9_method_13_code (1 : Nat) (Option.some (Jvm.ClassFile.FieldType.object "java/util/List"))]
set_option maxRecDepth 65536 in
theorem codes_eq : words1.filter isCode = codes1 := rfl
theorem w_codes : ∀ c ∈ words1.filter isCode, c.before args0 about1 = true := by
  rw [codes_eq]
  intro c hc
  simp only [codes1, List.mem_cons, List.not_mem_nil, or_false] at hc
  rcases hc with rfl | rfl | rfl | rfl | rfl | rfl | rfl | rfl | rfl | rfl | rfl | rfl | rfl | rfl | rfl | rfl | rfl | rfl | rfl | rfl | rfl | rfl | rfl | rfl | rfl
  · exact w_c0
  · exact w_c1
  · exact w_c2
  · exact w_c3
  · exact w_c4
  · exact w_c5
  · exact w_c6
  · exact w_c7
  · exact w_c8
  · exact w_c9
  · exact w_c10
  · exact w_c11
  · exact w_c12
  · exact w_c13
  · exact w_c14
  · exact w_c15
  · exact w_c16
  · exact w_c17
  · exact w_c18
  · exact w_c19
  · exact w_c20
  · exact w_c21
  · exact w_c22
  · exact w_c23
  · exact w_c24
set_option maxRecDepth 65536 in
theorem w_t1 : (words1.take 24).all (fun c => isCode c || c.before args0 about1) = true := by decide +kernel
set_option maxRecDepth 65536 in
theorem w_t2 : ((words1.drop 24).take 24).all (fun c => isCode c || c.before args0 about1) = true := by decide +kernel
set_option maxRecDepth 65536 in
theorem w_t3 : (((words1.drop 24).drop 24).take 24).all (fun c => isCode c || c.before args0 about1) = true := by decide +kernel
set_option maxRecDepth 65536 in
theorem w_t4 : ((((words1.drop 24).drop 24).drop 24).take 24).all (fun c => isCode c || c.before args0 about1) = true := by decide +kernel
set_option maxRecDepth 65536 in
theorem w_t5 : (((((words1.drop 24).drop 24).drop 24).drop 24).take 24).all (fun c => isCode c || c.before args0 about1) = true := by decide +kernel
set_option maxRecDepth 65536 in
theorem w_t6 : ((((((words1.drop 24).drop 24).drop 24).drop 24).drop 24).take 24).all (fun c => isCode c || c.before args0 about1) = true := by decide +kernel
set_option maxRecDepth 65536 in
theorem w_t7 : ((((((words1.drop 24).drop 24).drop 24).drop 24).drop 24).drop 24).all (fun c => isCode c || c.before args0 about1) = true := by decide +kernel
theorem w_tables : (allAtoms (Jvm.Cond.code x code maxLocals ret :: tables_1)).before args0 about1 = true := by
  rw [allAtoms_all]
  show words1.all (fun c => c.before args0 about1) = true
  refine all_split ?_ w_codes
  rw [← List.take_append_drop 24 words1, List.all_append, w_t1, ← List.take_append_drop 24 (words1.drop 24), List.all_append, w_t2, ← List.take_append_drop 24 ((words1.drop 24).drop 24), List.all_append, w_t3, ← List.take_append_drop 24 (((words1.drop 24).drop 24).drop 24), List.all_append, w_t4, ← List.take_append_drop 24 ((((words1.drop 24).drop 24).drop 24).drop 24), List.all_append, w_t5, ← List.take_append_drop 24 (((((words1.drop 24).drop 24).drop 24).drop 24).drop 24), List.all_append, w_t6, w_t7]
  rfl
set_option maxRecDepth 65536 in
theorem w_rest : rest_1_c.before args0 about1 = true := by decide +kernel
set_option maxRecDepth 65536 in
theorem w_case : (Jvm.Cond.and given_1 narrow_1).before args0 about1 = true := by decide +kernel
set_option maxRecDepth 65536 in
theorem w_consts : constsHeld consts_1 about1 := Jvm.Lit.constsHeldB_iff.mp (by decide +kernel)
theorem w_applies : (headSpec (Jvm.Cond.code x code maxLocals ret :: tables_1) room_1).applies x e0.platform about1 = true :=
  (Spec.applies_iff w_frames).mpr ⟨w_running, w_runnable, w_alone, w_named, w_hears, w_ripe, w_room, w_tables⟩
theorem atStart : AtStart classFile x code maxLocals ret World_1 tables_1 room_1 Calls_1 rest_1 Pre_1 launch0 p0 e0 about1 theMethod args0 below0 :=
  ⟨lists_1, trivial, launch0.admits_env _ _ _, launch0.least_env, fairChoices_fair.cas, fairChoices_fair.clock, w_frames, w_args, w_heap, w_applies, ⟨w_consts, trivial⟩, w_rest, w_case⟩
end start1
theorem witness_1 : WitnessClaimed_1 := ⟨start1.p0, start1.e0, start1.about1, start1.theMethod, start1.args0, start1.below0, start1.atStart⟩
end Jvm.Pilot.@@N@@
