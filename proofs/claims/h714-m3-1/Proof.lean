import JvmDerived
import JvmDerived.Pilot.@@N@@Statement
import JvmDerived.Pilot.@@N@@Code
set_option linter.unusedVariables false
set_option linter.unusedSimpArgs false
namespace Jvm.RoadKit
open Sem ClassFile Op Lib Jvm.Stand Jvm.Free Jvm.LawKit
theorem Arv.mv {Z : State} {h h' : Heap} {a : Addr} {k : ClassId} {ty : FieldType} {z : Int32} {vs : List Value} {dv : Value} (F : Arv Z h a k ty z vs dv) (K : Keep h h' []) : Arv Z h' a k ty z vs dv := F.keep K nin0
theorem Fld.mv {Z : State} {h h' : Heap} {a : Addr} {C n d : String} {v : Value} (F : Fld Z h a C n d v) (K : Keep h h' []) : Fld Z h' a C n d v := F.keep K nin0
theorem Exa.mv {Z : State} {h h' : Heap} {a : Addr} {C : String} (F : Exa Z h a C) (K : Keep h h' []) : Exa Z h' a C := F.keep K
theorem Ins.keepK {Z : State} {h h' : Heap} {a : Addr} {C : String} {b : Bool} {ws : List Addr} (F : Ins Z h a C b) (K : Keep h h' ws) : Ins Z h' a C b := by
  obtain ⟨cell, cT, q1, q2, q3⟩ := F
  obtain ⟨c', r1, r2, r3, -⟩ := K.2.2 _ _ q1
  exact ⟨c', cT, r1, q2, by rw [r2, r3]; exact q3⟩
end Jvm.RoadKit
/- laws to paste: Road.backV, Road.codOf, Road.lenW (cut by pick.py; bodies as the Statement names them) -/
namespace Jvm.Pilot.@@N@@
namespace StrChars
open Jvm Sem ClassFile Op Lib Jvm.Stand Jvm.Free.XT Jvm.Free.ALB Jvm.Free.JM Jvm.Free
open Jvm.Lib.Cold (StaticIs)
/-- a char array whose places are chars -/
def Ch (a : Addr) (A : Cell) (U : State) : Prop := Arr .char a A U ∧ Typed .char A
theorem Ch.mv {a : Addr} {A : Cell} {U U' : State} (h : Ch a A U) (hal : U.vm.Alike U'.vm) (hh : U'.heap = U.heap) : Ch a A U' := ⟨h.1.mv hal hh, h.2⟩
theorem Ch.keep {a : Addr} {A : Cell} {U U' : State} (h : Ch a A U) (hal : U.vm.Alike U'.vm) (hk : U'.heap[a]? = some A) : Ch a A U' := ⟨h.1.keep hal hk, h.2⟩
/-- what place i of a char[]'s cell holds -/
def cv (A : Cell) (i : Nat) : Int32 := match A.slots[i]? with | some (.int x) => x | _ => 0
theorem Ch.get {a : Addr} {A : Cell} {U : State} (h : Ch a A U) {i : Nat} (hi : i < A.slots.size) : A.slots[i]? = some (.int (cv A i)) := by
  have e := Array.getElem?_eq_getElem hi
  have f := h.2 i _ e
  unfold cv; rw [e]
  generalize A.slots[i] = v at f
  cases v <;> simp [fits] at f ⊢
/-- the byte that i2b leaves of a char -/
def lo8 (x : Int32) : Int32 := x.toInt8.toInt32
theorem fits_lo8 (y : Int32) : fits .byte (.int (lo8 y)) = true := by
  have h1 := y.toInt8.le_toInt
  have h2 := y.toInt8.toInt_lt
  simp only [lo8, fits, Bool.and_eq_true, decide_eq_true_eq, Int32.le_iff_toInt_le, Int8.toInt_toInt32, show (-128 : Int32).toInt = -128 from by decide, show (127 : Int32).toInt = 127 from by decide]
  omega
/-- A' is A but that each place j of lo .. hi - 1 holds f j -/
def Laid (A A' : Cell) (lo hi : Nat) (f : Nat → Value) : Prop := A'.cls = A.cls ∧ A'.vm = A.vm ∧ A'.slots.size = A.slots.size ∧ ∀ i, A'.slots[i]? = if lo ≤ i ∧ i < hi then some (f i) else A.slots[i]?
theorem Laid.zero (A : Cell) (lo : Nat) (f : Nat → Value) : Laid A A lo (lo + 0) f := ⟨rfl, rfl, rfl, fun i => by rw [if_neg (by omega)]⟩
theorem Laid.step {A Ak : Cell} {lo k : Nat} {f : Nat → Value} {v : Value} (h : Laid A Ak lo k f) (hlo : lo ≤ k) (hk : k < Ak.slots.size) (hv : v = f k) : Laid A (Ak.setSlot k v) lo (k + 1) f := by
  refine ⟨h.1, h.2.1, by simpa [Cell.setSlot] using h.2.2.1, fun i => ?_⟩
  by_cases e : k = i
  · subst e; rw [Cell.slots_setSlot_self v hk, if_pos (by omega), hv]
  · rw [Cell.slots_setSlot_ne v e, h.2.2.2 i]
    by_cases q : lo ≤ i ∧ i < k
    · rw [if_pos q, if_pos (by omega)]
    · rw [if_neg q, if_neg (by omega)]
def U16 : String := "java/lang/StringUTF16"
namespace Cmp5
def yN : MethodName := ⟨"java/lang/StringUTF16", "compress", "([CI[BII)I"⟩
abbrev yB : ByteArray := jdk_52_method_21_code
theorem d0 : decode yB 0 = .ok (.iconst 0, 1) := by decide +kernel
theorem d1 : decode yB 1 = .ok (.istore 5, 2) := by decide +kernel
theorem d3 : decode yB 3 = .ok (.iload 5, 2) := by decide +kernel
theorem d5 : decode yB 5 = .ok (.iload 4, 2) := by decide +kernel
theorem d7 : decode yB 7 = .ok (.if_icmp (.ge) 37, 3) := by decide +kernel
theorem d10 : decode yB 10 = .ok (.aload_n 0, 1) := by decide +kernel
theorem d11 : decode yB 11 = .ok (.iload_n 1, 1) := by decide +kernel
theorem d12 : decode yB 12 = .ok (.caload, 1) := by decide +kernel
theorem d13 : decode yB 13 = .ok (.istore 6, 2) := by decide +kernel
theorem d15 : decode yB 15 = .ok (.iload 6, 2) := by decide +kernel
theorem d17 : decode yB 17 = .ok (.sipush 255, 3) := by decide +kernel
theorem d20 : decode yB 20 = .ok (.if_icmp (.le) 6, 3) := by decide +kernel
theorem d26 : decode yB 26 = .ok (.aload_n 2, 1) := by decide +kernel
theorem d27 : decode yB 27 = .ok (.iload_n 3, 1) := by decide +kernel
theorem d28 : decode yB 28 = .ok (.iload 6, 2) := by decide +kernel
theorem d30 : decode yB 30 = .ok (.i2b, 1) := by decide +kernel
theorem d31 : decode yB 31 = .ok (.bastore, 1) := by decide +kernel
theorem d32 : decode yB 32 = .ok (.iinc 1 1, 3) := by decide +kernel
theorem d35 : decode yB 35 = .ok (.iinc 3 1, 3) := by decide +kernel
theorem d38 : decode yB 38 = .ok (.iinc 5 1, 3) := by decide +kernel
theorem d41 : decode yB 41 = .ok (.goto (-38), 3) := by decide +kernel
theorem d44 : decode yB 44 = .ok (.iload 4, 2) := by decide +kernel
theorem d46 : decode yB 46 = .ok (.ireturn, 1) := by decide +kernel
def site : List Cond := []
def tab : Cond := tabOf yN yB 7 (some .int) site
def P (b : Addr) (A : Cell) (d : Addr) (B : Cell) (o q len : Nat) (args : Array Value) (s : State) : Prop := args = #[.ref b, .int (Int32.ofNat o), .ref d, .int (Int32.ofNat q), .int (Int32.ofNat len)] ∧ Ch b A s ∧ Arr .byte d B s ∧ b ≠ d ∧ o + len ≤ A.slots.size ∧ q + len ≤ B.slots.size ∧ ∀ i, i < len → ¬ 255 < cv A (o + i)
def E (b : Addr) (A : Cell) (d : Addr) (B : Cell) (o q len : Nat) (r : Option Value) (s u : State) : Prop := r = some (.int (Int32.ofNat len)) ∧ ∃ B', Put d B' s u ∧ Laid B B' q (q + len) (fun j => Value.int (lo8 (cv A (o + (j - q)))))
/-- no char of the range above 255: len; the places written hold each char's low byte -/
theorem law (l : Launch) (b : Addr) (A : Cell) (d : Addr) (B : Cell) (o q len : Nat) : Law l yN 5 5 0 0 yB 7 (some .int) site (P b A d B o q len) (E b A d B o q len) (copyLocs d q len) 0 0 := by
  refine Law.of_walk (plainFor_of_name (by decide +kernel)) (by decide +kernel) (by decide +kernel) (by decide) (fun _ _ h => by rw [h.1]; rfl) (fun _ U U' hal hh h => ⟨h.1, h.2.1.mv hal hh, h.2.2.1.mv hal hh, h.2.2.2⟩) (fun r U U' V V' h1 hal h2 h => ⟨h.1, h.2.elim fun B' q => ⟨B', q.1.mv h1 h2, q.2⟩⟩) ?_
  intro p e s m args below meth c s₁ X0 hexec hbytes hml hret hlk hnm hown hh0 W hP
  obtain ⟨rfl, hA, hB, hne, l1, l2, hp⟩ := hP
  have c1 : Steps p.tables e below (s₁.setTop (entryFrame m #[.ref b, .int (Int32.ofNat o), .ref d, .int (Int32.ofNat q), .int (Int32.ofNat len)] 7)) (s₁.setTop (mkF m 0 #[.val (.ref b), .val (.int (Int32.ofNat o)), .val (.ref d), .val (.int (Int32.ofNat q)), .val (.int (Int32.ofNat len)), .unset, .unset] [])) := entry rfl
  have hA0 := hA.1.mv X0.warmed.alike hh0
  have hB0 := hB.mv X0.warmed.alike hh0
  have a31 := hA.1.2.2.2
  have c2 : Steps p.tables e below (s₁.setTop (entryFrame m #[.ref b, .int (Int32.ofNat o), .ref d, .int (Int32.ofNat q), .int (Int32.ofNat len)] 7)) (s₁.setTop (mkF m 3 #[.val (.ref b), .val (.int (Int32.ofNat o)), .val (.ref d), .val (.int (Int32.ofNat q)), .val (.int (Int32.ofNat len)), .val (.int 0), .unset] [])) := c1.trans (by
    refine iconstV X0.here hexec rfl 0 (hb hbytes d0) (by decide) ?_
    refine XS.istore X0.here hexec rfl (hb hbytes d1) rfl rfl ?_
    exact Steps.refl _)
  have loop : ∀ (r i : Nat), i + r = len → ∀ (z : Slot), (z = .unset ∨ ∃ w, z = .val w ∧ w.category = 1) → ∀ (Tl : State) (Bk : Cell), Stand p l e { frames := 0, locals := 0, cells := 0, slots := 0 } s m #[.ref b, .int (Int32.ofNat o), .ref d, .int (Int32.ofNat q), .int (Int32.ofNat len)] below meth c Tl ([] ++ copyLocs d q i) 0 0 → Put d Bk s₁ Tl → Laid B Bk q (q + i) (fun j => Value.int (lo8 (cv A (o + (j - q))))) →
      Steps p.tables e below (s₁.setTop (entryFrame m #[.ref b, .int (Int32.ofNat o), .ref d, .int (Int32.ofNat q), .int (Int32.ofNat len)] 7)) (Tl.setTop (mkF m 3 #[.val (.ref b), .val (.int (Int32.ofNat (o + i))), .val (.ref d), .val (.int (Int32.ofNat (q + i))), .val (.int (Int32.ofNat len)), .val (.int (Int32.ofNat i)), z] [])) → ∃ (T' : State) (B' : Cell) (z' : Slot), Stand p l e { frames := 0, locals := 0, cells := 0, slots := 0 } s m #[.ref b, .int (Int32.ofNat o), .ref d, .int (Int32.ofNat q), .int (Int32.ofNat len)] below meth c T' ([] ++ copyLocs d q len) 0 0 ∧ Put d B' s₁ T' ∧ Laid B B' q (q + len) (fun j => Value.int (lo8 (cv A (o + (j - q))))) ∧
      Steps p.tables e below (s₁.setTop (entryFrame m #[.ref b, .int (Int32.ofNat o), .ref d, .int (Int32.ofNat q), .int (Int32.ofNat len)] 7)) (T'.setTop (mkF m 3 #[.val (.ref b), .val (.int (Int32.ofNat (o + len))), .val (.ref d), .val (.int (Int32.ofNat (q + len))), .val (.int (Int32.ofNat len)), .val (.int (Int32.ofNat len)), z'] [])) := by
    intro r
    induction r with
    | zero =>
      intro i hi z hz Tl Bk Xl pl fl cl
      have hil : i = len := by omega
      rw [hil] at Xl fl cl
      exact ⟨Tl, Bk, z, Xl, pl, fl, cl⟩
    | succ r ih =>
      intro i hi z hz Tl Bk Xl pl fl cl
      have all := X0.warmed.alike.symm.trans Xl.warmed.alike
      have hAl := hA0.keep all (pl.other hne hA0.1)
      have hBk := hB0.like all pl.1 fl.1 fl.2.1 fl.2.2.1
      have hlt : q + i < Bk.slots.size := by rw [fl.2.2.1]; omega
      have c3 : Steps p.tables e below (s₁.setTop (entryFrame m #[.ref b, .int (Int32.ofNat o), .ref d, .int (Int32.ofNat q), .int (Int32.ofNat len)] 7)) (Tl.setTop (mkF m 12 #[.val (.ref b), .val (.int (Int32.ofNat (o + i))), .val (.ref d), .val (.int (Int32.ofNat (q + i))), .val (.int (Int32.ofNat len)), .val (.int (Int32.ofNat i)), z] [.int (Int32.ofNat (o + i)), .ref b])) := cl.trans (by
        refine XS.iload Xl.here hexec rfl (hb hbytes d3) rfl ?_
        refine XS.iload Xl.here hexec rfl (hb hbytes d5) rfl ?_
        refine XS.icmpNo Xl.here hexec rfl (hb hbytes d7) rfl (ii_ge_f (lt32 (by omega) (by omega))) ?_
        refine XS.aloadN Xl.here hexec rfl (hb hbytes d10) rfl rfl ?_
        refine XS.iloadN Xl.here hexec rfl (hb hbytes d11) rfl ?_
        exact Steps.refl _)
      have c4 : Steps p.tables e below (s₁.setTop (entryFrame m #[.ref b, .int (Int32.ofNat o), .ref d, .int (Int32.ofNat q), .int (Int32.ofNat len)] 7)) (Tl.setTop (mkF m 13 #[.val (.ref b), .val (.int (Int32.ofNat (o + i))), .val (.ref d), .val (.int (Int32.ofNat (q + i))), .val (.int (Int32.ofNat len)), .val (.int (Int32.ofNat i)), z] [.int (cv A (o + i))])) := c3.trans (by
        refine Xl.aget hexec hAl rfl (hA.get (i := o + i) (by omega)) rfl rfl (hb hbytes d12) ?_
        exact Steps.refl _)
      have c5 : Steps p.tables e below (s₁.setTop (entryFrame m #[.ref b, .int (Int32.ofNat o), .ref d, .int (Int32.ofNat q), .int (Int32.ofNat len)] 7)) (Tl.setTop (mkF m 15 #[.val (.ref b), .val (.int (Int32.ofNat (o + i))), .val (.ref d), .val (.int (Int32.ofNat (q + i))), .val (.int (Int32.ofNat len)), .val (.int (Int32.ofNat i)), .val (.int (cv A (o + i)))] [])) := c4.trans (by
        refine XS.istoreS Xl.here hexec rfl (hb hbytes d13) rfl rfl hz ?_
        exact Steps.refl _)
      have c6 : Steps p.tables e below (s₁.setTop (entryFrame m #[.ref b, .int (Int32.ofNat o), .ref d, .int (Int32.ofNat q), .int (Int32.ofNat len)] 7)) (Tl.setTop (mkF m 31 #[.val (.ref b), .val (.int (Int32.ofNat (o + i))), .val (.ref d), .val (.int (Int32.ofNat (q + i))), .val (.int (Int32.ofNat len)), .val (.int (Int32.ofNat i)), .val (.int (cv A (o + i)))] [.int (lo8 (cv A (o + i))), .int (Int32.ofNat (q + i)), .ref d])) := c5.trans (by
        refine XS.iload Xl.here hexec rfl (hb hbytes d15) rfl ?_
        refine sipushV Xl.here hexec rfl 255 (hb hbytes d17) (by decide) ?_
        refine XS.icmpYes Xl.here hexec rfl (pc0 := 20) rfl (hb hbytes d20) rfl (ii_le_t (hp i (by omega))) (by decide) rfl ?_
        refine XS.aloadN Xl.here hexec rfl (hb hbytes d26) rfl rfl ?_
        refine XS.iloadN Xl.here hexec rfl (hb hbytes d27) rfl ?_
        refine XS.iload Xl.here hexec rfl (hb hbytes d28) rfl ?_
        refine i2b Xl.here hexec rfl (hb hbytes d30) rfl ?_
        exact Steps.refl _)
      obtain ⟨T7, X7, p7, st7⟩ := Xl.aput hexec hBk rfl hlt rfl (fits_lo8 (cv A (o + i))) (g := (mkF m 31 #[.val (.ref b), .val (.int (Int32.ofNat (o + i))), .val (.ref d), .val (.int (Int32.ofNat (q + i))), .val (.int (Int32.ofNat len)), .val (.int (Int32.ofNat i)), .val (.int (cv A (o + i)))] [.int (lo8 (cv A (o + i))), .int (Int32.ofNat (q + i)), .ref d])) rfl (rest := []) rfl (hb hbytes d31)
      have c8 : Steps p.tables e below (s₁.setTop (entryFrame m #[.ref b, .int (Int32.ofNat o), .ref d, .int (Int32.ofNat q), .int (Int32.ofNat len)] 7)) (T7.setTop (mkF m 32 #[.val (.ref b), .val (.int (Int32.ofNat (o + i))), .val (.ref d), .val (.int (Int32.ofNat (q + i))), .val (.int (Int32.ofNat len)), .val (.int (Int32.ofNat i)), .val (.int (cv A (o + i)))] [])) := c6.trans (st7 _ (Steps.refl _))
      have c9 : Steps p.tables e below (s₁.setTop (entryFrame m #[.ref b, .int (Int32.ofNat o), .ref d, .int (Int32.ofNat q), .int (Int32.ofNat len)] 7)) (T7.setTop (mkF m 3 #[.val (.ref b), .val (.int (Int32.ofNat (o + i) + 1)), .val (.ref d), .val (.int (Int32.ofNat (q + i) + 1)), .val (.int (Int32.ofNat len)), .val (.int (Int32.ofNat i + 1)), .val (.int (cv A (o + i)))] [])) := c8.trans (by
        refine iincV X7.here hexec rfl 1 (hb hbytes d32) (by decide) rfl rfl ?_
        refine iincV X7.here hexec rfl 1 (hb hbytes d35) (by decide) rfl rfl ?_
        refine iincV X7.here hexec rfl 1 (hb hbytes d38) (by decide) rfl rfl ?_
        refine XS.goto X7.here hexec rfl (pc0 := 41) rfl (hb hbytes d41) (by decide) rfl ?_
        exact Steps.refl _)
      have c10 : Steps p.tables e below (s₁.setTop (entryFrame m #[.ref b, .int (Int32.ofNat o), .ref d, .int (Int32.ofNat q), .int (Int32.ofNat len)] 7)) (T7.setTop (mkF m 3 #[.val (.ref b), .val (.int (Int32.ofNat (o + (i + 1)))), .val (.ref d), .val (.int (Int32.ofNat (q + (i + 1)))), .val (.int (Int32.ofNat len)), .val (.int (Int32.ofNat (i + 1))), .val (.int (cv A (o + i)))] [])) := by
        have := c9
        rw [succ32, succ32, succ32] at this
        exact this
      exact ih (i + 1) (by omega) _ (Or.inr ⟨_, rfl, rfl⟩) T7 _ (by rw [copyLocs_step, ← List.append_assoc]; exact X7) (pl.trans p7) (fl.step (by omega) hlt (by simp)) c10
  obtain ⟨T9, B9, z9, X9, p9, f9, g9⟩ := loop len 0 (by omega) .unset (Or.inl rfl) s₁ B (by simpa [copyLocs] using X0) ⟨hB0.1, fun _ _ => rfl, rfl⟩ (Laid.zero _ _ _) c2
  have c11 : Steps p.tables e below (s₁.setTop (entryFrame m #[.ref b, .int (Int32.ofNat o), .ref d, .int (Int32.ofNat q), .int (Int32.ofNat len)] 7)) (T9.setTop (mkF m 46 #[.val (.ref b), .val (.int (Int32.ofNat (o + len))), .val (.ref d), .val (.int (Int32.ofNat (q + len))), .val (.int (Int32.ofNat len)), .val (.int (Int32.ofNat len)), z9] [.int (Int32.ofNat len)])) := g9.trans (by
    refine XS.iload X9.here hexec rfl (hb hbytes d3) rfl ?_
    refine XS.iload X9.here hexec rfl (hb hbytes d5) rfl ?_
    refine XS.icmpYes X9.here hexec rfl (pc0 := 7) rfl (hb hbytes d7) rfl (ii_ge_t (nlt32 (by omega) (Nat.le_refl _))) (by decide) rfl ?_
    refine XS.iload X9.here hexec rfl (hb hbytes d44) rfl ?_
    exact Steps.refl _)
  exact ⟨T9, some (.int (Int32.ofNat len)), _, _, _, X9, by simp, rfl, rfl, (fun h => by cases h), ⟨rfl, B9, p9.from hh0, f9⟩, fun fs hl => c11.trans (X9.ireturnOut hexec hret rfl (Or.inl rfl) (hb hbytes d46) hl)⟩
end Cmp5
namespace Cmp3
def yN : MethodName := ⟨"java/lang/StringUTF16", "compress", "([CII)[B"⟩
abbrev yB : ByteArray := jdk_52_method_16_code
theorem d0 : decode yB 0 = .ok (.iload_n 2, 1) := by decide +kernel
theorem d1 : decode yB 1 = .ok (.newarray .byte, 2) := by decide +kernel
theorem d3 : decode yB 3 = .ok (.astore_n 3, 1) := by decide +kernel
theorem d4 : decode yB 4 = .ok (.aload_n 0, 1) := by decide +kernel
theorem d5 : decode yB 5 = .ok (.iload_n 1, 1) := by decide +kernel
theorem d6 : decode yB 6 = .ok (.aload_n 3, 1) := by decide +kernel
theorem d7 : decode yB 7 = .ok (.iconst 0, 1) := by decide +kernel
theorem d8 : decode yB 8 = .ok (.iload_n 2, 1) := by decide +kernel
theorem d9 : decode yB 9 = .ok (.invokestatic 115, 3) := by decide +kernel
theorem d12 : decode yB 12 = .ok (.istore 4, 2) := by decide +kernel
theorem d14 : decode yB 14 = .ok (.iload 4, 2) := by decide +kernel
theorem d16 : decode yB 16 = .ok (.iload_n 2, 1) := by decide +kernel
theorem d17 : decode yB 17 = .ok (.if_icmp (.eq) 40, 3) := by decide +kernel
theorem d57 : decode yB 57 = .ok (.aload_n 3, 1) := by decide +kernel
theorem d58 : decode yB 58 = .ok (.areturn, 1) := by decide +kernel
def site : List Cond := [.arrayClass .byte, Cmp5.tab] ++ staticW U16 115 Cmp5.yN
def tab : Cond := tabOf yN yB 6 (some (.array .byte)) site
def P (b : Addr) (A : Cell) (o len : Nat) (args : Array Value) (s : State) : Prop := args = #[.ref b, .int (Int32.ofNat o), .int (Int32.ofNat len)] ∧ Ch b A s ∧ o + len ≤ A.slots.size ∧ len ≤ 536870912 ∧ ∀ i, i < len → ¬ 255 < cv A (o + i)
def E (b : Addr) (A : Cell) (o len : Nat) (r : Option Value) (s u : State) : Prop := NewArr .byte "[B" len (fun j => .int (lo8 (cv A (o + j)))) r s u ∧ u.heap.size = s.heap.size + 1
/-- no char of the range above 255: a new byte[] of their low bytes -/
theorem law (l : Launch) (b : Addr) (A : Cell) (o len : Nat) : Law l yN 3 3 1 18 yB 6 (some (.array .byte)) site (P b A o len) (E b A o len) [] 1 len := by
  refine Law.of_walk (plainFor_of_name (by decide +kernel)) (by decide +kernel) (by decide +kernel) (by decide) (fun _ _ h => by rw [h.1]; rfl) (fun _ U U' hal hh h => ⟨h.1, h.2.1.mv hal hh, h.2.2⟩) (fun r U U' V V' h1 hal h2 h => ⟨NewArr.mv r U U' V V' h1 hal h2 h.1, by rw [h1, h2]; exact h.2⟩) ?_
  intro p e s m args below meth c s₁ X0 hexec hbytes hml hret hlk hnm hown hh0 W hP
  obtain ⟨rfl, hA, l1, l2, hp⟩ := hP
  have a31 := hA.1.2.2.2
  have c1 : Steps p.tables e below (s₁.setTop (entryFrame m #[.ref b, .int (Int32.ofNat o), .int (Int32.ofNat len)] 6)) (s₁.setTop (mkF m 0 #[.val (.ref b), .val (.int (Int32.ofNat o)), .val (.int (Int32.ofNat len)), .unset, .unset, .unset] [])) := entry rfl
  have c2 : Steps p.tables e below (s₁.setTop (entryFrame m #[.ref b, .int (Int32.ofNat o), .int (Int32.ofNat len)] 6)) (s₁.setTop (mkF m 1 #[.val (.ref b), .val (.int (Int32.ofNat o)), .val (.int (Int32.ofNat len)), .unset, .unset, .unset] [.int (Int32.ofNat len)])) := c1.trans (by
    refine XS.iloadN X0.here hexec rfl (hb hbytes d0) rfl ?_
    exact Steps.refl _)
  obtain ⟨T3, B3, X3, ba3, bs3, bv3, bh3, bf3, st3⟩ := X0.anew hexec (atype := .byte) (wk W (.arrayClass .byte)) rfl (by show len * 1 ≤ _; omega) (by omega) (g := (mkF m 1 #[.val (.ref b), .val (.int (Int32.ofNat o)), .val (.int (Int32.ofNat len)), .unset, .unset, .unset] [.int (Int32.ofNat len)])) rfl (hb hbytes d1) (rest := []) rfl (Nat.le_refl _) (by show 0 + len ≤ len; omega)
  rw [hh0] at ba3 st3
  have kp3 : XT.Kept s T3 := (XT.Kept.of_eq hh0).push bh3
  have hA3 := hA.keep X3.warmed.alike (kp3 _ _ hA.1.1)
  have hne : b ≠ s.heap.size := hA.1.ne
  have c4 : Steps p.tables e below (s₁.setTop (entryFrame m #[.ref b, .int (Int32.ofNat o), .int (Int32.ofNat len)] 6)) (T3.setTop (mkF m 3 #[.val (.ref b), .val (.int (Int32.ofNat o)), .val (.int (Int32.ofNat len)), .unset, .unset, .unset] [.ref s.heap.size])) := c2.trans (st3 _ (Steps.refl _))
  have c5 : Steps p.tables e below (s₁.setTop (entryFrame m #[.ref b, .int (Int32.ofNat o), .int (Int32.ofNat len)] 6)) (T3.setTop (mkF m 9 #[.val (.ref b), .val (.int (Int32.ofNat o)), .val (.int (Int32.ofNat len)), .val (.ref s.heap.size), .unset, .unset] [.int (Int32.ofNat len), .int 0, .ref s.heap.size, .int (Int32.ofNat o), .ref b])) := c4.trans (by
    refine XS.astoreN X3.here hexec rfl (hb hbytes d3) rfl rfl rfl ?_
    refine XS.aloadN X3.here hexec rfl (hb hbytes d4) rfl rfl ?_
    refine XS.iloadN X3.here hexec rfl (hb hbytes d5) rfl ?_
    refine XS.aloadN X3.here hexec rfl (hb hbytes d6) rfl rfl ?_
    refine iconstV X3.here hexec rfl 0 (hb hbytes d7) (by decide) ?_
    refine XS.iloadN X3.here hexec rfl (hb hbytes d8) rfl ?_
    exact Steps.refl _)
  obtain ⟨v6, T6, X6, E6, g6⟩ := X3.callS hexec (Cmp5.law l b A s.heap.size B3 o 0 len) hown (wks W (staticW U16 115 Cmp5.yN)) (wk W Cmp5.tab) (W := 0) (Nat.le_of_ble_eq_true rfl) (Nat.le_of_ble_eq_true rfl) (Nat.le_refl _) (by show 0 + len + 0 ≤ len; omega) (g := (mkF m 9 #[.val (.ref b), .val (.int (Int32.ofNat o)), .val (.int (Int32.ofNat len)), .val (.ref s.heap.size), .unset, .unset] [.int (Int32.ofNat len), .int (Int32.ofNat 0), .ref s.heap.size, .int (Int32.ofNat o), .ref b])) rfl (by rw [hml]; rfl) c5 (argsL := [.ref b, .int (Int32.ofNat o), .ref s.heap.size, .int (Int32.ofNat 0), .int (Int32.ofNat len)]) (rest := []) rfl rfl (by show 2 * 0 + 0 ≤ _; decide) (hb hbytes d9) (⟨rfl, hA3, ba3, hne, l1, by rw [bs3]; simp, hp⟩)
  obtain ⟨rfl, B6, p6, f6⟩ := E6
  have c7 : Steps p.tables e below (s₁.setTop (entryFrame m #[.ref b, .int (Int32.ofNat o), .int (Int32.ofNat len)] 6)) (T6.setTop (mkF m 12 #[.val (.ref b), .val (.int (Int32.ofNat o)), .val (.int (Int32.ofNat len)), .val (.ref s.heap.size), .unset, .unset] [.int (Int32.ofNat len)])) := g6
  have c8 : Steps p.tables e below (s₁.setTop (entryFrame m #[.ref b, .int (Int32.ofNat o), .int (Int32.ofNat len)] 6)) (T6.setTop (mkF m 58 #[.val (.ref b), .val (.int (Int32.ofNat o)), .val (.int (Int32.ofNat len)), .val (.ref s.heap.size), .val (.int (Int32.ofNat len)), .unset] [.ref s.heap.size])) := c7.trans (by
    refine XS.istore X6.here hexec rfl (hb hbytes d12) rfl rfl ?_
    refine XS.iload X6.here hexec rfl (hb hbytes d14) rfl ?_
    refine XS.iloadN X6.here hexec rfl (hb hbytes d16) rfl ?_
    refine XS.icmpYes X6.here hexec rfl (pc0 := 17) rfl (hb hbytes d17) rfl (ii_eq_t rfl) (by decide) rfl ?_
    refine XS.aloadN X6.here hexec rfl (hb hbytes d57) rfl rfl ?_
    exact Steps.refl _)
  have X8 := X6.wide (L' := []) (cells' := 1) (slots' := len) (fun x hx hlt => by
    simp only [List.nil_append, copyLocs, List.mem_map, List.mem_range] at hx
    obtain ⟨i, -, rfl⟩ := hx
    exact absurd hlt (Nat.lt_irrefl _)) (Nat.le_refl _) (by omega)
  exact ⟨T6, some (.ref s.heap.size), _, _, _, X8, rfl, rfl, rfl, (fun h => by cases h), ⟨⟨rfl, B6, ba3.like (X3.warmed.alike.symm.trans X6.warmed.alike) p6.1 f6.1 f6.2.1 f6.2.2.1, f6.2.1.trans bv3, by rw [X6.warmed.alike.findClass, f6.1]; exact bf3, by rw [f6.2.2.1, bs3]; simp, fun j hj => by rw [f6.2.2.2 j, if_pos (by omega)]; rfl, kp3.put p6 (Nat.le_refl _)⟩, by rw [p6.2.2, bh3, hh0]; simp⟩, fun fs hl => c8.trans (X8.areturnOut hexec rfl hret rfl (hb hbytes d58) hl)⟩
end Cmp3
namespace CodL
def yN : MethodName := ⟨"java/lang/StringUTF16", "coderFromArrayLen", "([BI)B"⟩
abbrev yB : ByteArray := jdk_52_method_15_code
theorem d0 : decode yB 0 = .ok (.iload_n 1, 1) := by decide +kernel
theorem d1 : decode yB 1 = .ok (.aload_n 0, 1) := by decide +kernel
theorem d2 : decode yB 2 = .ok (.arraylength, 1) := by decide +kernel
theorem d3 : decode yB 3 = .ok (.isub, 1) := by decide +kernel
theorem d4 : decode yB 4 = .ok (.bipush 31, 2) := by decide +kernel
theorem d6 : decode yB 6 = .ok (.iushr, 1) := by decide +kernel
theorem d7 : decode yB 7 = .ok (.i2b, 1) := by decide +kernel
theorem d8 : decode yB 8 = .ok (.ireturn, 1) := by decide +kernel
def site : List Cond := []
def tab : Cond := tabOf yN yB 2 (some .byte) site
def P (d : Addr) (B : Cell) (args : Array Value) (s : State) : Prop := args = #[.ref d, .int (Int32.ofNat B.slots.size)] ∧ Arr .byte d B s
def E (r : Option Value) (s u : State) : Prop := XT.PureE (some (.int 0)) r s u
/-- an array as long as the number of chars: LATIN1 -/
theorem law (l : Launch) (d : Addr) (B : Cell) : Law l yN 2 2 0 0 yB 2 (some .byte) site (P d B) E [] 0 0 := by
  refine Law.of_walk (plainFor_of_name (by decide +kernel)) (by decide +kernel) (by decide +kernel) (by decide) (fun _ _ h => by rw [h.1]; rfl) (fun _ U U' hal hh h => ⟨h.1, h.2.mv hal hh⟩) (fun r U U' V V' h1 hal h2 h => XT.PureE.mv r U U' V V' h1 hal h2 h) ?_
  intro p e s m args below meth c s₁ X0 hexec hbytes hml hret hlk hnm hown hh0 W hP
  obtain ⟨rfl, hB⟩ := hP
  have hB0 := hB.mv X0.warmed.alike hh0
  have c1 : Steps p.tables e below (s₁.setTop (entryFrame m #[.ref d, .int (Int32.ofNat B.slots.size)] 2)) (s₁.setTop (mkF m 0 #[.val (.ref d), .val (.int (Int32.ofNat B.slots.size))] [])) := entry rfl
  have c2 : Steps p.tables e below (s₁.setTop (entryFrame m #[.ref d, .int (Int32.ofNat B.slots.size)] 2)) (s₁.setTop (mkF m 2 #[.val (.ref d), .val (.int (Int32.ofNat B.slots.size))] [.ref d, .int (Int32.ofNat B.slots.size)])) := c1.trans (by
    refine XS.iloadN X0.here hexec rfl (hb hbytes d0) rfl ?_
    refine XS.aloadN X0.here hexec rfl (hb hbytes d1) rfl rfl ?_
    exact Steps.refl _)
  have c3 : Steps p.tables e below (s₁.setTop (entryFrame m #[.ref d, .int (Int32.ofNat B.slots.size)] 2)) (s₁.setTop (mkF m 8 #[.val (.ref d), .val (.int (Int32.ofNat B.slots.size))] [.int (lo8 (ushr (Int32.ofNat B.slots.size - Int32.ofNat B.slots.size) 31))])) := c2.trans (by
    refine X0.alen hexec hB0 rfl rfl (hb hbytes d2) ?_
    refine XS.isub X0.here hexec rfl (hb hbytes d3) rfl ?_
    refine bipushV X0.here hexec rfl 31 (hb hbytes d4) (by decide) ?_
    refine iushr X0.here hexec rfl (hb hbytes d6) rfl ?_
    refine i2b X0.here hexec rfl (hb hbytes d7) rfl ?_
    exact Steps.refl _)
  have e0 : lo8 (ushr (Int32.ofNat B.slots.size - Int32.ofNat B.slots.size) 31) = 0 := by rw [Int32.sub_self]; decide
  rw [e0] at c3
  exact ⟨s₁, some (.int 0), _, _, _, X0, rfl, rfl, rfl, (fun h => by cases h), ⟨rfl, hh0⟩, fun fs hl => c3.trans (X0.ireturnOut hexec hret rfl (Or.inr (Or.inr (Or.inl rfl))) (hb hbytes d8) hl)⟩
end CodL
/-- the String at a is Latin-1 over a new byte[] (the heap's one new cell): the low bytes of the len chars of A from o on; every cell but a is kept -/
def Got (a : Addr) (D : Cell) (fV fC : Field) (A : Cell) (o len : Nat) (r : Option Value) (s u : State) : Prop := r = none ∧ ∃ D' V : Cell, Blank "java/lang/String" a D' u ∧ Same D D' [fV.slot, fC.slot] ∧ D'.slots[fV.slot]? = some (.ref s.heap.size) ∧ D'.slots[fC.slot]? = some (.int 0) ∧ Arr .byte s.heap.size V u ∧ V.vm = .none ∧ u.vm.findClass "[B" = some V.cls ∧ V.slots.size = len ∧ (∀ j, j < len → V.slots[j]? = some (.int (lo8 (cv A (o + j))))) ∧ (∀ (y : Addr) (c : Cell), y ≠ a → s.heap[y]? = some c → u.heap[y]? = some c) ∧ u.heap.size = s.heap.size + 1
theorem Got.mv {a : Addr} {D A : Cell} {fV fC : Field} {o len : Nat} : ∀ r (U U' V V' : State), U'.heap = U.heap → V.vm.Alike V'.vm → V'.heap = V.heap → Got a D fV fC A o len r U V → Got a D fV fC A o len r U' V' :=
  fun r U U' V V' h1 hal h2 ⟨e0, D', X, a1, a2, a3, a4, a5, a6, a7, a8, a9, a10, a11⟩ => ⟨e0, D', X, a1.mv hal h2, a2, by rw [h1]; exact a3, a4, by rw [h1]; exact a5.mv hal h2, a6, by rw [hal.findClass]; exact a7, a8, a9, by rw [h1, h2]; exact a10, by rw [h1, h2]; exact a11⟩
namespace New4
def yN : MethodName := ⟨"java/lang/String", "<init>", "([CIILjava/lang/Void;)V"⟩
abbrev yB : ByteArray := jdk_42_method_149_code
theorem d0 : decode yB 0 = .ok (.aload_n 0, 1) := by decide +kernel
theorem d1 : decode yB 1 = .ok (.invokespecial 1, 3) := by decide +kernel
theorem d4 : decode yB 4 = .ok (.iload_n 3, 1) := by decide +kernel
theorem d5 : decode yB 5 = .ok (.ifCond (.ne) 22, 3) := by decide +kernel
theorem d27 : decode yB 27 = .ok (.getstatic 38, 3) := by decide +kernel
theorem d30 : decode yB 30 = .ok (.ifCond (.eq) 28, 3) := by decide +kernel
theorem d33 : decode yB 33 = .ok (.aload_n 1, 1) := by decide +kernel
theorem d34 : decode yB 34 = .ok (.iload_n 2, 1) := by decide +kernel
theorem d35 : decode yB 35 = .ok (.iload_n 3, 1) := by decide +kernel
theorem d36 : decode yB 36 = .ok (.invokestatic 177, 3) := by decide +kernel
theorem d39 : decode yB 39 = .ok (.astore 5, 2) := by decide +kernel
theorem d41 : decode yB 41 = .ok (.aload_n 0, 1) := by decide +kernel
theorem d42 : decode yB 42 = .ok (.aload 5, 2) := by decide +kernel
theorem d44 : decode yB 44 = .ok (.iload_n 3, 1) := by decide +kernel
theorem d45 : decode yB 45 = .ok (.invokestatic 47, 3) := by decide +kernel
theorem d48 : decode yB 48 = .ok (.putfield 15, 3) := by decide +kernel
theorem d51 : decode yB 51 = .ok (.aload_n 0, 1) := by decide +kernel
theorem d52 : decode yB 52 = .ok (.aload 5, 2) := by decide +kernel
theorem d54 : decode yB 54 = .ok (.putfield 9, 3) := by decide +kernel
theorem d57 : decode yB 57 = .ok (.return_, 1) := by decide +kernel
def site : List Cond := [.fieldLink "java/lang/String" 38 "java/lang/String" "COMPACT_STRINGS" "Z", Cmp3.tab, CodL.tab, .laysFinal "java/lang/String" "java/lang/String" "value" "[B", .fieldLink "java/lang/String" 9 "java/lang/String" "value" "[B", .laysFinal "java/lang/String" "java/lang/String" "coder" "B", .fieldLink "java/lang/String" 15 "java/lang/String" "coder" "B"] ++ objW "java/lang/String" 1 ++ staticW "java/lang/String" 177 Cmp3.yN ++ staticW "java/lang/String" 47 CodL.yN
def tab : Cond := tabOf yN yB 6 none site
def P (a : Addr) (D : Cell) (fV fC : Field) (b : Addr) (A : Cell) (z : Int32) (o len : Nat) (args : Array Value) (s : State) : Prop := args = #[.ref a, .ref b, .int (Int32.ofNat o), .int (Int32.ofNat len), .null] ∧ Blank "java/lang/String" a D s ∧ Found "java/lang/String" "value" "[B" fV s ∧ Found "java/lang/String" "coder" "B" fC s ∧ Ch b A s ∧ StaticIs s "java/lang/String" "COMPACT_STRINGS" "Z" (.int z) ∧ ¬ z = 0 ∧ 0 < len ∧ o + len ≤ A.slots.size ∧ len ≤ 536870912 ∧ ∀ i, i < len → ¬ 255 < cv A (o + i)
def E (a : Addr) (D : Cell) (fV fC : Field) (A : Cell) (o len : Nat) (r : Option Value) (s u : State) : Prop := Got a D fV fC A o len r s u
/-- len > 0, no char of the range above 255: a Latin-1 String of their low bytes -/
theorem law (l : Launch) (a : Addr) (D : Cell) (fV fC : Field) (b : Addr) (A : Cell) (z : Int32) (o len : Nat) : Law l yN 5 4 2 35 yB 6 none site (P a D fV fC b A z o len) (E a D fV fC A o len) [⟨a, fC.slot⟩, ⟨a, fV.slot⟩] 1 len := by
  refine Law.of_walk (plainFor_of_name (by decide +kernel)) (by decide +kernel) (by decide +kernel) (by decide) (fun _ _ h => by rw [h.1]; rfl) (fun _ U U' hal hh h => ⟨h.1, h.2.1.mv hal hh, h.2.2.1.al hal, h.2.2.2.1.al hal, h.2.2.2.2.1.mv hal hh, h.2.2.2.2.2.1.there hal hh, h.2.2.2.2.2.2⟩) (fun r U U' V V' h1 hal h2 h => Got.mv r U U' V V' h1 hal h2 h) ?_
  intro p e s m args below meth c s₁ X0 hexec hbytes hml hret hlk hnm hown hh0 W hP
  obtain ⟨rfl, hB, f1, f2, hA, s1, hz, l0, l1, l2, hp⟩ := hP
  have a31 := hA.1.2.2.2
  have c1 : Steps p.tables e below (s₁.setTop (entryFrame m #[.ref a, .ref b, .int (Int32.ofNat o), .int (Int32.ofNat len), .null] 6)) (s₁.setTop (mkF m 0 #[.val (.ref a), .val (.ref b), .val (.int (Int32.ofNat o)), .val (.int (Int32.ofNat len)), .val .null, .unset] [])) := entry rfl
  have c2 : Steps p.tables e below (s₁.setTop (entryFrame m #[.ref a, .ref b, .int (Int32.ofNat o), .int (Int32.ofNat len), .null] 6)) (s₁.setTop (mkF m 1 #[.val (.ref a), .val (.ref b), .val (.int (Int32.ofNat o)), .val (.int (Int32.ofNat len)), .val .null, .unset] [.ref a])) := c1.trans (by
    refine XS.aloadN X0.here hexec rfl (hb hbytes d0) rfl rfl ?_
    exact Steps.refl _)
  obtain ⟨T3, X3, q3, st3⟩ := X0.oinit hexec hown (wks W (objW "java/lang/String" 1)) (g := (mkF m 1 #[.val (.ref a), .val (.ref b), .val (.int (Int32.ofNat o)), .val (.int (Int32.ofNat len)), .val .null, .unset] [.ref a])) rfl (by rw [hml]; rfl) (rest := []) rfl (hb hbytes d1) (W := 0) (by show 2 * 0 + 0 ≤ _; decide) (Nat.le_of_ble_eq_true rfl) (Nat.le_of_ble_eq_true rfl)
  have hh3 := q3.trans hh0
  have c4 : Steps p.tables e below (s₁.setTop (entryFrame m #[.ref a, .ref b, .int (Int32.ofNat o), .int (Int32.ofNat len), .null] 6)) (T3.setTop (mkF m 27 #[.val (.ref a), .val (.ref b), .val (.int (Int32.ofNat o)), .val (.int (Int32.ofNat len)), .val .null, .unset] [])) := (c2.trans (st3 _ (Steps.refl _))).trans (by
    refine XS.iloadN X3.here hexec rfl (hb hbytes d4) rfl ?_
    refine XS.ifYes X3.here hexec rfl (pc0 := 5) rfl (hb hbytes d5) rfl (i0_ne_t (nz32 (by omega) l0)) (by decide) rfl ?_
    exact Steps.refl _)
  obtain ⟨T5, X5, q5, st5⟩ := X3.sget hexec hown (wk W (.fieldLink "java/lang/String" 38 "java/lang/String" "COMPACT_STRINGS" "Z")) s1 (fun _ _ h => by rw [hh3]; exact h) (g := (mkF m 27 #[.val (.ref a), .val (.ref b), .val (.int (Int32.ofNat o)), .val (.int (Int32.ofNat len)), .val .null, .unset] [])) rfl (hb hbytes d27)
  have hh5 := q5.trans hh3
  have c6 : Steps p.tables e below (s₁.setTop (entryFrame m #[.ref a, .ref b, .int (Int32.ofNat o), .int (Int32.ofNat len), .null] 6)) (T5.setTop (mkF m 30 #[.val (.ref a), .val (.ref b), .val (.int (Int32.ofNat o)), .val (.int (Int32.ofNat len)), .val .null, .unset] [.int z])) := c4.trans (st5 _ (Steps.refl _))
  have c7 : Steps p.tables e below (s₁.setTop (entryFrame m #[.ref a, .ref b, .int (Int32.ofNat o), .int (Int32.ofNat len), .null] 6)) (T5.setTop (mkF m 36 #[.val (.ref a), .val (.ref b), .val (.int (Int32.ofNat o)), .val (.int (Int32.ofNat len)), .val .null, .unset] [.int (Int32.ofNat len), .int (Int32.ofNat o), .ref b])) := c6.trans (by
    refine XS.ifNo X5.here hexec rfl (hb hbytes d30) rfl (i0_eq_f hz) ?_
    refine XS.aloadN X5.here hexec rfl (hb hbytes d33) rfl rfl ?_
    refine XS.iloadN X5.here hexec rfl (hb hbytes d34) rfl ?_
    refine XS.iloadN X5.here hexec rfl (hb hbytes d35) rfl ?_
    exact Steps.refl _)
  obtain ⟨v8, T8, X8, E8, g8⟩ := X5.callS hexec (Cmp3.law l b A o len) hown (wks W (staticW "java/lang/String" 177 Cmp3.yN)) (wk W Cmp3.tab) (W := 0) (Nat.le_of_ble_eq_true rfl) (Nat.le_of_ble_eq_true rfl) (Nat.le_refl _) (by show 0 + len ≤ len; omega) (g := (mkF m 36 #[.val (.ref a), .val (.ref b), .val (.int (Int32.ofNat o)), .val (.int (Int32.ofNat len)), .val .null, .unset] [.int (Int32.ofNat len), .int (Int32.ofNat o), .ref b])) rfl (by rw [hml]; rfl) c7 (argsL := [.ref b, .int (Int32.ofNat o), .int (Int32.ofNat len)]) (rest := []) rfl rfl (by show 2 * 0 + 0 ≤ _; decide) (hb hbytes d36) (⟨rfl, hA.mv X5.warmed.alike hh5, l1, l2, hp⟩)
  obtain ⟨e8, z8⟩ := E8
  obtain ⟨rfl, N, n1, n2, n3, n4, n5, n6⟩ := NewArr.mv _ T5 s _ _ hh5.symm (Vm.Alike.refl _) rfl e8
  rw [hh5] at z8
  have hB1 := hB.keep X8.warmed.alike (n6 _ _ hB.1)
  have hne : s.heap.size ≠ a := (Nat.ne_of_lt (Array.getElem?_eq_some_iff.mp hB.1).1).symm
  have c9 : Steps p.tables e below (s₁.setTop (entryFrame m #[.ref a, .ref b, .int (Int32.ofNat o), .int (Int32.ofNat len), .null] 6)) (T8.setTop (mkF m 39 #[.val (.ref a), .val (.ref b), .val (.int (Int32.ofNat o)), .val (.int (Int32.ofNat len)), .val .null, .unset] [.ref s.heap.size])) := g8
  have c10 : Steps p.tables e below (s₁.setTop (entryFrame m #[.ref a, .ref b, .int (Int32.ofNat o), .int (Int32.ofNat len), .null] 6)) (T8.setTop (mkF m 45 #[.val (.ref a), .val (.ref b), .val (.int (Int32.ofNat o)), .val (.int (Int32.ofNat len)), .val .null, .val (.ref s.heap.size)] [.int (Int32.ofNat N.slots.size), .ref s.heap.size, .ref a])) := by
    have hc : Steps p.tables e below (s₁.setTop (entryFrame m #[.ref a, .ref b, .int (Int32.ofNat o), .int (Int32.ofNat len), .null] 6)) (T8.setTop (mkF m 45 #[.val (.ref a), .val (.ref b), .val (.int (Int32.ofNat o)), .val (.int (Int32.ofNat len)), .val .null, .val (.ref s.heap.size)] [.int (Int32.ofNat len), .ref s.heap.size, .ref a])) := c9.trans (by
      refine XS.astore X8.here hexec rfl (hb hbytes d39) rfl rfl rfl ?_
      refine XS.aloadN X8.here hexec rfl (hb hbytes d41) rfl rfl ?_
      refine XS.aload X8.here hexec rfl (hb hbytes d42) rfl rfl ?_
      refine XS.iloadN X8.here hexec rfl (hb hbytes d44) rfl ?_
      exact Steps.refl _)
    rw [n4]; exact hc
  obtain ⟨v11, T11, X11, E11, g11⟩ := X8.callS hexec (CodL.law l s.heap.size N) hown (wks W (staticW "java/lang/String" 47 CodL.yN)) (wk W CodL.tab) (W := 1) (Nat.le_of_ble_eq_true rfl) (Nat.le_of_ble_eq_true rfl) (Nat.le_refl _) (by show 0 + len + 0 ≤ len; omega) (g := (mkF m 45 #[.val (.ref a), .val (.ref b), .val (.int (Int32.ofNat o)), .val (.int (Int32.ofNat len)), .val .null, .val (.ref s.heap.size)] [.int (Int32.ofNat N.slots.size), .ref s.heap.size, .ref a])) rfl (by rw [hml]; rfl) c10 (argsL := [.ref s.heap.size, .int (Int32.ofNat N.slots.size)]) (rest := [.ref a]) rfl rfl (by show 2 * 0 + (1 + 0) ≤ _; decide) (hb hbytes d45) (⟨rfl, n1⟩)
  obtain ⟨rfl, q11⟩ := E11
  have hB11 := hB1.mv (X8.warmed.alike.symm.trans X11.warmed.alike) q11
  have c12 : Steps p.tables e below (s₁.setTop (entryFrame m #[.ref a, .ref b, .int (Int32.ofNat o), .int (Int32.ofNat len), .null] 6)) (T11.setTop (mkF m 48 #[.val (.ref a), .val (.ref b), .val (.int (Int32.ofNat o)), .val (.int (Int32.ofNat len)), .val .null, .val (.ref s.heap.size)] [.int 0, .ref a])) := g11
  obtain ⟨T13, X13, p13, bl13, sl13, st13⟩ := X11.finit hexec hown (wk W (.fieldLink "java/lang/String" 15 "java/lang/String" "coder" "B")) (Or.inr ⟨_, (wk W (.laysFinal "java/lang/String" "java/lang/String" "coder" "B"))⟩) (Or.inl ⟨rfl, hnm⟩) f2 (Or.inl rfl) hB11 (t := .byte) (by decide +kernel) rfl (g := (mkF m 48 #[.val (.ref a), .val (.ref b), .val (.int (Int32.ofNat o)), .val (.int (Int32.ofNat len)), .val .null, .val (.ref s.heap.size)] [.int 0, .ref a])) rfl (rest := []) rfl (hb hbytes d48)
  have c14 : Steps p.tables e below (s₁.setTop (entryFrame m #[.ref a, .ref b, .int (Int32.ofNat o), .int (Int32.ofNat len), .null] 6)) (T13.setTop (mkF m 54 #[.val (.ref a), .val (.ref b), .val (.int (Int32.ofNat o)), .val (.int (Int32.ofNat len)), .val .null, .val (.ref s.heap.size)] [.ref s.heap.size, .ref a])) := (c12.trans (st13 _ (Steps.refl _))).trans (by
    refine XS.aloadN X13.here hexec rfl (hb hbytes d51) rfl rfl ?_
    refine XS.aload X13.here hexec rfl (hb hbytes d52) rfl rfl ?_
    exact Steps.refl _)
  obtain ⟨T15, X15, p15, bl15, sl15, st15⟩ := X13.finit hexec hown (wk W (.fieldLink "java/lang/String" 9 "java/lang/String" "value" "[B")) (Or.inr ⟨_, (wk W (.laysFinal "java/lang/String" "java/lang/String" "value" "[B"))⟩) (Or.inl ⟨rfl, hnm⟩) f1 (Or.inl rfl) bl13 (t := (.array .byte)) (by decide +kernel) rfl (g := (mkF m 54 #[.val (.ref a), .val (.ref b), .val (.int (Int32.ofNat o)), .val (.int (Int32.ofNat len)), .val .null, .val (.ref s.heap.size)] [.ref s.heap.size, .ref a])) rfl (rest := []) rfl (hb hbytes d54)
  have c16 : Steps p.tables e below (s₁.setTop (entryFrame m #[.ref a, .ref b, .int (Int32.ofNat o), .int (Int32.ofNat len), .null] 6)) (T15.setTop (mkF m 57 #[.val (.ref a), .val (.ref b), .val (.int (Int32.ofNat o)), .val (.int (Int32.ofNat len)), .val .null, .val (.ref s.heap.size)] [])) := c14.trans (st15 _ (Steps.refl _))
  have ap := apart (Or.inr ⟨_, (wk W (.laysFinal "java/lang/String" "java/lang/String" "value" "[B"))⟩) (Or.inr ⟨_, (wk W (.laysFinal "java/lang/String" "java/lang/String" "coder" "B"))⟩) f1 f2 (t₁ := .array .byte) (t₂ := .byte) (by decide +kernel) (by decide +kernel) (by decide)
  have al := X8.warmed.alike.symm.trans X15.warmed.alike
  have n7 : T11.heap[s.heap.size]? = some N := by rw [q11]; exact n1.1
  exact ⟨T15, none, _, _, _, X15, by simp, rfl, by omega, (fun _ => rfl), ⟨rfl, _, N, bl15, ((Same.refl D _).set _ (by simp)).set _ (by simp), sl15, (Cell.slots_setSlot_ne _ ap).trans sl13, n1.keep al (p15.other hne (p13.other hne n7)), n2, by rw [al.findClass]; exact n3, n4, n5, fun y c h1 h2 => p15.other h1 (p13.other h1 (by rw [q11]; exact n6 y c h2)), by rw [p15.2.2, p13.2.2, q11]; exact z8⟩, fun fs hl => c16.trans (X15.returnOut hexec hret (hb hbytes d57) hl)⟩
end New4
namespace New1
def yN : MethodName := ⟨"java/lang/String", "<init>", "([C)V"⟩
abbrev yB : ByteArray := jdk_42_method_3_code
theorem d0 : decode yB 0 = .ok (.aload_n 0, 1) := by decide +kernel
theorem d1 : decode yB 1 = .ok (.aload_n 1, 1) := by decide +kernel
theorem d2 : decode yB 2 = .ok (.iconst 0, 1) := by decide +kernel
theorem d3 : decode yB 3 = .ok (.aload_n 1, 1) := by decide +kernel
theorem d4 : decode yB 4 = .ok (.arraylength, 1) := by decide +kernel
theorem d5 : decode yB 5 = .ok (.aconst_null, 1) := by decide +kernel
theorem d6 : decode yB 6 = .ok (.invokespecial 27, 3) := by decide +kernel
theorem d9 : decode yB 9 = .ok (.return_, 1) := by decide +kernel
def site : List Cond := [New4.tab] ++ initW "java/lang/String" 27 New4.yN
def tab : Cond := tabOf yN yB 2 none site
def P (a : Addr) (D : Cell) (fV fC : Field) (b : Addr) (A : Cell) (z : Int32) (args : Array Value) (s : State) : Prop := args = #[.ref a, .ref b] ∧ Blank "java/lang/String" a D s ∧ Found "java/lang/String" "value" "[B" fV s ∧ Found "java/lang/String" "coder" "B" fC s ∧ Ch b A s ∧ StaticIs s "java/lang/String" "COMPACT_STRINGS" "Z" (.int z) ∧ ¬ z = 0 ∧ 0 < A.slots.size ∧ A.slots.size ≤ 536870912 ∧ ∀ i, i < A.slots.size → ¬ 255 < cv A i
def E (a : Addr) (D : Cell) (fV fC : Field) (A : Cell) (r : Option Value) (s u : State) : Prop := Got a D fV fC A 0 A.slots.size r s u
/-- new String(chars), not empty, no char above 255: a Latin-1 String of their low bytes -/
theorem law (l : Launch) (a : Addr) (D : Cell) (fV fC : Field) (b : Addr) (A : Cell) (z : Int32) : Law l yN 2 1 3 52 yB 2 none site (P a D fV fC b A z) (E a D fV fC A) [⟨a, fC.slot⟩, ⟨a, fV.slot⟩] 1 A.slots.size := by
  refine Law.of_walk (plainFor_of_name (by decide +kernel)) (by decide +kernel) (by decide +kernel) (by decide) (fun _ _ h => by rw [h.1]; rfl) (fun _ U U' hal hh h => ⟨h.1, h.2.1.mv hal hh, h.2.2.1.al hal, h.2.2.2.1.al hal, h.2.2.2.2.1.mv hal hh, h.2.2.2.2.2.1.there hal hh, h.2.2.2.2.2.2⟩) (fun r U U' V V' h1 hal h2 h => Got.mv r U U' V V' h1 hal h2 h) ?_
  intro p e s m args below meth c s₁ X0 hexec hbytes hml hret hlk hnm hown hh0 W hP
  obtain ⟨rfl, hB, f1, f2, hA, s1, hz, l0, l2, hp⟩ := hP
  have c1 : Steps p.tables e below (s₁.setTop (entryFrame m #[.ref a, .ref b] 2)) (s₁.setTop (mkF m 0 #[.val (.ref a), .val (.ref b)] [])) := entry rfl
  have c2 : Steps p.tables e below (s₁.setTop (entryFrame m #[.ref a, .ref b] 2)) (s₁.setTop (mkF m 6 #[.val (.ref a), .val (.ref b)] [.null, .int (Int32.ofNat A.slots.size), .int 0, .ref b, .ref a])) := c1.trans (by
    refine XS.aloadN X0.here hexec rfl (hb hbytes d0) rfl rfl ?_
    refine XS.aloadN X0.here hexec rfl (hb hbytes d1) rfl rfl ?_
    refine iconstV X0.here hexec rfl 0 (hb hbytes d2) (by decide) ?_
    refine XS.aloadN X0.here hexec rfl (hb hbytes d3) rfl rfl ?_
    refine X0.alen hexec (hA.1.mv X0.warmed.alike hh0) rfl rfl (hb hbytes d4) ?_
    refine XS.aconstNull X0.here hexec rfl (hb hbytes d5) ?_
    exact Steps.refl _)
  obtain ⟨v3, T3, X3, E3, g3⟩ := X0.callN hexec (New4.law l a D fV fC b A z 0 A.slots.size) rfl hown (wks W (initW "java/lang/String" 27 New4.yN)) (W New4.tab (by simp only [site, List.mem_cons, List.mem_append, true_or, or_true])) (W := 0) (Nat.le_of_ble_eq_true rfl) (Nat.le_of_ble_eq_true rfl) (Nat.le_refl _) (by show 0 + A.slots.size ≤ A.slots.size; omega) (g := (mkF m 6 #[.val (.ref a), .val (.ref b)] [.null, .int (Int32.ofNat A.slots.size), .int (Int32.ofNat 0), .ref b, .ref a])) rfl (by rw [hml]; rfl) c2 (argsL := [.ref b, .int (Int32.ofNat 0), .int (Int32.ofNat A.slots.size), .null]) (rest := []) rfl rfl (by show 2 * 0 + 0 ≤ _; decide) (hb hbytes d6) (⟨rfl, hB.mv X0.warmed.alike hh0, f1.al X0.warmed.alike, f2.al X0.warmed.alike, hA.mv X0.warmed.alike hh0, s1.there X0.warmed.alike hh0, hz, l0, by omega, l2, fun i hi => by rw [Nat.zero_add]; exact hp i hi⟩)
  have e0 := Got.mv _ s₁ s _ _ hh0.symm (Vm.Alike.refl _) rfl E3
  obtain rfl := e0.1
  have c4 : Steps p.tables e below (s₁.setTop (entryFrame m #[.ref a, .ref b] 2)) (T3.setTop (mkF m 9 #[.val (.ref a), .val (.ref b)] [])) := g3
  exact ⟨T3, none, _, _, _, X3, by simp, rfl, by omega, (fun _ => rfl), e0, fun fs hl => c4.trans (X3.returnOut hexec hret (hb hbytes d9) hl)⟩
theorem pays {l : Launch} {R : Room} {p : Program} {e : Env} {below : List Frame} {s : State} {sargs : Array Value} {len W : Nat} (a : Addr) (D : Cell) (fV fC : Field) (b : Addr) (A : Cell) (z : Int32) (htab : tab.before sargs s = true) (hfr : 4 ≤ R.frames) (hlo : W + 65 ≤ R.locals) :
    Back l R p e below s sargs yN len W (fun A₁ a₁ => A₁.cells + 1 ≤ R.cells ∧ A₁.slots + A.slots.size ≤ R.slots ∧ P a D fV fC b A z a₁ A₁.U) (fun A₁ _ v₁ B₁ => E a D fV fC A v₁ A₁.U B₁.U ∧ B₁.locs = A₁.locs ++ [⟨a, fC.slot⟩, ⟨a, fV.slot⟩] ∧ B₁.cells = A₁.cells + 1 ∧ B₁.slots = A₁.slots + A.slots.size) :=
  (law l a D fV fC b A z).pays htab hfr (by omega)
end New1
end StrChars
namespace StrChars.Road
open Jvm Sem ClassFile Op Lib Jvm.Stand Jvm.Free Jvm.Free.XT
open Jvm.Lib.Cold (StaticIs)
abbrev ST : String := "java/lang/String"
/-- every table word that New1's law asks, flat -/
abbrev words : List Jvm.Cond := [.code New1.yN New1.yB 2 none, .initialized ST, .methodLink ST 27 New4.yN, .instanceMethod New4.yN,
  .code New4.yN New4.yB 6 none, .fieldLink ST 38 ST "COMPACT_STRINGS" "Z", .laysFinal ST ST "value" "[B", .fieldLink ST 9 ST "value" "[B", .laysFinal ST ST "coder" "B", .fieldLink ST 15 ST "coder" "B",
  .methodLink ST 1 Lib.objectInit, .instanceMethod Lib.objectInit, .code Lib.objectInit ⟨#[0xb1]⟩ 1 none, .methodLink ST 177 Cmp3.yN, .static Cmp3.yN, .methodLink ST 47 CodL.yN, .static CodL.yN,
  .code Cmp3.yN Cmp3.yB 6 (some (.array .byte)), .initialized U16, .arrayClass .byte, .methodLink U16 115 Cmp5.yN, .static Cmp5.yN, .code Cmp5.yN Cmp5.yB 7 (some .int), .code CodL.yN CodL.yB 2 (some .byte)]
theorem tab_of {a : Array Value} {s : State} (h : ∀ w ∈ words, w.before a s = true) : New1.tab.before a s = true := by
  have h5 : Cmp5.tab.before a s = true := unparts (wk h (.code Cmp5.yN Cmp5.yB 7 (some .int))) (wks h (.initialized Cmp5.yN.cls :: Cmp5.site))
  have hc : CodL.tab.before a s = true := unparts (wk h (.code CodL.yN CodL.yB 2 (some .byte))) (wks h (.initialized CodL.yN.cls :: CodL.site))
  have q5 : ∀ w ∈ Cmp5.tab :: words, w.before a s = true := fun w hw => (List.mem_cons.mp hw).elim (fun e => e ▸ h5) (h w)
  have h3 : Cmp3.tab.before a s = true := unparts (wk q5 (.code Cmp3.yN Cmp3.yB 6 (some (.array .byte)))) (wks q5 (.initialized Cmp3.yN.cls :: Cmp3.site))
  have q3 : ∀ w ∈ Cmp3.tab :: CodL.tab :: words, w.before a s = true := fun w hw => (List.mem_cons.mp hw).elim (fun e => e ▸ h3) fun hw => (List.mem_cons.mp hw).elim (fun e => e ▸ hc) (h w)
  have h4 : New4.tab.before a s = true := unparts (wk q3 (.code New4.yN New4.yB 6 none)) (wks q3 (.initialized New4.yN.cls :: New4.site))
  have q4 : ∀ w ∈ New4.tab :: words, w.before a s = true := fun w hw => (List.mem_cons.mp hw).elim (fun e => e ▸ h4) (h w)
  exact unparts (wk q4 (.code New1.yN New1.yB 2 none)) (wks q4 (.initialized New1.yN.cls :: New1.site))
/-- the words ride from the start Z to the walk's own state -/
theorem moved {Z s : State} {a0 args : Array Value} (hZ : Z.Warmed39 s.vm) (hw : ∀ d ∈ words, d.before a0 Z = true) : ∀ d ∈ words, d.before args s = true := fun d hd => by
  have q := hw d hd
  have t : ∀ d ∈ words, d = .arrayClass .byte ∨ (d.onTables && d.keepsFace) = true := by decide +kernel
  rcases t d hd with rfl | t
  · exact RoadKit.mvA hZ q
  · exact RoadKit.mv hZ q t
/-- WHAT COMES BACK, over the tables of the start Z: h the heap at the call, h' behind it -/
def Q (Z : State) (x : Addr) (A : Cell) (h : Heap) (v : Option Value) (h' : Heap) (L : List Loc) : Prop := v = none ∧ (∀ y ∈ L, y.base = x) ∧ RoadKit.Keep h h' [x] ∧ h'.size = h.size + 1 ∧ RoadKit.Exa Z h' x ST ∧ RoadKit.Fld Z h' x ST "value" "[B" (.ref h.size) ∧ RoadKit.Fld Z h' x ST "coder" "B" (.int 0) ∧
  (∃ V : Cell, RoadKit.Arr Z h' h.size V .byte ∧ V.vm = .none ∧ Z.vm.findClass "[B" = some V.cls ∧ V.slots.size = A.slots.size ∧ ∀ j, j < A.slots.size → V.slots[j]? = some (.int (lo8 (cv A j)))) ∧
  ∀ (O n d : String) (w : Value), RoadKit.Fld Z h x O n d w → RoadKit.slotOf Z O n d ≠ RoadKit.slotOf Z ST "value" "[B" → RoadKit.slotOf Z O n d ≠ RoadKit.slotOf Z ST "coder" "B" → RoadKit.Fld Z h' x O n d w
/-- **new String(chars) AT A CALL, IN THE ROAD'S FORM**: for specialBack behind newO: x the fresh String, b the char[] with the cell A -/
theorem back {p : Program} {l : Launch} {e : Env} {R : Room} {s : State} {args : Array Value} {below : List Frame} {len W : Nat} {Z : State} {a0 : Array Value} {h : Heap} (hZ : Z.Warmed39 s.vm) (hw : ∀ d ∈ words, d.before a0 Z = true) {kI : Nat} (wi : (Jvm.Cond.instantiable ST kI).before a0 Z = true)
    {x b : Addr} {A : Cell} {z : Int32} {v0 c0 : Value} (E : RoadKit.Exa Z h x ST) (V : RoadKit.Fld Z h x ST "value" "[B" v0) (C : RoadKit.Fld Z h x ST "coder" "B" c0) (K : RoadKit.Arr Z h b A .char) (hty : Typed .char A) (S : RoadKit.Sta Z h ST "COMPACT_STRINGS" "Z" (.int z)) (hz : ¬ z = 0)
    (l0 : 0 < A.slots.size) (l2 : A.slots.size ≤ 536870912) (hp : ∀ i, i < A.slots.size → ¬ 255 < cv A i) (hfr : 4 ≤ R.frames) (hlo : W + 65 ≤ R.locals) :
    Back l R p e below s args New1.yN len W (fun P a => a = #[.ref x, .ref b] ∧ P.U.heap = h ∧ P.cells + 1 ≤ R.cells ∧ P.slots + A.slots.size ≤ R.slots)
      (fun P _ v B => ∃ L, Q Z x A h v B.U.heap L ∧ B.locs = P.locs ++ L ∧ B.cells = P.cells + 1 ∧ B.slots = P.slots + A.slots.size) := by
  intro m meth c P g ig mk a X hg hsize hdg hW hn hp'
  obtain ⟨rfl, rfl, r1, r2⟩ := hp'
  have al : Z.vm.Alike P.U.vm := hZ.alike.trans X.warmed.alike
  obtain ⟨D, cfV, kV, iV, fV, hD, gV, stV, knV, obV, asV, slV⟩ := id V
  obtain ⟨D', cfC, kC, iC, fC, hD', gC, stC, -, -, asC, slC⟩ := id C
  cases hD.symm.trans hD'
  obtain ⟨D2, kD, e1, e2, e3, e4, e5⟩ := id E
  cases hD.symm.trans e1
  obtain ⟨c2, k2, i1, i2, i3, -⟩ := Cond.instantiable_spec wi
  cases e2.symm.trans i1
  cases e3.symm.trans i2
  obtain ⟨kU, u1, u2⟩ := al.2.2 _ _ e3
  have hB : Blank ST x D P.U := ⟨hD, ⟨knV, fun q hq => by rw [hq] at obV; cases obV⟩, by rw [al.findClass]; exact e2, kU, u1, by rw [u2]; exact i3, by rw [u2]; exact e5 i3⟩
  have F1 : Found ST "value" "[B" fV P.U := ⟨SBG.found_only al ⟨cfV, kV, iV, gV⟩, stV⟩
  have F2 : Found ST "coder" "B" fC P.U := ⟨SBG.found_only al ⟨cfC, kC, iC, gC⟩, stC⟩
  have hA : Ch b A P.U := ⟨⟨K.1, State.isArrayOf_alike al K.2.1, K.2.2, by omega⟩, hty⟩
  have hS : StaticIs P.U ST "COMPACT_STRINGS" "Z" (.int z) := by
    obtain ⟨cfS, iS, kS, fS, st, cS, t1, t2, t3, t4, t5, t6, t7⟩ := S
    exact StaticIs.there (s := { Z with heap := P.U.heap }) ⟨cfS, iS, kS, fS, st, cS, t1, t2, t3, t4, t5, (fun q => by rw [q] at t6; cases t6), t7⟩ al rfl
  obtain ⟨v, B, X', ⟨⟨hv, E', V', q1, q2, q3, q4, q5, q6, q7, q8, q9, q10, q11⟩, hl, hc, hs⟩, st⟩ := New1.pays x D fV fC b A z (tab_of (moved hZ hw)) hfr hlo m meth c P g ig mk _ X hg hsize hdg hW hn ⟨r1, r2, rfl, hB, F1, F2, hA, hS, hz, l0, l2, hp⟩
  have al' : Z.vm.Alike B.U.vm := hZ.alike.trans X'.warmed.alike
  have hsz : E'.slots.size = D.slots.size := by
    obtain ⟨-, -, -, kB, w1, w2, w3⟩ := q1
    obtain ⟨kB', y1, y2⟩ := al'.2.2 _ _ e3
    rw [q2.2.1] at w1
    cases w1.symm.trans y1
    rw [w3, e5 i3, y2]
  refine ⟨v, B, X', ⟨_, ⟨hv, ?_, ⟨by omega, fun y cy hy hn' => q10 y cy (by simpa using hn') hy, fun y cy hy => ?_⟩, q11, ⟨E', _, q1.1, by rw [q2.2.1]; exact e2, by rw [q2.2.1]; exact e3, by rw [q2.1]; exact obV, fun _ => by rw [hsz]; exact e5 i3⟩,
    ⟨E', cfV, kV, iV, fV, q1.1, gV, stV, by rw [q2.1]; exact knV, by rw [q2.1]; exact obV, by rw [q2.2.1]; exact asV, q3⟩, ⟨E', cfC, kC, iC, fC, q1.1, gC, stC, by rw [q2.1]; exact knV, by rw [q2.1]; exact obV, by rw [q2.2.1]; exact asC, q4⟩,
    ⟨V', ⟨q5.1, State.isArrayOf_alike al'.symm q5.2.1, q5.2.2.1⟩, q6, by rw [← al'.findClass]; exact q7, q8, fun j hj => by have := q9 j hj; rwa [Nat.zero_add] at this⟩, fun O n d w F n1 n2 => ?_⟩, hl, hc, hs⟩, st⟩
  · intro y hy
    simp only [List.mem_cons, List.not_mem_nil, or_false] at hy
    rcases hy with rfl | rfl <;> rfl
  · by_cases q : y = x
    · subst q
      cases hD.symm.trans hy
      exact ⟨E', q1.1, q2.2.1, q2.1, hsz⟩
    · exact ⟨cy, q10 y cy q hy, rfl, rfl, rfl⟩
  · obtain ⟨D3, cf, k, i, f, g1, g2, g3, g4, g5, g6, g7⟩ := F
    cases hD.symm.trans g1
    simp only [RoadKit.slotOf, g2, gV, gC, Option.map_some, Option.getD_some] at n1 n2
    exact ⟨E', cf, k, i, f, q1.1, g2, g3, by rw [q2.1]; exact g4, by rw [q2.1]; exact g5, by rw [q2.2.1]; exact g6, by rw [q2.2.2 f.slot (by simp [n1, n2])]; exact g7⟩
end StrChars.Road
namespace StrChars.Road
open Jvm Sem ClassFile Op Lib Jvm.Stand Jvm.Free Jvm.Free.XT
/-- WHAT COMES BACK, the byte[] as a list of values -/
def QA (Z : State) (x : Addr) (zn : Int32) (cs : List Int32) (h : Heap) (v : Option Value) (h' : Heap) (L : List Loc) : Prop := v = none ∧ (∀ y ∈ L, y.base = x) ∧ RoadKit.Keep h h' [x] ∧ h'.size = h.size + 1 ∧ RoadKit.Exa Z h' x ST ∧ RoadKit.Fld Z h' x ST "value" "[B" (.ref h.size) ∧ RoadKit.Fld Z h' x ST "coder" "B" (.int 0) ∧
  (∃ kb, Z.vm.findClass "[B" = some kb ∧ RoadKit.Arv Z h' h.size kb .byte zn (cs.map fun c => .int (lo8 c)) (.int 0)) ∧
  ∀ (O n d : String) (w : Value), RoadKit.Fld Z h x O n d w → RoadKit.slotOf Z O n d ≠ RoadKit.slotOf Z ST "value" "[B" → RoadKit.slotOf Z O n d ≠ RoadKit.slotOf Z ST "coder" "B" → RoadKit.Fld Z h' x O n d w
/-- **new String(chars) AT A CALL, THE ARRAYS AS LISTS**: the char[] at b holds cs, not empty, no char above 255 -/
theorem backArv {p : Program} {l : Launch} {e : Env} {R : Room} {s : State} {args : Array Value} {below : List Frame} {len W : Nat} {Z : State} {a0 : Array Value} {h : Heap} (hZ : Z.Warmed39 s.vm) (hw : ∀ d ∈ words, d.before a0 Z = true) {kI : Nat} (wi : (Jvm.Cond.instantiable ST kI).before a0 Z = true)
    {x b : Addr} {k : ClassId} {zn z : Int32} {cs : List Int32} {dv v0 c0 : Value} (E : RoadKit.Exa Z h x ST) (V : RoadKit.Fld Z h x ST "value" "[B" v0) (C : RoadKit.Fld Z h x ST "coder" "B" c0) (K : RoadKit.Arv Z h b k .char zn (cs.map Value.int) dv) (S : RoadKit.Sta Z h ST "COMPACT_STRINGS" "Z" (.int z)) (hz : ¬ z = 0)
    (hlen : zn.toNatClampNeg = cs.length) (h0 : 0 < cs.length) (hbig : cs.length ≤ 536870912) (hall : ∀ c ∈ cs, ¬ 255 < c) (hfr : 4 ≤ R.frames) (hlo : W + 65 ≤ R.locals) :
    Back l R p e below s args New1.yN len W (fun P a => a = #[.ref x, .ref b] ∧ P.U.heap = h ∧ P.cells + 1 ≤ R.cells ∧ P.slots + cs.length ≤ R.slots)
      (fun P _ v B => ∃ L, QA Z x zn cs h v B.U.heap L ∧ B.locs = P.locs ++ L ∧ B.cells = P.cells + 1 ∧ B.slots = P.slots + cs.length) := by
  obtain ⟨A, K1, K2, K3, K4, K5, K6⟩ := K
  have e : A.slots.size = cs.length := K3.trans hlen
  have hat : ∀ (i : Nat) (hi : i < cs.length), A.slots[i]? = some (.int cs[i]) := fun i hi => by rw [K5 i (by omega)]; simp [List.getD_eq_getElem?_getD, hi]
  have hcv : ∀ (i : Nat) (hi : i < cs.length), cv A i = cs[i] := fun i hi => by unfold cv; rw [hat i hi]
  have hty : Typed .char A := fun i v hv => by
    have hi : i < A.slots.size := (Array.getElem?_eq_some_iff.mp hv).1
    have q := K5 i hi
    rw [hv] at q
    rw [Option.some.inj q]
    exact K6 i hi
  refine Back.mono (back hZ hw wi E V C K1 hty S hz (by omega) (by omega) (fun i hi => by rw [hcv i (by omega)]; exact hall _ (List.getElem_mem _)) hfr hlo) (fun P a hp => ⟨hp.1, hp.2.1, hp.2.2.1, by rw [e]; exact hp.2.2.2⟩) (fun P a v B hp hq => ?_)
  obtain ⟨L, ⟨q1, q2, q3, q4, q5, q6, q7, ⟨V', v1, v2, v3, v4, v5⟩, q9⟩, hl, hc, hs⟩ := hq
  refine ⟨L, ⟨q1, q2, q3, q4, q5, q6, q7, ⟨V'.cls, v3, V', v1, rfl, by rw [v4, e, hlen], K4, fun i hi => ?_, fun i hi => ?_⟩, q9⟩, hl, hc, by rw [hs, e]⟩
  · have hi' : i < cs.length := by omega
    rw [v5 i (by omega), hcv i hi']; simp [List.getD_eq_getElem?_getD, hi']
  · have hi' : i < cs.length := by omega
    simp only [List.getD_eq_getElem?_getD, List.getElem?_map, List.getElem?_eq_getElem hi', Option.map_some, Option.getD_some]
    exact fits_lo8 _
end StrChars.Road
namespace StrChars.Road
open Jvm Sem ClassFile Op Lib Jvm.Stand Jvm.Free Jvm.Free.XT
/-- WHAT COMES BACK, in the writer's own shape -/
def QV (Z : State) (x : Addr) (N : Int32) (bs : List Int32) (h : Heap) (n0 : Nat) (v : Option Value) (h' : Heap) (L : List Loc) : Prop := v = none ∧ RoadKit.Fr n0 L ∧ RoadKit.Keep h h' [x] ∧ RoadKit.Exa Z h' x ST ∧ RoadKit.Fld Z h' x ST "coder" "B" (.int 0) ∧
  ∃ (t : Addr) (kb : ClassId), n0 ≤ t ∧ h.size ≤ t ∧ ¬ t = x ∧ RoadKit.Fld Z h' x ST "value" "[B" (.ref t) ∧ RoadKit.Arv Z h' t kb .byte N (bs.map Value.int) (.int 0)
/-- **new String(chars) AT A CALL, FOR THE WRITER**: a char[] of n known ints, each 0 to 255 -/
theorem backV {p : Program} {l : Launch} {e : Env} {R : Room} {s : State} {args : Array Value} {below : List Frame} {len W : Nat} {Z : State} {a0 : Array Value} {h : Heap} (hZ : Z.Warmed39 s.vm) (hw : ∀ d ∈ words, d.before a0 Z = true) {kI : Nat} (wi : (Jvm.Cond.instantiable ST kI).before a0 Z = true)
    {x b : Addr} {kC : ClassId} {cs bs : List Int32} {d v0 c0 : Value} {z N : Int32} {n n0 : Nat} (hx0 : n0 ≤ x) (hh0 : n0 ≤ h.size) (E : RoadKit.Exa Z h x ST) (V : RoadKit.Fld Z h x ST "value" "[B" v0) (C : RoadKit.Fld Z h x ST "coder" "B" c0) (K : RoadKit.Arv Z h b kC .char N (cs.map Value.int) d) (S : RoadKit.Sta Z h ST "COMPACT_STRINGS" "Z" (.int z)) (hz : ¬ z = 0)
    (hn : cs.length = n) (hN : N = Int32.ofNat n) (l0 : 0 < n) (l2 : n ≤ 4000) (hp : ∀ c ∈ cs, ¬ c < 0 ∧ ¬ (255 : Int32) < c) (hb : bs = cs.map (fun c => c.toInt8.toInt32)) (hfr : 4 ≤ R.frames) (hlo : W + 65 ≤ R.locals) :
    Back l R p e below s args (⟨"java/lang/String", "<init>", "([C)V"⟩ : MethodName) len W (fun P a => a = #[.ref x, .ref b] ∧ P.U.heap = h ∧ P.cells + 1 ≤ R.cells ∧ P.slots + n ≤ R.slots)
      (fun P _ v B => ∃ L, QV Z x N bs h n0 v B.U.heap L ∧ B.locs = P.locs ++ L ∧ B.cells = P.cells + 1 ∧ B.slots = P.slots + n) := by
  subst hn hN hb
  refine Back.mono (backArv hZ hw wi E V C K S hz (n32 (by omega)) l0 (by omega) (fun c hc => (hp c hc).2) hfr hlo) (fun P a hp => hp) (fun P a v B hp hq => ?_)
  obtain ⟨L, ⟨q1, q2, q3, q4, q5, q6, q7, ⟨kb, v1, v2⟩, q9⟩, hl, hc, hs⟩ := hq
  exact ⟨L, ⟨q1, fun y hy => by rw [q2 y hy]; exact hx0, q3, q5, q7, h.size, kb, hh0, Nat.le_refl _, Nat.ne_of_gt E.lt, q6, by rw [List.map_map]; exact v2⟩, hl, hc, hs⟩
end StrChars.Road
namespace StrChars
open Jvm Sem ClassFile Op Lib Jvm.Stand Jvm.Free.XT Jvm.Free.ALB Jvm.Free.JM Jvm.Free
open Jvm.Lib.Cold (StaticIs)
def hi8 (x : Int32) : Int32 := lo8 (x >>> ((8 : Int32) &&& 31))
theorem shr0 (c : Int32) : c >>> ((0 : Int32) &&& 31) = c := by
  have e : ((0 : Int32) &&& 31) = 0 := by decide
  rw [e]
  apply Int32.toBitVec_inj.mp
  rw [Int32.toBitVec_shiftRight]
  have e1 : ((0 : Int32).toBitVec.smod 32) = 0#32 := by decide
  rw [e1, BitVec.sshiftRight_eq']
  exact BitVec.sshiftRight_zero
end StrChars
namespace StrChars
open Jvm Sem ClassFile Op Lib Jvm.Stand Jvm.Free.XT Jvm.Free.ALB Jvm.Free.JM Jvm.Free
open Jvm.Lib.Cold (StaticIs)
theorem shr1 {n : Nat} (h : 2 * n < 2 ^ 31) : Int32.ofNat (2 * n) >>> ((1 : Int32) &&& 31) = Int32.ofNat n := by
  have e : ((1 : Int32) &&& 31) = 1 := by decide
  rw [e]
  apply Int32.toBitVec_inj.mp
  rw [Int32.toBitVec_shiftRight]
  have e1 : ((1 : Int32).toBitVec.smod 32) = 1#32 := by decide
  have hm : (BitVec.ofNat 32 (2 * n)).toNat = 2 * n := by rw [BitVec.toNat_ofNat, Nat.mod_eq_of_lt (by omega)]
  rw [e1, BitVec.sshiftRight_eq']
  apply BitVec.eq_of_toNat_eq
  show ((BitVec.ofNat 32 (2 * n)).sshiftRight 1).toNat = (BitVec.ofNat 32 n).toNat
  rw [BitVec.toNat_sshiftRight_of_msb_false (by rw [BitVec.msb_eq_false_iff_two_mul_lt, hm]; omega), hm, BitVec.toNat_ofNat, Nat.shiftRight_eq_div_pow]
  omega
/-- the array's cell V codes the n chars f 0 .. f (n - 1) by the coder cd, as the JDK does: coder 1 just where some char is above 255 -/
def Cod (cd : Int32) (n : Nat) (f : Nat → Int32) (V : Cell) : Prop := (cd = 0 ∧ V.slots.size = n ∧ ∀ j, j < n → V.slots[j]? = some (.int (lo8 (f j))) ∧ ¬ 255 < f j) ∨ (cd = 1 ∧ V.slots.size = 2 * n ∧ (∀ j, j < n → V.slots[2 * j]? = some (.int (lo8 (f j))) ∧ V.slots[2 * j + 1]? = some (.int (hi8 (f j)))) ∧ ∃ j, j < n ∧ 255 < f j)
theorem Cod.cd {cd : Int32} {n : Nat} {f : Nat → Int32} {V : Cell} (h : Cod cd n f V) : cd = 0 ∨ cd = 1 := h.imp (fun q => q.1) fun q => q.1
theorem Cod.len {cd : Int32} {n : Nat} {f : Nat → Int32} {V : Cell} (h : Cod cd n f V) (hs : V.slots.size < 2 ^ 31) : Int32.ofNat V.slots.size >>> (cd &&& 31) = Int32.ofNat n := by
  rcases h with ⟨rfl, h, -⟩ | ⟨rfl, h, -⟩
  · rw [shr0, h]
  · rw [h, shr1 (by omega)]
/-- **x is a String of the n chars f 0 .. f (n - 1)**, Latin-1 or UTF-16; its array at t has the cell V -/
def Txt (x t : Addr) (V : Cell) (cd : Int32) (n : Nat) (f : Nat → Int32) (U : State) : Prop := Exact "java/lang/String" x U ∧ Has x "java/lang/String" "value" "[B" (.ref t) U ∧ Has x "java/lang/String" "coder" "B" (.int cd) U ∧ XT.Arr .byte t V U ∧ Cod cd n f V ∧ ∀ j, j < n → ¬ f j < 0 ∧ ¬ 65535 < f j
theorem Txt.mv {x t : Addr} {V : Cell} {cd : Int32} {n : Nat} {f : Nat → Int32} {U U' : State} (h : Txt x t V cd n f U) (hal : U.vm.Alike U'.vm) (hh : U'.heap = U.heap) : Txt x t V cd n f U' := ⟨h.1.mv hal hh, h.2.1.mv hal hh, h.2.2.1.mv hal hh, h.2.2.2.1.mv hal hh, h.2.2.2.2⟩
namespace Cdr
def yN : MethodName := ⟨"java/lang/String", "coder", "()B"⟩
abbrev yB : ByteArray := jdk_42_method_152_code
theorem d0 : decode yB 0 = .ok (.getstatic 38, 3) := by decide +kernel
theorem d3 : decode yB 3 = .ok (.ifCond (.eq) 10, 3) := by decide +kernel
theorem d6 : decode yB 6 = .ok (.aload_n 0, 1) := by decide +kernel
theorem d7 : decode yB 7 = .ok (.getfield 15, 3) := by decide +kernel
theorem d10 : decode yB 10 = .ok (.goto 4, 3) := by decide +kernel
theorem d14 : decode yB 14 = .ok (.ireturn, 1) := by decide +kernel
def site : List Cond := [.fieldLink "java/lang/String" 38 "java/lang/String" "COMPACT_STRINGS" "Z", .fieldLink "java/lang/String" 15 "java/lang/String" "coder" "B"]
def tab : Cond := tabOf yN yB 1 (some .byte) site
def P (x : Addr) (cd z : Int32) (args : Array Value) (s : State) : Prop := args = #[.ref x] ∧ Has x "java/lang/String" "coder" "B" (.int cd) s ∧ (cd = 0 ∨ cd = 1) ∧ StaticIs s "java/lang/String" "COMPACT_STRINGS" "Z" (.int z) ∧ ¬ z = 0
def E (cd : Int32) (r : Option Value) (s u : State) : Prop := XT.PureE (some (.int cd)) r s u
theorem law (l : Launch) (x : Addr) (cd z : Int32) : Law l yN 1 0 0 0 yB 1 (some .byte) site (P x cd z) (E cd) [] 0 0 := by
  refine Law.of_walk (plainFor_of_name (by decide +kernel)) (by decide +kernel) (by decide +kernel) (by decide) (fun _ _ h => by rw [h.1]; rfl) (fun _ U U' hal hh h => ⟨h.1, h.2.1.mv hal hh, h.2.2.1, h.2.2.2.1.there hal hh, h.2.2.2.2⟩) (fun r U U' V V' h1 hal h2 h => XT.PureE.mv r U U' V V' h1 hal h2 h) ?_
  intro p e s m args below meth c s₁ X0 hexec hbytes hml hret hlk hnm hown hh0 W hP
  obtain ⟨rfl, hx, hc, s1, hz⟩ := hP
  have c1 : Steps p.tables e below (s₁.setTop (entryFrame m #[.ref x] 1)) (s₁.setTop (mkF m 0 #[.val (.ref x)] [])) := entry rfl
  obtain ⟨T2, X2, q2, st2⟩ := X0.sget hexec hown (wk W (.fieldLink "java/lang/String" 38 "java/lang/String" "COMPACT_STRINGS" "Z")) s1 (fun _ _ h => by rw [hh0]; exact h) (g := (mkF m 0 #[.val (.ref x)] [])) rfl (hb hbytes d0)
  have hh2 := q2.trans hh0
  have c3 : Steps p.tables e below (s₁.setTop (entryFrame m #[.ref x] 1)) (T2.setTop (mkF m 7 #[.val (.ref x)] [.ref x])) := (c1.trans (st2 _ (Steps.refl _))).trans (by
    refine XS.ifNo X2.here hexec rfl (hb hbytes d3) rfl (i0_eq_f hz) ?_
    refine XS.aloadN X2.here hexec rfl (hb hbytes d6) rfl rfl ?_
    exact Steps.refl _)
  obtain ⟨T4, X4, q4, st4⟩ := X2.hget hexec hown (wk W (.fieldLink "java/lang/String" 15 "java/lang/String" "coder" "B")) (hx.mv X2.warmed.alike hh2) (g := (mkF m 7 #[.val (.ref x)] [.ref x])) rfl (rest := []) rfl (hb hbytes d7)
  have c5 : Steps p.tables e below (s₁.setTop (entryFrame m #[.ref x] 1)) (T4.setTop (mkF m 14 #[.val (.ref x)] [.int cd])) := (c3.trans (st4 _ (Steps.refl _))).trans (by
    refine XS.goto X4.here hexec rfl (pc0 := 10) rfl (hb hbytes d10) (by decide) rfl ?_
    exact Steps.refl _)
  exact ⟨T4, some (.int cd), _, _, _, X4, rfl, rfl, rfl, (fun h => by cases h), ⟨rfl, q4.trans hh2⟩, fun fs hl => c5.trans (X4.ireturnOut hexec hret (by rcases hc with rfl | rfl <;> rfl) (Or.inr (Or.inr (Or.inl rfl))) (hb hbytes d14) hl)⟩
end Cdr
namespace Len
def yN : MethodName := ⟨"java/lang/String", "length", "()I"⟩
abbrev yB : ByteArray := jdk_42_method_54_code
theorem d0 : decode yB 0 = .ok (.aload_n 0, 1) := by decide +kernel
theorem d1 : decode yB 1 = .ok (.getfield 9, 3) := by decide +kernel
theorem d4 : decode yB 4 = .ok (.arraylength, 1) := by decide +kernel
theorem d5 : decode yB 5 = .ok (.aload_n 0, 1) := by decide +kernel
theorem d6 : decode yB 6 = .ok (.invokevirtual 335, 3) := by decide +kernel
theorem d9 : decode yB 9 = .ok (.ishr, 1) := by decide +kernel
theorem d10 : decode yB 10 = .ok (.ireturn, 1) := by decide +kernel
def site : List Cond := [.fieldLink "java/lang/String" 9 "java/lang/String" "value" "[B", Cdr.tab] ++ virtW "java/lang/String" 335 "java/lang/String" Cdr.yN Cdr.yN
def tab : Cond := tabOf yN yB 1 (some .int) site
def P (x t : Addr) (V : Cell) (cd : Int32) (n : Nat) (f : Nat → Int32) (z : Int32) (args : Array Value) (s : State) : Prop := args = #[.ref x] ∧ Txt x t V cd n f s ∧ StaticIs s "java/lang/String" "COMPACT_STRINGS" "Z" (.int z) ∧ ¬ z = 0
def E (n : Nat) (r : Option Value) (s u : State) : Prop := XT.PureE (some (.int (Int32.ofNat n))) r s u
/-- length() of a String of n chars, in either coding -/
theorem law (l : Launch) (x t : Addr) (V : Cell) (cd : Int32) (n : Nat) (f : Nat → Int32) (z : Int32) : Law l yN 1 0 1 13 yB 1 (some .int) site (P x t V cd n f z) (E n) [] 0 0 := by
  refine Law.of_walk (plainFor_of_name (by decide +kernel)) (by decide +kernel) (by decide +kernel) (by decide) (fun _ _ h => by rw [h.1]; rfl) (fun _ U U' hal hh h => ⟨h.1, h.2.1.mv hal hh, h.2.2.1.there hal hh, h.2.2.2⟩) (fun r U U' V V' h1 hal h2 h => XT.PureE.mv r U U' V V' h1 hal h2 h) ?_
  intro p e s m args below meth c s₁ X0 hexec hbytes hml hret hlk hnm hown hh0 W hP
  obtain ⟨rfl, hx, s1, hz⟩ := hP
  have v31 := hx.2.2.2.1.2.2.2
  have c1 : Steps p.tables e below (s₁.setTop (entryFrame m #[.ref x] 1)) (s₁.setTop (mkF m 1 #[.val (.ref x)] [.ref x])) := Steps.trans (entry rfl) (by
    show Steps p.tables e below (s₁.setTop (mkF m 0 #[.val (.ref x)] [])) _
    refine XS.aloadN X0.here hexec rfl (hb hbytes d0) rfl rfl ?_
    exact Steps.refl _)
  obtain ⟨T2, X2, q2, st2⟩ := X0.hget hexec hown (wk W (.fieldLink "java/lang/String" 9 "java/lang/String" "value" "[B")) (hx.mv X0.warmed.alike hh0).2.1 (g := (mkF m 1 #[.val (.ref x)] [.ref x])) rfl (rest := []) rfl (hb hbytes d1)
  have hh2 := q2.trans hh0
  have hx2 := hx.mv X2.warmed.alike hh2
  have c3 : Steps p.tables e below (s₁.setTop (entryFrame m #[.ref x] 1)) (T2.setTop (mkF m 6 #[.val (.ref x)] [.ref x, .int (Int32.ofNat V.slots.size)])) := (c1.trans (st2 _ (Steps.refl _))).trans (by
    refine X2.alen hexec hx2.2.2.2.1 rfl rfl (hb hbytes d4) ?_
    refine XS.aloadN X2.here hexec rfl (hb hbytes d5) rfl rfl ?_
    exact Steps.refl _)
  obtain ⟨v4, T4, X4, E4, g4⟩ := X2.callV hexec (Cdr.law l x cd z) hown (wks W (virtW "java/lang/String" 335 "java/lang/String" Cdr.yN Cdr.yN)) rfl (by decide) (wk W Cdr.tab) (W := 1) (Nat.le_of_ble_eq_true rfl) (Nat.le_of_ble_eq_true rfl) (Nat.le_refl _) (Nat.le_refl _) (hx2.1.fc X2.warmed.alike) hx2.1.is (g := (mkF m 6 #[.val (.ref x)] [.ref x, .int (Int32.ofNat V.slots.size)])) rfl (by rw [hml]; rfl) c3 (argsL := []) (rest := [.int (Int32.ofNat V.slots.size)]) rfl rfl (by show 2 * 0 + (1 + 0) ≤ _; decide) (hb hbytes d6) (⟨rfl, hx2.2.2.1, hx.2.2.2.2.1.cd, s1.there X2.warmed.alike hh2, hz⟩)
  obtain ⟨rfl, q4⟩ := E4
  have c5 : Steps p.tables e below (s₁.setTop (entryFrame m #[.ref x] 1)) (T4.setTop (mkF m 10 #[.val (.ref x)] [.int (Int32.ofNat V.slots.size >>> (cd &&& 31))])) := Steps.trans g4 (by
    refine ishr X4.here hexec rfl (hb hbytes d9) rfl ?_
    exact Steps.refl _)
  rw [hx.2.2.2.2.1.len v31] at c5
  exact ⟨T4, some (.int (Int32.ofNat n)), _, _, _, X4, rfl, rfl, rfl, (fun h => by cases h), ⟨rfl, q4.trans hh2⟩, fun fs hl => c5.trans (X4.ireturnOut hexec hret rfl (Or.inl rfl) (hb hbytes d10) hl)⟩
theorem pays {l : Launch} {R : Room} {p : Program} {e : Env} {below : List Frame} {s : State} {sargs : Array Value} {len W : Nat} (x t : Addr) (V : Cell) (cd : Int32) (n : Nat) (f : Nat → Int32) (z : Int32) (htab : tab.before sargs s = true) (hfr : 2 ≤ R.frames) (hlo : W + 25 ≤ R.locals) :
    Back l R p e below s sargs yN len W (fun A₁ a₁ => A₁.cells + 0 ≤ R.cells ∧ A₁.slots + 0 ≤ R.slots ∧ P x t V cd n f z a₁ A₁.U) (fun A₁ _ v₁ B₁ => E n v₁ A₁.U B₁.U ∧ B₁.locs = A₁.locs ++ [] ∧ B₁.cells = A₁.cells + 0 ∧ B₁.slots = A₁.slots + 0) :=
  (law l x t V cd n f z).pays htab hfr (by omega)
end Len
end StrChars
namespace StrChars.Road
open Jvm Sem ClassFile Op Lib Jvm.Stand Jvm.Free Jvm.Free.XT
open Jvm.Lib.Cold (StaticIs)
theorem consq {a : Array Value} {s : State} {c : Jvm.Cond} {L : List Jvm.Cond} (h0 : c.before a s = true) (h : ∀ w ∈ L, w.before a s = true) : ∀ w ∈ c :: L, w.before a s = true := fun w hw => (List.mem_cons.mp hw).elim (fun e => e ▸ h0) (h w)
/-- the words of String.length(), either coding -/
abbrev wordsLen : List Jvm.Cond := [.code Len.yN Len.yB 1 (some .int), .initialized ST, .fieldLink ST 9 ST "value" "[B", .fieldLink ST 38 ST "COMPACT_STRINGS" "Z", .fieldLink ST 15 ST "coder" "B", .code Cdr.yN Cdr.yB 1 (some .byte), .methodLink ST 335 Cdr.yN, .declares Cdr.yN, .selects ST Cdr.yN Cdr.yN, .instanceMethod Cdr.yN]
theorem tabLen_of {a : Array Value} {s : State} (h : ∀ w ∈ wordsLen, w.before a s = true) : Len.tab.before a s = true := by
  have hc : Cdr.tab.before a s = true := unparts (wk h (.code Cdr.yN Cdr.yB 1 (some .byte))) (wks h (.initialized Cdr.yN.cls :: Cdr.site))
  have q := consq hc h
  exact unparts (wk q (.code Len.yN Len.yB 1 (some .int))) (wks q (.initialized Len.yN.cls :: Len.site))
theorem movedLen {Z s : State} {a0 args : Array Value} (hZ : Z.Warmed39 s.vm) (hw : ∀ d ∈ wordsLen, d.before a0 Z = true) : ∀ d ∈ wordsLen, d.before args s = true := fun d hd => by
  have q := hw d hd
  have t : ∀ d ∈ wordsLen, d = .arrayClass .byte ∨ (d.onTables && d.keepsFace) = true := by decide +kernel
  rcases t d hd with rfl | t
  · exact RoadKit.mvA hZ q
  · exact RoadKit.mv hZ q t
/-- the bytes of the chars cs, low before high -/
def wideBytes : List Int32 → List Value
  | [] => []
  | c :: cs => .int (lo8 c) :: .int (hi8 c) :: wideBytes cs
theorem wide_lo (d : Value) : ∀ (cs : List Int32) (j : Nat), j < cs.length → (wideBytes cs).getD (2 * j) d = .int (lo8 (cs.getD j 0))
  | [], j, h => absurd h (Nat.not_lt_zero j)
  | c :: cs, 0, _ => rfl
  | c :: cs, j + 1, h => by
    have q := wide_lo d cs j (by simpa using h)
    rw [show 2 * (j + 1) = 2 * j + 1 + 1 from by omega]
    simpa [wideBytes] using q
theorem wide_hi (d : Value) : ∀ (cs : List Int32) (j : Nat), j < cs.length → (wideBytes cs).getD (2 * j + 1) d = .int (hi8 (cs.getD j 0))
  | [], j, h => absurd h (Nat.not_lt_zero j)
  | c :: cs, 0, _ => rfl
  | c :: cs, j + 1, h => by
    have q := wide_hi d cs j (by simpa using h)
    rw [show 2 * (j + 1) + 1 = 2 * j + 1 + 1 + 1 from by omega]
    simpa [wideBytes] using q
theorem low_at (d : Value) (cs : List Int32) (j : Nat) (h : j < cs.length) : (cs.map fun c => Value.int (lo8 c)).getD j d = .int (lo8 (cs.getD j 0)) := by
  simp [List.getD_eq_getElem?_getD, h]
/-- an array of N2 bytes vs codes the chars cs by the coder cd -/
def CodA (cs : List Int32) (cd N2 : Int32) (vs : List Value) : Prop := (cd = 0 ∧ N2 = Int32.ofNat cs.length ∧ vs = (cs.map fun c => Value.int (lo8 c)) ∧ ∀ c ∈ cs, ¬ 255 < c) ∨ (cd = 1 ∧ N2 = Int32.ofNat (2 * cs.length) ∧ vs = wideBytes cs ∧ ∃ c ∈ cs, 255 < c)
theorem CodA.cod {cs : List Int32} {cd N2 : Int32} {vs : List Value} {V : Cell} (h : CodA cs cd N2 vs) (hn : 2 * cs.length < 2 ^ 31) (hs : V.slots.size = N2.toNatClampNeg) (hv : RoadKit.Has V vs (.int 0)) : Cod cd cs.length (fun j => cs.getD j 0) V := by
  rcases h with ⟨rfl, rfl, rfl, h⟩ | ⟨rfl, rfl, rfl, c, hc, hw⟩
  · rw [n32 (by omega)] at hs
    exact Or.inl ⟨rfl, hs, fun j hj => ⟨by rw [hv j (by omega), low_at _ _ _ hj], by
      have e : cs.getD j 0 = cs[j] := by simp [List.getD_eq_getElem?_getD, hj]
      show ¬ 255 < cs.getD j 0
      rw [e]; exact h _ (List.getElem_mem _)⟩⟩
  · rw [n32 (by omega)] at hs
    obtain ⟨j, hj, rfl⟩ := List.getElem_of_mem hc
    exact Or.inr ⟨rfl, hs, fun j hj => ⟨by rw [hv _ (by omega), wide_lo _ _ _ hj], by rw [hv _ (by omega), wide_hi _ _ _ hj]⟩, j, hj, by
      have e : cs.getD j 0 = cs[j] := by simp [List.getD_eq_getElem?_getD, hj]
      show 255 < cs.getD j 0
      rw [e]; exact hw⟩
/-- an object of exactly java/lang/String, its two fields found: as the laws ask it -/
theorem strObj {Z U : State} {a0 : Array Value} {kI : Nat} (wi : (Jvm.Cond.instantiable ST kI).before a0 Z = true) (al : Z.vm.Alike U.vm) {x : Addr} {v0 c0 : Value} (E : RoadKit.Exa Z U.heap x ST) (V : RoadKit.Fld Z U.heap x ST "value" "[B" v0) (C : RoadKit.Fld Z U.heap x ST "coder" "B" c0) :
    ∃ (D : Cell) (fV fC : Field), Blank ST x D U ∧ Found ST "value" "[B" fV U ∧ Found ST "coder" "B" fC U ∧ D.slots[fV.slot]? = some v0 ∧ D.slots[fC.slot]? = some c0 ∧ RoadKit.slotOf Z ST "value" "[B" = fV.slot ∧ RoadKit.slotOf Z ST "coder" "B" = fC.slot := by
  obtain ⟨D, cfV, kV, iV, fV, hD, gV, stV, knV, obV, asV, slV⟩ := V
  obtain ⟨D', cfC, kC, iC, fC, hD', gC, stC, -, -, asC, slC⟩ := C
  cases hD.symm.trans hD'
  obtain ⟨D2, kD, e1, e2, e3, e4, e5⟩ := E
  cases hD.symm.trans e1
  obtain ⟨c2, k2, i1, i2, i3, -⟩ := Cond.instantiable_spec wi
  cases e2.symm.trans i1
  cases e3.symm.trans i2
  obtain ⟨kU, u1, u2⟩ := al.2.2 _ _ e3
  exact ⟨D, fV, fC, ⟨hD, ⟨knV, fun q hq => by rw [hq] at obV; cases obV⟩, by rw [al.findClass]; exact e2, kU, u1, by rw [u2]; exact i3, by rw [u2]; exact e5 i3⟩, ⟨SBG.found_only al ⟨cfV, kV, iV, gV⟩, stV⟩, ⟨SBG.found_only al ⟨cfC, kC, iC, gC⟩, stC⟩, slV, slC, by simp [RoadKit.slotOf, gV], by simp [RoadKit.slotOf, gC]⟩
theorem sta_is {Z U : State} (al : Z.vm.Alike U.vm) {C n d : String} {v : Value} (S : RoadKit.Sta Z U.heap C n d v) : StaticIs U C n d v := by
  obtain ⟨cfS, iS, kS, fS, st, cS, t1, t2, t3, t4, t5, t6, t7⟩ := S
  exact StaticIs.there (s := { Z with heap := U.heap }) ⟨cfS, iS, kS, fS, st, cS, t1, t2, t3, t4, t5, (fun q => by rw [q] at t6; cases t6), t7⟩ al rfl
/-- **length() OF SUCH A STRING** -/
theorem lenW {p : Program} {l : Launch} {e : Env} {R : Room} {s : State} {args : Array Value} {below : List Frame} {len W : Nat} {Z : State} {a0 : Array Value} {h : Heap} (hZ : Z.Warmed39 s.vm) (hw : ∀ d ∈ wordsLen, d.before a0 Z = true) {kI : Nat} (wi : (Jvm.Cond.instantiable ST kI).before a0 Z = true)
    {x t : Addr} {kb : ClassId} {cs : List Int32} {cd N2 z : Int32} {vs : List Value} (E : RoadKit.Exa Z h x ST) (V : RoadKit.Fld Z h x ST "value" "[B" (.ref t)) (C : RoadKit.Fld Z h x ST "coder" "B" (.int cd)) (K : RoadKit.Arv Z h t kb .byte N2 vs (.int 0)) (hc : CodA cs cd N2 vs) (hb : ∀ c ∈ cs, ¬ c < 0 ∧ ¬ (65535 : Int32) < c)
    (S : RoadKit.Sta Z h ST "COMPACT_STRINGS" "Z" (.int z)) (hz : ¬ z = 0) (l2 : cs.length ≤ 4000) (hfr : 2 ≤ R.frames) (hlo : W + 25 ≤ R.locals) :
    Back l R p e below s args (⟨"java/lang/String", "length", "()I"⟩ : MethodName) len W (fun P a => a = #[.ref x] ∧ P.U.heap = h ∧ P.cells + 0 ≤ R.cells ∧ P.slots + 0 ≤ R.slots)
      (fun P _ v B => ∃ L, (v = some (.int (Int32.ofNat cs.length)) ∧ L = [] ∧ B.U.heap = h) ∧ B.locs = P.locs ++ L ∧ B.cells = P.cells + 0 ∧ B.slots = P.slots + 0) := by
  obtain ⟨A, K1, K2, K3, K4, K5, K6⟩ := K
  have hcod := hc.cod (by omega) K3 K5
  intro m meth c P g ig mk a X hg hsize hdg hW hn hp'
  obtain ⟨rfl, rfl, r1, r2⟩ := hp'
  have al : Z.vm.Alike P.U.vm := hZ.alike.trans X.warmed.alike
  obtain ⟨D, fV, fC, hB, F1, F2, g1, g2, -, -⟩ := strObj wi al E V C
  have hx : Txt x t A cd cs.length (fun j => cs.getD j 0) P.U := ⟨⟨_, hB.2.2.1, D, hB.1, rfl, by cases q : D.vm <;> first | rfl | exact absurd q (hB.2.1.2 _)⟩, Has.of hB F1 g1, Has.of hB F2 g2, ⟨K1.1, State.isArrayOf_alike al K1.2.1, K1.2.2, by rcases hcod with ⟨-, q, -⟩ | ⟨-, q, -⟩ <;> omega⟩, hcod, fun j hj => by
    have e : cs.getD j 0 = cs[j] := by simp [List.getD_eq_getElem?_getD, hj]
    show ¬ cs.getD j 0 < 0 ∧ ¬ 65535 < cs.getD j 0
    rw [e]; exact hb _ (List.getElem_mem _)⟩
  obtain ⟨v, B, X', ⟨⟨hv, hh⟩, hl, hk, hs⟩, st⟩ := Len.pays x t A cd cs.length (fun j => cs.getD j 0) z (tabLen_of (movedLen hZ hw)) hfr hlo m meth c P g ig mk _ X hg hsize hdg hW hn ⟨r1, r2, rfl, hx, sta_is al S, hz⟩
  exact ⟨v, B, X', ⟨[], ⟨hv, rfl, hh⟩, hl, hk, hs⟩, st⟩
end StrChars.Road
namespace StrChars.Road
open Jvm Sem ClassFile Op Lib Jvm.Stand Jvm.Free Jvm.Free.XT
open Jvm.Lib.Cold (StaticIs)
/-- what backV says of its String, as the contracts of this text ask it: cs's low bytes, coder 0 -/
theorem codOf {cs : List Int32} {n : Nat} (hn : cs.length = n) (hb : ∀ c ∈ cs, ¬ 255 < c) : CodA cs 0 (Int32.ofNat n) ((cs.map lo8).map Value.int) := Or.inl ⟨rfl, by rw [hn], by simp [List.map_map, Function.comp_def], hb⟩
end StrChars.Road
end Jvm.Pilot.@@N@@

namespace Jvm.Pilot.@@N@@
open Jvm Jvm.ClassFile Sem Op Lib Jvm.Free Jvm.Stand Jvm.LawKit Jvm.RoadKit Bundle
namespace Own
section K1
variable {p : Program} {l : Launch} {e : Env} {R : Room} {s : State} {m : MethodId} {args : Array Value} {below : List Frame} {meth : Method} {c : Code} {y : MethodName} {bc : ByteArray} {mL : Nat} {rt : Option FieldType} {Z : State} {a0 : Array Value} {EL : List (String × Nat)} {nw : Bool} {h0 h h' : Heap} {T T' : State} {fr fr' fr0 : List Addr} {ce sl : Nat} {rm : Room} {Q : Option Value → Heap → Prop}
/-- where a walk stands: tables, heap, places freed, what may be written, what the frame's method is -/
def Wk (p : Program) (l : Launch) (e : Env) (R : Room) (s : State) (m : MethodId) (args : Array Value) (below : List Frame) (meth : Method) (c : Code) (y : MethodName) (bc : ByteArray) (mL : Nat) (rt : Option FieldType) (Z : State) (a0 : Array Value) (EL : List (String × Nat)) (nw : Bool) (h0 : Heap) (T : State) (h : Heap) (fr : List Addr) (ce sl : Nat) : Prop :=
  ∃ (vm : Vm) (k : Nat) (locs : List Loc), Stand p l e R (s.setVm vm) m args below meth c T locs ce sl ∧ T.heap = h ∧ (s.Since vm k ∧ k ≤ h.size ∧ Z.Warmed39 vm ∧ vm.findClass y.cls = some m.cls ∧ (nw = true → s.WarmedH vm)) ∧
    (EW Z a0 EL ∧ CHr Z EL s.vm h0 vm h) ∧ (Fr Z.heap.size locs ∧ Ext Z.heap h ∧ ∀ x ∈ fr, Z.heap.size ≤ x ∧ x < h.size ∧ Safe Z EL vm h x) ∧ p.tables.exec = Jvm.exec ∧ c.code = bc ∧ c.maxLocals = mL ∧ meth.sig.returnType = rt ∧ meth.locks = false ∧ meth.name = y.name
/-- how a call ends -/
def Post (Z : State) (EL : List (String × Nat)) (nw : Bool) (s : State) (h0 : Heap) (fr0 : List Addr) (Q : Option Value → Heap → Prop) (rm : Room) (o : Outcome) (U : State) : Prop :=
  ∃ v L, o = .returned v ∧ (Keep h0 U.heap fr0 ∧ Q v U.heap ∧ Fr Z.heap.size L) ∧ CHr Z EL s.vm h0 U.vm U.heap ∧ (nw = true → s.WarmedH U.vm) ∧ ReturnedEndW s o U L rm.cells rm.slots
/-- from here the body comes to its end -/
def Goes (p : Program) (e : Env) (below : List Frame) (s : State) (Z : State) (EL : List (String × Nat)) (nw : Bool) (h0 : Heap) (fr0 : List Addr) (Q : Option Value → Heap → Prop) (rm : Room) (T : State) (g : JFrame) : Prop :=
  ∃ s₂ o, Steps p.tables e below (T.setTop g) s₂ ∧ s₂.status = .running ∧ Ended s₂ below o ∧ Post Z EL nw s h0 fr0 Q rm o s₂
/-- a method's contract -/
def Met (l : Launch) (Z : State) (EL : List (String × Nat)) (nw : Bool) (y : MethodName) (bc : ByteArray) (mL : Nat) (rt : Option FieldType) (ws : List Jvm.Cond) (rm : Room) (as : Array Value) (h : Heap) (fr : List Addr) (Q : Option Value → Heap → Prop) : Prop :=
  MetFree l y (head1 (Jvm.Cond.code y bc mL rt :: ws) rm) (fun a U => a = as ∧ Z.Warmed39 U.vm ∧ U.heap = h ∧ CHv Z EL U.vm h ∧ ∀ x ∈ fr, Safe Z EL U.vm h x) (fun _ _ _ _ _ => True) (fun _ U o U' => Post Z EL nw U h fr Q rm o U')
theorem Wk.here (W : Wk p l e R s m args below meth c y bc mL rt Z a0 EL nw h0 T h fr ce sl) : At T m c below := by obtain ⟨vm, k, locs, X, -⟩ := W; exact X.here
theorem Wk.hx (W : Wk p l e R s m args below meth c y bc mL rt Z a0 EL nw h0 T h fr ce sl) : p.tables.exec = Jvm.exec := by obtain ⟨vm, k, locs, -, -, -, -, -, hx, -⟩ := W; exact hx
theorem Wk.hby (W : Wk p l e R s m args below meth c y bc mL rt Z a0 EL nw h0 T h fr ce sl) : c.code = bc := by obtain ⟨vm, k, locs, -, -, -, -, -, -, hb, -⟩ := W; exact hb
theorem Wk.hml (W : Wk p l e R s m args below meth c y bc mL rt Z a0 EL nw h0 T h fr ce sl) : c.maxLocals = mL := by obtain ⟨vm, k, locs, -, -, -, -, -, -, -, hb, -⟩ := W; exact hb
theorem Wk.ext (W : Wk p l e R s m args below meth c y bc mL rt Z a0 EL nw h0 T h fr ce sl) : Ext Z.heap h := by obtain ⟨vm, k, locs, -, -, -, -, ⟨-, q, -⟩, -⟩ := W; exact q
theorem Wk.frs (W : Wk p l e R s m args below meth c y bc mL rt Z a0 EL nw h0 T h fr ce sl) : ∀ x ∈ fr, Z.heap.size ≤ x ∧ x < h.size := by obtain ⟨vm, k, locs, -, -, -, -, ⟨-, -, q⟩, -⟩ := W; exact fun x hx => ⟨(q x hx).1, (q x hx).2.1⟩
theorem Wk.ew (W : Wk p l e R s m args below meth c y bc mL rt Z a0 EL nw h0 T h fr ce sl) : EW Z a0 EL := by obtain ⟨vm, k, locs, -, -, -, ⟨q, -⟩, -⟩ := W; exact q
theorem Wk.less (W : Wk p l e R s m args below meth c y bc mL rt Z a0 EL nw h0 T h fr ce sl) (q : ∀ x ∈ fr', x ∈ fr) : Wk p l e R s m args below meth c y bc mL rt Z a0 EL nw h0 T h fr' ce sl := by
  obtain ⟨vm, k, locs, X, w1, w2, w3, ⟨w4, w5, w6⟩, w7⟩ := W
  exact ⟨vm, k, locs, X, w1, w2, w3, ⟨w4, w5, fun x hx => w6 x (q x hx)⟩, w7⟩
theorem Goes.step {g g' : JFrame} (st : ∀ t, Steps p.tables e below (T'.setTop g') t → Steps p.tables e below (T.setTop g) t) (K : Goes p e below s Z EL nw h0 fr0 Q rm T' g') : Goes p e below s Z EL nw h0 fr0 Q rm T g := by
  obtain ⟨s2, o, q1, q2⟩ := K; exact ⟨s2, o, st _ q1, q2⟩
theorem Goes.cast {g g' : JFrame} (q : g = g') (K : Goes p e below s Z EL nw h0 fr0 Q rm T g') : Goes p e below s Z EL nw h0 fr0 Q rm T g := q ▸ K
theorem Met.intro {ws : List Jvm.Cond} {as : Array Value} (hn : plainFor y = true) (hEL : EW Z a0 EL) (hX : Ext Z.heap h) (hfr : ∀ x ∈ fr, Z.heap.size ≤ x ∧ x < h.size)
    (body : ∀ p e s m below meth c T, Wk p l e rm s m as below meth c y bc mL rt Z a0 EL nw h T h fr 0 0 → Goes p e below s Z EL nw h fr Q rm T (entryFrame m as mL)) : Met l Z EL nw y bc mL rt ws rm as h fr Q := by
  refine MetFree.of_bodySF hn hisR ?_
  intro p e s m args below meth c s₁ Bd hml hP hK
  obtain ⟨rfl, hZ, hh, hC, hS⟩ := hP
  have e0 : s₁.heap = h := by rw [← hh, Bd.state]; rfl
  have hX0 : Stand p l e rm s m args below meth c s₁ [] 0 0 := Stand.of_body Bd
  exact body p e s m below meth c s₁ ⟨s.vm, 0, [], hX0, e0, ⟨(State.WarmedH.refl s).since 0, Nat.zero_le _, hZ, findClass_of_methodNamed Bd.named, fun _ => State.WarmedH.refl s⟩, ⟨hEL, CHr.refl hC⟩, ⟨Fr.nil _, hX, fun x hx => ⟨(hfr x hx).1, (hfr x hx).2, hS x hx⟩⟩, Bd.exec, Bd.bytes, hml, Bd.returns, Bd.notSynchronized, (name_of_methodNamed Bd.named Bd.method).1⟩
/-- the end -/
theorem fin {pc : Nat} {L : Array Slot} {S : List Value} {v : Option Value} (W : Wk p l e R s m args below meth c y bc mL rt Z a0 EL nw h0 T h fr ce sl) (hv : rt = none → v = none) (hK : Keep h0 h fr0) (hQ : Q v h) (hc : ce ≤ rm.cells) (hs : sl ≤ rm.slots)
    (st : ∀ locs vm, Stand p l e R (s.setVm vm) m args below meth c T locs ce sl → meth.sig.returnType = rt → ∀ fs : List Frame, (∀ (f : JFrame) (acts : List Action), f.method = m → f.locked = none → f.entered = [] → (doReturn e (T.setTop f) acts v).1 = T.setFrames fs) → Steps p.tables e below (T.setTop (mkF m pc L S)) (T.setFrames fs)) :
    Goes p e below s Z EL nw h0 fr0 Q rm T (mkF m pc L S) := by
  obtain ⟨vm, k, locs, X, eT, ⟨a1, a2, a3, a4, a5⟩, ⟨b1, b2⟩, ⟨d1, d2, d3⟩, hx, hby, hml, hrt, hlk, hnm⟩ := W
  subst eT
  obtain ⟨fs, q1, q2, q3, q4⟩ := X.leaveW a1 a2 (v := v) (fun z => hv (hrt.symm.trans z)) hlk
  refine ⟨_, _, st locs vm X hrt fs q1, q2, q3, v, locs, rfl, ⟨hK, hQ, d1⟩, ?_, fun z => ?_, q4.1, q4.2.1, q4.2.2.1, q4.2.2.2.mono hc hs⟩
  · show CHr Z EL s.vm h0 T.vm T.heap
    exact b2.trans (CHv.at X a3 b1 b2.1)
  · show s.WarmedH T.vm
    exact State.WarmedH.trans (t := s.setVm vm) (a5 z) X.warmed
theorem g_return {pc : Nat} {L : Array Slot} (W : Wk p l e R s m args below meth c y bc mL none Z a0 EL nw h0 T h fr ce sl) (hd : decode bc pc = .ok (.return_, 1)) (hK : Keep h0 h fr0) (hQ : Q none h) (hc : ce ≤ rm.cells) (hs : sl ≤ rm.slots) : Goes p e below s Z EL nw h0 fr0 Q rm T (mkF m pc L []) :=
  fin W (fun _ => rfl) hK hQ hc hs fun locs vm X hrt fs q => X.returnOut W.hx hrt (hb W.hby hd) q
theorem g_areturn {pc : Nat} {L : Array Slot} {S : List Value} {w : Value} {t : FieldType} (W : Wk p l e R s m args below meth c y bc mL (some t) Z a0 EL nw h0 T h fr ce sl) (hd : decode bc pc = .ok (.areturn, 1)) (ht : t.isReference = true) (hw : w.isRef = true) (hn : narrow t w = w) (hK : Keep h0 h fr0) (hQ : Q (some w) h) (hc : ce ≤ rm.cells) (hs : sl ≤ rm.slots) : Goes p e below s Z EL nw h0 fr0 Q rm T (mkF m pc L (w :: S)) :=
  fin W (fun z => nomatch z) hK hQ hc hs fun locs vm X hrt fs q => retOut X W.hx hrt hn (Or.inr (Or.inr (Or.inr (Or.inr ⟨rfl, ht, hw⟩)))) (hb W.hby hd) q
theorem g_ireturn {pc : Nat} {L : Array Slot} {S : List Value} {z : Int32} {t : FieldType} (W : Wk p l e R s m args below meth c y bc mL (some t) Z a0 EL nw h0 T h fr ce sl) (hd : decode bc pc = .ok (.ireturn, 1)) (ht : t = .int ∨ t = .boolean ∨ t = .byte ∨ t = .char ∨ t = .short) (hn : narrow t (.int z) = .int z) (hK : Keep h0 h fr0) (hQ : Q (some (.int z)) h) (hc : ce ≤ rm.cells) (hs : sl ≤ rm.slots) : Goes p e below s Z EL nw h0 fr0 Q rm T (mkF m pc L (.int z :: S)) :=
  fin W (fun z => nomatch z) hK hQ hc hs fun locs vm X hrt fs q => retOut X W.hx hrt hn (Or.inl ⟨rfl, ht, z, rfl⟩) (hb W.hby hd) q
theorem g_ireturnN {pc : Nat} {L : Array Slot} {S : List Value} {z : Int32} {t : FieldType} (W : Wk p l e R s m args below meth c y bc mL (some t) Z a0 EL nw h0 T h fr ce sl) (hd : decode bc pc = .ok (.ireturn, 1)) (ht : t = .boolean ∨ t = .byte ∨ t = .char ∨ t = .short) (hK : Keep h0 h fr0) (hQ : Q (some (.int (RoadKit.nar t z))) h) (hc : ce ≤ rm.cells) (hs : sl ≤ rm.slots) : Goes p e below s Z EL nw h0 fr0 Q rm T (mkF m pc L (.int z :: S)) :=
  fin W (fun z => nomatch z) hK hQ hc hs fun locs vm X hrt fs q => retN X W.hx hrt ht (hb W.hby hd) q
/-- a step that writes nothing of the heap: a new Stand at the same heap -/
theorem Wk.same {T' : State} (W : Wk p l e R s m args below meth c y bc mL rt Z a0 EL nw h0 T h fr ce sl) (q : ∀ vm locs, Z.Warmed39 vm → vm.findClass y.cls = some m.cls → Stand p l e R (s.setVm vm) m args below meth c T locs ce sl → Stand p l e R (s.setVm vm) m args below meth c T' locs ce sl) (e' : T'.heap = h) : Wk p l e R s m args below meth c y bc mL rt Z a0 EL nw h0 T' h fr ce sl := by
  obtain ⟨vm, k, locs, X, eT, w2, w3, w4, w5⟩ := W
  exact ⟨vm, k, locs, q vm locs w2.2.2.1 w2.2.2.2.1 X, e', w2, w3, w4, w5⟩
theorem g_getfield (W : Wk p l e R s m args below meth c y bc mL rt Z a0 EL nw h0 T h fr ce sl) {R0 O n d host : String} {index pc pc' : Nat} {L : Array Slot} {S : List Value} {a : Addr} {v : Value} (hd : decode bc pc = .ok (.getfield index, 3)) (hp : pc + 3 = pc') (w : (Jvm.Cond.fieldLink y.cls index R0 n d).before a0 Z = true ∨ (Jvm.Cond.fieldLinkNest y.cls index R0 n d host).before a0 Z = true) (via : Via Z R0 O n d) (F : Fld Z h a O n d v)
    (K : ∀ T', Wk p l e R s m args below meth c y bc mL rt Z a0 EL nw h0 T' h fr ce sl → Goes p e below s Z EL nw h0 fr0 Q rm T' (mkF m pc' L (v :: S))) : Goes p e below s Z EL nw h0 fr0 Q rm T (mkF m pc L (.ref a :: S)) := by
  have hx := W.hx
  have hby := W.hby
  obtain ⟨vm, k, locs, X, eT, w2, w3, w4, w5⟩ := W
  subst hp
  obtain ⟨T', X', e', st⟩ := getF X hx w2.2.2.1 (own := y.cls) w2.2.2.2.1 w via eT F (g := mkF m pc L (.ref a :: S)) rfl rfl (hb hby hd)
  exact Goes.step st (K T' ⟨vm, k, locs, X', e', w2, w3, w4, w5⟩)
theorem g_getstatic (W : Wk p l e R s m args below meth c y bc mL rt Z a0 EL nw h0 T h fr ce sl) {R0 O n d : String} {index pc pc' : Nat} {L : Array Slot} {S : List Value} {v : Value} (hd : decode bc pc = .ok (.getstatic index, 3)) (hp : pc + 3 = pc') (w : (Jvm.Cond.fieldLink y.cls index R0 n d).before a0 Z = true) (via : Via Z R0 O n d) (F : Sta Z Z.heap O n d v)
    (K : ∀ T', Wk p l e R s m args below meth c y bc mL rt Z a0 EL nw h0 T' h fr ce sl → Goes p e below s Z EL nw h0 fr0 Q rm T' (mkF m pc' L (v :: S))) : Goes p e below s Z EL nw h0 fr0 Q rm T (mkF m pc L S) := by
  have hx := W.hx
  have hby := W.hby
  have hE := W.ext
  obtain ⟨vm, k, locs, X, eT, w2, w3, w4, w5⟩ := W
  subst hp
  obtain ⟨T', X', e', st⟩ := getS X hx w2.2.2.1 (own := y.cls) (host := "") w2.2.2.2.1 w via eT (F.ext hE) (g := mkF m pc L S) rfl (hb hby hd)
  exact Goes.step st (K T' ⟨vm, k, locs, X', e', w2, w3, w4, w5⟩)
theorem g_checkcast (W : Wk p l e R s m args below meth c y bc mL rt Z a0 EL nw h0 T h fr ce sl) {K0 : String} {index pc pc' : Nat} {L : Array Slot} {S : List Value} {a : Addr} (hd : decode bc pc = .ok (.checkcast index, 3)) (hp : pc + 3 = pc') (w : (Jvm.Cond.classLink y.cls index K0).before a0 Z = true) (F : Ins Z h a K0 true)
    (K : ∀ T', Wk p l e R s m args below meth c y bc mL rt Z a0 EL nw h0 T' h fr ce sl → Goes p e below s Z EL nw h0 fr0 Q rm T' (mkF m pc' L (.ref a :: S))) : Goes p e below s Z EL nw h0 fr0 Q rm T (mkF m pc L (.ref a :: S)) := by
  have hx := W.hx
  have hby := W.hby
  obtain ⟨vm, k, locs, X, eT, w2, w3, w4, w5⟩ := W
  subst hp
  obtain ⟨T', X', e', st⟩ := castY X hx w2.2.2.1 (own := y.cls) w2.2.2.2.1 w eT F (g := mkF m pc L (.ref a :: S)) rfl rfl (hb hby hd)
  exact Goes.step st (K T' ⟨vm, k, locs, X', e', w2, w3, w4, w5⟩)
theorem g_instY (W : Wk p l e R s m args below meth c y bc mL rt Z a0 EL nw h0 T h fr ce sl) {K0 : String} {index pc pc' : Nat} {L : Array Slot} {S : List Value} {a : Addr} (hd : decode bc pc = .ok (.instanceof index, 3)) (hp : pc + 3 = pc') (w : (Jvm.Cond.classLink y.cls index K0).before a0 Z = true) (F : Ins Z h a K0 true)
    (K : ∀ T', Wk p l e R s m args below meth c y bc mL rt Z a0 EL nw h0 T' h fr ce sl → Goes p e below s Z EL nw h0 fr0 Q rm T' (mkF m pc' L (.int 1 :: S))) : Goes p e below s Z EL nw h0 fr0 Q rm T (mkF m pc L (.ref a :: S)) := by
  have hx := W.hx
  have hby := W.hby
  obtain ⟨vm, k, locs, X, eT, w2, w3, w4, w5⟩ := W
  subst hp
  obtain ⟨T', X', e', st⟩ := instY X hx w2.2.2.1 (own := y.cls) w2.2.2.2.1 w eT F (g := mkF m pc L (.ref a :: S)) rfl rfl (hb hby hd)
  exact Goes.step st (K T' ⟨vm, k, locs, X', e', w2, w3, w4, w5⟩)
theorem g_initO (W : Wk p l e R s m args below meth c y bc mL rt Z a0 EL nw h0 T h fr ce sl) {idx pc pc' Wd : Nat} {L : Array Slot} {S : List Value} {a : Addr} (hd : decode bc pc = .ok (.invokespecial idx, 3)) (hp : pc + 3 = pc') (w1 : (Jvm.Cond.methodLink y.cls idx Lib.objectInit).before a0 Z = true) (w2 : (Jvm.Cond.instanceMethod Lib.objectInit).before a0 Z = true) (w3 : (Jvm.Cond.code Lib.objectInit ⟨#[0xb1]⟩ 1 none).before a0 Z = true)
    (hL : L.size = mL) (hW : (S.map fun v => v.category).sum = Wd) (hf : 1 ≤ R.frames) (hl : Wd + 12 ≤ R.locals)
    (K : ∀ T', Wk p l e R s m args below meth c y bc mL rt Z a0 EL nw h0 T' h fr ce sl → Goes p e below s Z EL nw h0 fr0 Q rm T' (mkF m pc' L S)) : Goes p e below s Z EL nw h0 fr0 Q rm T (mkF m pc L (.ref a :: S)) := by
  have hx := W.hx
  have hby := W.hby
  have hml := W.hml
  obtain ⟨vm, k, locs, X, eT, q2, q3, q4, q5⟩ := W
  subst hp
  obtain ⟨T', X', e', st⟩ := initO X hx q2.2.2.1 (own := y.cls) q2.2.2.2.1 w1 w2 w3 eT (g := mkF m pc L (.ref a :: S)) rfl (by rw [hml]; exact hL) rfl (hb hby hd) hf (W := Wd) (by show 2 * 0 + _ ≤ _; rw [hW]; exact Nat.le_of_eq (Nat.zero_add _)) hl
  exact Goes.step st (K T' ⟨vm, k, locs, X', e', q2, q3, q4, q5⟩)
/-- a fresh place may be written -/
theorem g_new (W : Wk p l e R s m args below meth c y bc mL rt Z a0 EL nw h0 T h fr ce sl) {C : String} {index n pc pc' : Nat} {L : Array Slot} {S : List Value} (hd : decode bc pc = .ok (.new index, 3)) (hp : pc + 3 = pc') (w : (Jvm.Cond.classLink y.cls index C).before a0 Z = true) (wi : (Jvm.Cond.instantiable C n).before a0 Z = true) (wz : (Jvm.Cond.initialized C).before a0 Z = true) (hc : ce + 1 ≤ R.cells) (hs : sl + n ≤ R.slots)
    (K : ∀ T' h' a, a = h.size → Wk p l e R s m args below meth c y bc mL rt Z a0 EL nw h0 T' h' (a :: fr) (ce + 1) (sl + n) → Ext h h' → Exa Z h' a C → (∀ {O nm d : String} {ty : FieldType}, Laid Z a0 C O nm d → parseFieldDescriptor d = some ty → Fld Z h' a O nm d (defaultValue ty)) → Goes p e below s Z EL nw h0 fr0 Q rm T' (mkF m pc' L (.ref a :: S))) : Goes p e below s Z EL nw h0 fr0 Q rm T (mkF m pc L S) := by
  have hx := W.hx
  have hby := W.hby
  have hE := W.ext
  obtain ⟨vm, k, locs, X, eT, q2, q3, q4, q5⟩ := W
  subst hp
  obtain ⟨T', h', X', e', E, A, D, -, st⟩ := newO X hx q2.2.2.1 (own := y.cls) q2.2.2.2.1 w wi wz eT (g := mkF m pc L S) rfl (hb hby hd) hc hs
  refine Goes.step st (K T' h' _ rfl ⟨vm, k, locs, X', e', ⟨q2.1, Nat.le_trans q2.2.1 E.1, q2.2.2⟩, ⟨q3.1, q3.2.trans (CHr.ext E q3.2.1)⟩, ⟨q4.1, ⟨Nat.le_trans hE.1 E.1, fun a c q => E.2 a c (hE.2 a c q)⟩, fun x hx => ?_⟩, q5⟩ E A D)
  rcases List.mem_cons.mp hx with rfl | hx
  · exact ⟨hE.1, A.lt, (Safe.new (Nat.le_refl _)).ext E q3.2.1⟩
  · exact ⟨(q4.2.2 x hx).1, Nat.lt_of_lt_of_le (q4.2.2 x hx).2.1 E.1, (q4.2.2 x hx).2.2.ext E q3.2.1⟩
theorem g_newarray (W : Wk p l e R s m args below meth c y bc mL rt Z a0 EL nw h0 T h fr ce sl) {aty : ArrayType} {pc pc' cap : Nat} {L : Array Slot} {S : List Value} {n : Int32} (hd : decode bc pc = .ok (.newarray aty, 2)) (hp : pc + 2 = pc') (w : (Jvm.Cond.arrayClass (newarray.typeOf aty)).before a0 Z = true) (hn : ¬ n < 0) (hcap : n.toNatClampNeg ≤ cap) (hbig : cap * 8 ≤ 536870912) (hc : ce + 1 ≤ R.cells) (hs : sl + cap ≤ R.slots)
    (K : ∀ T' h' a kA, a = h.size → Wk p l e R s m args below meth c y bc mL rt Z a0 EL nw h0 T' h' (a :: fr) (ce + 1) (sl + cap) → Ext h h' → Arv Z h' a kA (newarray.typeOf aty) n [] (defaultValue (newarray.typeOf aty)) → Goes p e below s Z EL nw h0 fr0 Q rm T' (mkF m pc' L (.ref a :: S))) : Goes p e below s Z EL nw h0 fr0 Q rm T (mkF m pc L (.int n :: S)) := by
  have hx := W.hx
  have hby := W.hby
  have hE := W.ext
  obtain ⟨vm, k, locs, X, eT, q2, q3, q4, q5⟩ := W
  subst hp
  obtain ⟨T', h', kA, X', e', E, A, st⟩ := newP X hx q2.2.2.1 w eT (g := mkF m pc L (.int n :: S)) rfl (hb hby hd) rfl hn hcap hbig hc hs
  refine Goes.step st (K T' h' _ kA rfl ⟨vm, k, locs, X', e', ⟨q2.1, Nat.le_trans q2.2.1 E.1, q2.2.2⟩, ⟨q3.1, q3.2.trans (CHr.ext E q3.2.1)⟩, ⟨q4.1, ⟨Nat.le_trans hE.1 E.1, fun a c q => E.2 a c (hE.2 a c q)⟩, fun x hx => ?_⟩, q5⟩ E (Arv.new A hn))
  rcases List.mem_cons.mp hx with rfl | hx
  · exact ⟨hE.1, A.lt, (Safe.new (Nat.le_refl _)).ext E q3.2.1⟩
  · exact ⟨(q4.2.2 x hx).1, Nat.lt_of_lt_of_le (q4.2.2 x hx).2.1 E.1, (q4.2.2 x hx).2.2.ext E q3.2.1⟩
/-- behind one write -/
theorem Wk.wrote {vm : Vm} {k : Nat} {locs : List Loc} {a : Addr} {j : Nat} {v : Value} (hm : a ∈ fr) (Wr0 : Wr h h' a j v)
    (X' : Stand p l e R (s.setVm vm) m args below meth c T' (locs ++ [⟨a, j⟩]) ce sl) (e' : T'.heap = h') (q2 : s.Since vm k ∧ k ≤ h.size ∧ Z.Warmed39 vm ∧ vm.findClass y.cls = some m.cls ∧ (nw = true → s.WarmedH vm)) (q3 : EW Z a0 EL ∧ CHr Z EL s.vm h0 vm h) (q4 : Fr Z.heap.size locs ∧ Ext Z.heap h ∧ ∀ x ∈ fr, Z.heap.size ≤ x ∧ x < h.size ∧ Safe Z EL vm h x) (q5 : p.tables.exec = Jvm.exec ∧ c.code = bc ∧ c.maxLocals = mL ∧ meth.sig.returnType = rt ∧ meth.locks = false ∧ meth.name = y.name) :
    Wk p l e R s m args below meth c y bc mL rt Z a0 EL nw h0 T' h' fr ce sl := by
  have hS := (q4.2.2 a hm).2.2
  have K0 := Keep.of_wr Wr0
  exact ⟨vm, k, _, X', e', ⟨q2.1, Nat.le_trans q2.2.1 K0.1, q2.2.2⟩, ⟨q3.1, q3.2.trans (CHr.wr Wr0 hS q3.2.1)⟩, ⟨Fr.snoc X' q4.1 (q4.2.2 a hm).1, ((show Old Z Z.heap.size h from ⟨rfl, q4.2.1⟩).wr Wr0 (q4.2.2 a hm).1).2, fun x hx => ⟨(q4.2.2 x hx).1, Nat.lt_of_lt_of_le (q4.2.2 x hx).2.1 K0.1, Safe.wr Wr0 hS q3.2.1 (q4.2.2 x hx).2.2⟩⟩, q5⟩
theorem g_putfield (W : Wk p l e R s m args below meth c y bc mL rt Z a0 EL nw h0 T h fr ce sl) {R0 O n d host C : String} {index kk pc pc' : Nat} {ty : FieldType} {L : Array Slot} {S : List Value} {a : Addr} {v old : Value} (hd : decode bc pc = .ok (.putfield index, 3)) (hp : pc + 3 = pc') (w : (Jvm.Cond.fieldLink y.cls index R0 n d).before a0 Z = true ∨ (Jvm.Cond.fieldLinkNest y.cls index R0 n d host).before a0 Z = true) (via : Via Z R0 O n d) (F : Fld Z h a O n d old) (E : Exa Z h a C)
    (Lw : (Jvm.Cond.lays C O n d).before a0 Z = true ∨ ((Jvm.Cond.laysFinal C O n d).before a0 Z = true ∧ y.cls = O ∧ y.name = "<init>")) (wi : (Jvm.Cond.instantiable C kk).before a0 Z = true) (hty : parseFieldDescriptor d = some ty) (hn : narrow ty v = v) (hf : fits ty v = true) (hm : a ∈ fr)
    (K : ∀ T' h', Wk p l e R s m args below meth c y bc mL rt Z a0 EL nw h0 T' h' fr ce sl → Wr h h' a (RoadKit.slotOf Z O n d) v → Goes p e below s Z EL nw h0 fr0 Q rm T' (mkF m pc' L S)) : Goes p e below s Z EL nw h0 fr0 Q rm T (mkF m pc L (v :: .ref a :: S)) := by
  have hx := W.hx
  have hby := W.hby
  obtain ⟨vm, k, locs, X, eT, q2, q3, q4, q5⟩ := W
  subst hp
  obtain ⟨T', h', X', e', W', st⟩ := putF X hx q2.2.2.1 (own := y.cls) q2.2.2.2.1 w via eT F E (Lw.imp id fun z => ⟨z.1, z.2.1, q5.2.2.2.2.2.trans z.2.2⟩) wi hty hn hf (g := mkF m pc L (v :: .ref a :: S)) rfl rfl (hb hby hd)
  exact Goes.step st (K T' h' (Wk.wrote hm W' X' e' q2 q3 q4 q5) W')
theorem g_castore (W : Wk p l e R s m args below meth c y bc mL rt Z a0 EL nw h0 T h fr ce sl) {pc pc' i : Nat} {kA : ClassId} {L : Array Slot} {S : List Value} {a : Addr} {j x x' n : Int32} {vs : List Value} {dv : Value} (hd : decode bc pc = .ok (.castore, 1)) (hp : pc + 1 = pc') (hx' : RoadKit.nar .char x = x') (A : Arv Z h a kA .char n vs dv) (hj : ¬ j < 0 ∧ j < n) (hi : j.toNatClampNeg = i) (hl : i < vs.length) (hm : a ∈ fr)
    (K : ∀ T' h', Wk p l e R s m args below meth c y bc mL rt Z a0 EL nw h0 T' h' fr ce sl → Wr h h' a j.toNatClampNeg (.int x') → Arv Z h' a kA .char n (vs.set i (.int x')) dv → Goes p e below s Z EL nw h0 fr0 Q rm T' (mkF m pc' L S)) : Goes p e below s Z EL nw h0 fr0 Q rm T (mkF m pc L (.int x :: .int j :: .ref a :: S)) := by
  have hx := W.hx
  have hby := W.hby
  obtain ⟨vm, k, locs, X, eT, q2, q3, q4, q5⟩ := W
  subst hp hx'
  obtain ⟨cl, A1, A2, A3, A4, A5, A6⟩ := A
  obtain ⟨T', h', X', e', W', st⟩ := stC X hx q2.2.2.1 eT A1 (j := j) (x := x) (inb_of A3 hj) (g := mkF m pc L (.int x :: .int j :: .ref a :: S)) rfl rfl (hb hby hd)
  exact Goes.step st (K T' h' (Wk.wrote hm W' X' e' q2 q3 q4 q5) W' (Arv.set A1 A2 A3 A4 A5 A6 (fits_nar_char _) W' i hi hl))
theorem g_bastore (W : Wk p l e R s m args below meth c y bc mL rt Z a0 EL nw h0 T h fr ce sl) {pc pc' i : Nat} {kA : ClassId} {L : Array Slot} {S : List Value} {a : Addr} {j x x' n : Int32} {vs : List Value} {dv : Value} (hd : decode bc pc = .ok (.bastore, 1)) (hp : pc + 1 = pc') (hx' : RoadKit.nar .byte x = x') (A : Arv Z h a kA .byte n vs dv) (hj : ¬ j < 0 ∧ j < n) (hi : j.toNatClampNeg = i) (hl : i < vs.length) (hm : a ∈ fr)
    (K : ∀ T' h', Wk p l e R s m args below meth c y bc mL rt Z a0 EL nw h0 T' h' fr ce sl → Wr h h' a j.toNatClampNeg (.int x') → Arv Z h' a kA .byte n (vs.set i (.int x')) dv → Goes p e below s Z EL nw h0 fr0 Q rm T' (mkF m pc' L S)) : Goes p e below s Z EL nw h0 fr0 Q rm T (mkF m pc L (.int x :: .int j :: .ref a :: S)) := by
  have hx := W.hx
  have hby := W.hby
  obtain ⟨vm, k, locs, X, eT, q2, q3, q4, q5⟩ := W
  subst hp hx'
  obtain ⟨cl, A1, A2, A3, A4, A5, A6⟩ := A
  obtain ⟨T', h', X', e', W', st⟩ := stB X hx q2.2.2.1 eT A1 (j := j) (x := x) (inb_of A3 hj) (g := mkF m pc L (.int x :: .int j :: .ref a :: S)) rfl rfl (hb hby hd)
  exact Goes.step st (K T' h' (Wk.wrote hm W' X' e' q2 q3 q4 q5) W' (Arv.set A1 A2 A3 A4 A5 A6 (fits_nar_byte _) W' i hi hl))
theorem g_arraylength (W : Wk p l e R s m args below meth c y bc mL rt Z a0 EL nw h0 T h fr ce sl) {pc pc' : Nat} {kA : ClassId} {ty : FieldType} {L : Array Slot} {S vs : List Value} {a : Addr} {n : Int32} {dv : Value} (hd : decode bc pc = .ok (.arraylength, 1)) (hp : pc + 1 = pc') (A : Arv Z h a kA ty n vs dv) (K : Goes p e below s Z EL nw h0 fr0 Q rm T (mkF m pc' L (.int n :: S))) : Goes p e below s Z EL nw h0 fr0 Q rm T (mkF m pc L (.ref a :: S)) := by
  have hx := W.hx
  have hby := W.hby
  obtain ⟨vm, k, locs, X, eT, q2, q3, q4, q5⟩ := W
  subst hp
  obtain ⟨cl, A1, A2, A3, A4, A5, A6⟩ := A
  refine Goes.step (fun t q => X.arraylength hx (by rw [eT]; exact A1.1) (State.isArrayOf_alike q2.2.2.1.alike A1.2.1) (g := mkF m pc L (.ref a :: S)) rfl rfl (hb hby hd) t ?_) K
  rw [len_of A3 A4]; exact q
theorem g_caload (W : Wk p l e R s m args below meth c y bc mL rt Z a0 EL nw h0 T h fr ce sl) {pc pc' : Nat} {kA : ClassId} {L : Array Slot} {S vs : List Value} {a : Addr} {n j : Int32} {dv v : Value} (hd : decode bc pc = .ok (.caload, 1)) (hp : pc + 1 = pc') (A : Arv Z h a kA .char n vs dv) (hj : ¬ j < 0 ∧ j < n) (hv : vs.getD j.toNatClampNeg dv = v) (K : Goes p e below s Z EL nw h0 fr0 Q rm T (mkF m pc' L (v :: S))) : Goes p e below s Z EL nw h0 fr0 Q rm T (mkF m pc L (.int j :: .ref a :: S)) := by
  have hx := W.hx
  have hby := W.hby
  obtain ⟨vm, k, locs, X, eT, q2, q3, q4, q5⟩ := W
  subst hp
  obtain ⟨cl, A1, A2, A3, A4, A5, A6⟩ := A
  exact Goes.step (fun t q => X.caload hx (j := j) (v := v) (by rw [eT]; exact A1.1) (State.isArrayOf_alike q2.2.2.1.alike A1.2.1) A1.2.2 (inb_of A3 hj) (A5.at (inb_of A3 hj) hv) (g := mkF m pc L (.int j :: .ref a :: S)) rfl rfl (hb hby hd) t q) K
theorem g_baload (W : Wk p l e R s m args below meth c y bc mL rt Z a0 EL nw h0 T h fr ce sl) {pc pc' : Nat} {kA : ClassId} {L : Array Slot} {S vs : List Value} {a : Addr} {n j : Int32} {dv v : Value} (hd : decode bc pc = .ok (.baload, 1)) (hp : pc + 1 = pc') (A : Arv Z h a kA .byte n vs dv) (hj : ¬ j < 0 ∧ j < n) (hv : vs.getD j.toNatClampNeg dv = v) (K : Goes p e below s Z EL nw h0 fr0 Q rm T (mkF m pc' L (v :: S))) : Goes p e below s Z EL nw h0 fr0 Q rm T (mkF m pc L (.int j :: .ref a :: S)) := by
  have hx := W.hx
  have hby := W.hby
  obtain ⟨vm, k, locs, X, eT, q2, q3, q4, q5⟩ := W
  subst hp
  obtain ⟨cl, A1, A2, A3, A4, A5, A6⟩ := A
  exact Goes.step (fun t q => X.baloadBytes hx (j := j) (v := v) (by rw [eT]; exact A1.1) (State.isArrayOf_alike q2.2.2.1.alike A1.2.1) A1.2.2 (inb_of A3 hj) (A5.at (inb_of A3 hj) hv) (g := mkF m pc L (.int j :: .ref a :: S)) rfl rfl (hb hby hd) t q) K
theorem g_aaload (W : Wk p l e R s m args below meth c y bc mL rt Z a0 EL nw h0 T h fr ce sl) {pc pc' : Nat} {kA : ClassId} {ty : FieldType} {L : Array Slot} {S vs : List Value} {a : Addr} {n j : Int32} {dv v : Value} (hd : decode bc pc = .ok (.aaload, 1)) (hp : pc + 1 = pc') (A : Arv Z h a kA ty n vs dv) (hty : ty.isReference = true) (hj : ¬ j < 0 ∧ j < n) (hv : vs.getD j.toNatClampNeg dv = v) (K : Goes p e below s Z EL nw h0 fr0 Q rm T (mkF m pc' L (v :: S))) : Goes p e below s Z EL nw h0 fr0 Q rm T (mkF m pc L (.int j :: .ref a :: S)) := by
  have hx := W.hx
  have hby := W.hby
  obtain ⟨vm, k, locs, X, eT, q2, q3, q4, q5⟩ := W
  subst hp
  obtain ⟨cl, A1, A2, A3, A4, A5, A6⟩ := A
  exact Goes.step (fun t q => X.aaload hx (j := j) (v := v) (by rw [eT]; exact A1.1) (State.isArrayOf_alike q2.2.2.1.alike A1.2.1) hty A1.2.2 (inb_of A3 hj) (A5.at (inb_of A3 hj) hv) (g := mkF m pc L (.int j :: .ref a :: S)) rfl rfl (hb hby hd) t q) K
theorem g_irem (W : Wk p l e R s m args below meth c y bc mL rt Z a0 EL nw h0 T h fr ce sl) {pc pc' : Nat} {L : Array Slot} {S : List Value} {x z : Int32} (hd : decode bc pc = .ok (.irem, 1)) (hp : pc + 1 = pc') (hz : z ≠ 0) (K : Goes p e below s Z EL nw h0 fr0 Q rm T (mkF m pc' L (.int (x % z) :: S))) : Goes p e below s Z EL nw h0 fr0 Q rm T (mkF m pc L (.int z :: .int x :: S)) := by
  have hx := W.hx
  have hby := W.hby
  obtain ⟨vm, k, locs, X, -⟩ := W
  subst hp
  exact Goes.step (fun t q => iremM X hx (g := mkF m pc L (.int z :: .int x :: S)) rfl (hb hby hd) rfl hz q) K
theorem g_ldcI (W : Wk p l e R s m args below meth c y bc mL rt Z a0 EL nw h0 T h fr ce sl) {pc pc' index : Nat} {L : Array Slot} {S : List Value} {v : Int32} (hd : decode bc pc = .ok (.ldc index, 2)) (hp : pc + 2 = pc') (w : (Jvm.Cond.constant y.cls index v).before a0 Z = true) (K : Goes p e below s Z EL nw h0 fr0 Q rm T (mkF m pc' L (.int v :: S))) : Goes p e below s Z EL nw h0 fr0 Q rm T (mkF m pc L S) := by
  have hx := W.hx
  have hby := W.hby
  obtain ⟨vm, k, locs, X, eT, q2, q3, q4, q5⟩ := W
  subst hp
  exact Goes.step (fun t q => X.ldcI hx (own := y.cls) q2.2.2.2.1 (mvT q2.2.2.1 w) (g := mkF m pc L S) rfl (hb hby hd) q) K
end K1
section K2
variable {p : Program} {l : Launch} {e : Env} {R : Room} {s : State} {m : MethodId} {args : Array Value} {below : List Frame} {meth : Method} {c : Code} {y z : MethodName} {bc bc' : ByteArray} {mL mL' : Nat} {rt rt' : Option FieldType} {Z : State} {a0 : Array Value} {EL : List (String × Nat)} {nw : Bool} {h0 h h' : Heap} {T T' U : State} {fr fr' fr0 : List Addr} {ce sl kc ks len Wd : Nat} {rm rm' : Room} {Q Q' : Option Value → Heap → Prop} {as : Array Value}
theorem safe_at {vm vm1 : Vm} {x : Addr} (A : CHr Z EL vm h vm1 h) (S : Safe Z EL vm h x) : Safe Z EL vm1 h x := fun B => by
  rcases A.2.2 x B with q | q
  · exact S q
  · obtain ⟨cell, hc⟩ := Bk.there B
    exact absurd (Array.getElem?_eq_some_iff.mp hc).1 (Nat.not_lt.mpr q)
/-- who pays a call -/
def Pays (l : Launch) (R : Room) (p : Program) (e : Env) (below : List Frame) (s : State) (args : Array Value) (Z : State) (EL : List (String × Nat)) (nw : Bool) (y : MethodName) (len Wd : Nat) (as : Array Value) (h : Heap) (fr' : List Addr) (Q : Option Value → Heap → Prop) (kc ks : Nat) : Prop :=
  ∀ vm : Vm, Z.Warmed39 vm → CHv Z EL vm h → (∀ x ∈ fr', Safe Z EL vm h x) → BackS l R p e below (s.setVm vm) args y len Wd (fun A a => a = as ∧ A.U.heap = h ∧ A.cells + kc ≤ R.cells ∧ A.slots + ks ≤ R.slots)
    (fun A _ v B => ∃ L, (Keep h B.U.heap fr' ∧ Q v B.U.heap ∧ Fr Z.heap.size L) ∧ B.locs = A.locs ++ L ∧ B.cells = A.cells + kc ∧ B.slots = A.slots + ks ∧ CHr Z EL vm h B.U.vm B.U.heap ∧ (nw = true → (s.setVm vm).WarmedH B.U.vm))
theorem Met.pays (M : Met l Z EL nw y bc mL rt [] rm as h fr' Q) (wc : (Jvm.Cond.code y bc mL rt).before a0 Z = true) (wz : (Jvm.Cond.initialized y.cls).before a0 Z = true) (hEL : EW Z a0 EL) (hf : rm.frames + 1 ≤ R.frames) (hl : Wd + (mL + 11) + rm.locals ≤ R.locals) :
    Pays l R p e below s args Z EL nw y len Wd as h fr' Q rm.cells rm.slots := fun vm hZ H hS =>
  BackS.of_freeW (bytes := bc) (maxL := mL) (ret := rt) (E := fun _ first o t L k n => k = rm.cells ∧ n = rm.slots ∧ ∃ v, o = .returned v ∧ (Keep h t.heap fr' ∧ Q v t.heap ∧ Fr Z.heap.size L) ∧ CHr Z EL first.vm h t.vm t.heap ∧ (nw = true → first.WarmedH t.vm)) M hf hl
    (fun m meth c A a Y hp => have hU : Z.Warmed39 A.U.vm := wtrans (s := s.setVm vm) hZ Y.warmed
      ⟨by show (Jvm.Cond.and _ .tt).before a A.U = true; rw [Cond.before_and, mv hU wc]; rfl, mv hU wc, mv hU wz, hp.2.2.1, hp.2.2.2⟩)
    (fun m meth c A a g mk Y hp => by
      have C0 := CHv.at Y hZ hEL H
      exact ⟨hp.1, wtrans (s := s.setVm vm) hZ Y.warmed, hp.2.1, C0.1, fun x hx => safe_at C0 (hS x hx)⟩) (fun _ _ _ _ _ _ _ _ _ => trivial)
    (fun _ _ _ _ ⟨v, L, g1, g2, g3, g4, g5⟩ => ⟨L, _, _, g5, rfl, rfl, v, g1, g2, g3, g4⟩)
    (fun m meth c A a g mk v t L k n Y hp _ _ ⟨e1, e2, v', e3, e4, e5, e6⟩ => by
      cases e3; subst e1 e2
      exact ⟨L, e4, rfl, rfl, rfl, (CHv.at Y hZ hEL H).trans e5, fun q => State.WarmedH.trans (s := s.setVm vm) Y.warmed (e6 q)⟩)
theorem pays_back {Q0 : Option Value → Heap → List Loc → Prop} (hEL : EW Z a0 EL)
    (K : ∀ vm : Vm, Z.Warmed39 vm → Back l R p e below (s.setVm vm) args y len Wd (fun P a => a = as ∧ P.U.heap = h ∧ P.cells + kc ≤ R.cells ∧ P.slots + ks ≤ R.slots) (fun P _ v B => ∃ L, Q0 v B.U.heap L ∧ B.locs = P.locs ++ L ∧ B.cells = P.cells + kc ∧ B.slots = P.slots + ks))
    (q : ∀ v h' L, Q0 v h' L → Keep h h' fr' ∧ Q v h' ∧ Fr Z.heap.size L) : Pays l R p e below s args Z EL nw y len Wd as h fr' Q kc ks := fun vm hZ H hS m meth c A g ig mk a X hg hsize hdg hW hn hp => by
  obtain ⟨v, B, X', ⟨L, hq, e1, e2, e3⟩, st⟩ := K vm hZ m meth c A g ig mk a X hg hsize hdg hW hn hp
  obtain ⟨k1, k2, k3⟩ := q _ _ _ hq
  refine ⟨v, B, X'.retabled X'.warmed.wide, X'.warmed.since _, ?_, ⟨L, ⟨k1, k2, k3⟩, e1, e2, e3, ?_, fun _ => X'.warmed⟩, st⟩
  · rw [hp.2.1]; exact k1.1
  · exact (CHr.keep k1 hS H).trans (CHv.at X' hZ hEL (CHv.keep k1 hS H))
theorem Wk.back {vm : Vm} {k : Nat} {locs L' : List Loc} (eT : T.heap = h) (q2 : s.Since vm k ∧ k ≤ h.size ∧ Z.Warmed39 vm ∧ vm.findClass y.cls = some m.cls ∧ (nw = true → s.WarmedH vm)) (q3 : EW Z a0 EL ∧ CHr Z EL s.vm h0 vm h) (q4 : Fr Z.heap.size locs ∧ Ext Z.heap h ∧ ∀ x ∈ fr, Z.heap.size ≤ x ∧ x < h.size ∧ Safe Z EL vm h x) (q5 : p.tables.exec = Jvm.exec ∧ c.code = bc ∧ c.maxLocals = mL ∧ meth.sig.returnType = rt ∧ meth.locks = false ∧ meth.name = y.name)
    (hm : ∀ x ∈ fr', x ∈ fr) (X' : Stand p l e R ((s.setVm vm).setVm U.vm) m args below meth c U (locs ++ L') (ce + kc) (sl + ks)) (hS' : (s.setVm vm).Since U.vm U.heap.size) (hg : T.heap.size ≤ U.heap.size) (k1 : Keep h U.heap fr') (k3 : Fr Z.heap.size L') (hC : CHr Z EL vm h U.vm U.heap) (hN : nw = true → (s.setVm vm).WarmedH U.vm) :
    Wk p l e R s m args below meth c y bc mL rt Z a0 EL nw h0 U U.heap fr (ce + kc) (sl + ks) :=
  ⟨U.vm, U.heap.size, locs ++ L', X', rfl, ⟨q2.1.trans hS' (Nat.le_trans q2.2.1 (eT ▸ hg)), Nat.le_refl _, State.Warmed39.trans (t := s.setVm vm) q2.2.2.1 hS'.1, (hS'.1.alike.findClass _ _).trans q2.2.2.2.1, fun w => State.WarmedH.trans (t := s.setVm vm) (q2.2.2.2.2 w) (hN w)⟩,
    ⟨q3.1, q3.2.trans hC⟩, ⟨q4.1.app k3, ((show Old Z Z.heap.size h from ⟨rfl, q4.2.1⟩).keep k1 fun x hx => (q4.2.2 x (hm x hx)).1).2, fun x hx => ⟨(q4.2.2 x hx).1, Nat.lt_of_lt_of_le (q4.2.2 x hx).2.1 k1.1, hC.safe (q4.2.2 x hx).2.1 (q4.2.2 x hx).2.2⟩⟩, q5⟩
theorem g_static (W : Wk p l e R s m args below meth c y bc mL rt Z a0 EL nw h0 T h fr ce sl) {index pc pc' : Nat} {L : Array Slot} {S argsL rest : List Value} (hd : decode bc pc = .ok (.invokestatic index, 3)) (hp : pc + 3 = pc')
    (wl : (Jvm.Cond.methodLink y.cls index z).before a0 Z = true) (ws : (Jvm.Cond.static z).before a0 Z = true) (wz : (Jvm.Cond.initialized z.cls).before a0 Z = true) (wc : (Jvm.Cond.code z bc' mL' rt').before a0 Z = true) (hy : z.cls ≠ "java/lang/invoke/MethodHandle" ∧ z.cls ≠ "java/lang/invoke/VarHandle")
    (hL : L.size = mL) (hSt : S = argsL.reverse ++ rest) (hlen : ∀ sig, parseMethodDescriptor z.desc = some sig → argsL.length = sig.parameters.length) (hW : (rest.map fun v => v.category).sum = Wd) (hm : ∀ x ∈ fr', x ∈ fr) (hc : ce + kc ≤ R.cells) (hs : sl + ks ≤ R.slots)
    (P : Pays l R p e below s args Z EL nw z 3 Wd argsL.toArray h fr' Q' kc ks)
    (K : ∀ v T' h', Wk p l e R s m args below meth c y bc mL rt Z a0 EL nw h0 T' h' fr (ce + kc) (sl + ks) → Keep h h' fr' → Q' v h' → Goes p e below s Z EL nw h0 fr0 Q rm T' (mkF m pc' L (v.toList ++ rest))) : Goes p e below s Z EL nw h0 fr0 Q rm T (mkF m pc L S) := by
  have hx := W.hx
  have hby := W.hby
  have hml := W.hml
  obtain ⟨vm, k, locs, X, eT, q2, q3, q4, q5⟩ := W
  subst hp
  obtain ⟨v, vm1, ⟨U, Lc, kc', ks'⟩, hv1, X', hS', hg, ⟨L', ⟨k1, k2, k3⟩, e1, e2, e3, hC, hN⟩, st⟩ := callSS X hx (own := y.cls) q2.2.2.2.1 (mvT q2.2.2.1 wl) (mvT q2.2.2.1 ws) (mvT q2.2.2.1 wz) (mvT q2.2.2.1 wc) hy (P vm q2.2.2.1 q3.2.1 fun x hx => (q4.2.2 x (hm x hx)).2.2) (g := mkF m pc L S) rfl (by rw [hml]; exact hL) (argsL := argsL) (rest := rest) hlen hSt (by show 2 * 0 + _ ≤ _; rw [hW]; exact Nat.le_of_eq (Nat.zero_add _)) (hb hby hd) (fun _ _ => ⟨rfl, eT, hc, hs⟩)
  dsimp only [Pt.U, Pt.locs, Pt.cells, Pt.slots] at X' hS' hg k1 k2 e1 e2 e3 hC hN st
  subst e1 e2 e3
  exact Goes.step (fun t q => st.trans q) (K v U U.heap (Wk.back eT q2 q3 q4 q5 hm X' hS' hg k1 k3 hC hN) k1 k2)
theorem g_special (W : Wk p l e R s m args below meth c y bc mL rt Z a0 EL nw h0 T h fr ce sl) {index pc pc' : Nat} {L : Array Slot} {S argsL rest : List Value} {a : Addr} (hd : decode bc pc = .ok (.invokespecial index, 3)) (hp : pc + 3 = pc') (hi : z.name = "<init>")
    (wl : (Jvm.Cond.methodLink y.cls index z).before a0 Z = true) (wi : (Jvm.Cond.instanceMethod z).before a0 Z = true) (wc : (Jvm.Cond.code z bc' mL' none).before a0 Z = true) (hy : z.cls ≠ "java/lang/invoke/MethodHandle" ∧ z.cls ≠ "java/lang/invoke/VarHandle")
    (hL : L.size = mL) (hSt : S = argsL.reverse ++ .ref a :: rest) (hlen : ∀ sig, parseMethodDescriptor z.desc = some sig → argsL.length = sig.parameters.length) (hW : (rest.map fun v => v.category).sum = Wd) (hm : ∀ x ∈ fr', x ∈ fr) (hc : ce + kc ≤ R.cells) (hs : sl + ks ≤ R.slots)
    (P : Pays l R p e below s args Z EL nw z 3 Wd (.ref a :: argsL).toArray h fr' Q' kc ks)
    (K : ∀ v T' h', Wk p l e R s m args below meth c y bc mL rt Z a0 EL nw h0 T' h' fr (ce + kc) (sl + ks) → Keep h h' fr' → Q' v h' → Goes p e below s Z EL nw h0 fr0 Q rm T' (mkF m pc' L (v.toList ++ rest))) : Goes p e below s Z EL nw h0 fr0 Q rm T (mkF m pc L S) := by
  have hx := W.hx
  have hby := W.hby
  have hml := W.hml
  obtain ⟨vm, k, locs, X, eT, q2, q3, q4, q5⟩ := W
  subst hp
  obtain ⟨v, vm1, ⟨U, Lc, kc', ks'⟩, hv1, X', hS', hg, ⟨L', ⟨k1, k2, k3⟩, e1, e2, e3, hC, hN⟩, st⟩ := X.specialBackS hx hi (own := y.cls) q2.2.2.2.1 (mvT q2.2.2.1 wl) (mvT q2.2.2.1 wi) (mvT q2.2.2.1 wc) hy (P vm q2.2.2.1 q3.2.1 fun x hx => (q4.2.2 x (hm x hx)).2.2) (g := mkF m pc L S) rfl (by rw [hml]; exact hL) (Steps.refl _) (a := a) (argsL := argsL) (rest := rest) hlen hSt (by show 2 * 0 + _ ≤ _; rw [hW]; exact Nat.le_of_eq (Nat.zero_add _)) (hb hby hd) (fun _ _ => ⟨rfl, eT, hc, hs⟩)
  dsimp only [Pt.U, Pt.locs, Pt.cells, Pt.slots] at X' hS' hg k1 k2 e1 e2 e3 hC hN st
  subst e1 e2 e3
  exact Goes.step (fun t q => st.trans q) (K v U U.heap (Wk.back eT q2 q3 q4 q5 hm X' hS' hg k1 k3 hC hN) k1 k2)
theorem g_virtual (W : Wk p l e R s m args below meth c y bc mL rt Z a0 EL nw h0 T h fr ce sl) {y' : MethodName} {C : String} {index pc pc' : Nat} {L : Array Slot} {S argsL rest : List Value} {a : Addr} (hd : decode bc pc = .ok (.invokevirtual index, 3)) (hp : pc + 3 = pc')
    (wl : (Jvm.Cond.methodLink y.cls index y').before a0 Z = true) (wd : (Jvm.Cond.declares y').before a0 Z = true) (ws : (Jvm.Cond.selects C y' y').before a0 Z = true) (wi : (Jvm.Cond.instanceMethod y').before a0 Z = true) (hy : y'.cls ≠ "java/lang/invoke/MethodHandle" ∧ y'.cls ≠ "java/lang/invoke/VarHandle") (E : Exa Z h a C)
    (hL : L.size = mL) (hSt : S = argsL.reverse ++ .ref a :: rest) (hlen : ∀ sig, parseMethodDescriptor y'.desc = some sig → argsL.length = sig.parameters.length) (hW : (rest.map fun v => v.category).sum = Wd) (hm : ∀ x ∈ fr', x ∈ fr) (hc : ce + kc ≤ R.cells) (hs : sl + ks ≤ R.slots)
    (P : Pays l R p e below s args Z EL nw y' 3 Wd (.ref a :: argsL).toArray h fr' Q' kc ks)
    (K : ∀ v T' h', Wk p l e R s m args below meth c y bc mL rt Z a0 EL nw h0 T' h' fr (ce + kc) (sl + ks) → Keep h h' fr' → Q' v h' → Goes p e below s Z EL nw h0 fr0 Q rm T' (mkF m pc' L (v.toList ++ rest))) : Goes p e below s Z EL nw h0 fr0 Q rm T (mkF m pc L S) := by
  have hx := W.hx
  have hby := W.hby
  have hml := W.hml
  obtain ⟨vm, k, locs, X, eT, q2, q3, q4, q5⟩ := W
  subst hp
  obtain ⟨cB, kB, r1, r2, r3⟩ := isOf (s := s.setVm vm) q2.2.2.1 eT E
  obtain ⟨v, vm1, ⟨U, Lc, kc', ks'⟩, hv1, X', hS', hg, ⟨L', ⟨k1, k2, k3⟩, e1, e2, e3, hC, hN⟩, st⟩ := X.virtualBackS hx (own := y.cls) q2.2.2.2.1 (mvT q2.2.2.1 wl) (mvT q2.2.2.1 wd) (notFace_of_selects (args := #[]) (mvT q2.2.2.1 ws)) (mvT q2.2.2.1 ws) (mvT q2.2.2.1 wi) hy (P vm q2.2.2.1 q3.2.1 fun x hx => (q4.2.2 x (hm x hx)).2.2) r1 r3 (g := mkF m pc L S) rfl (by rw [hml]; exact hL) (Steps.refl _) (argsL := argsL) (rest := rest) hlen hSt (by show 2 * 0 + _ ≤ _; rw [hW]; exact Nat.le_of_eq (Nat.zero_add _)) (hb hby hd) (fun _ _ => ⟨rfl, eT, hc, hs⟩)
  dsimp only [Pt.U, Pt.locs, Pt.cells, Pt.slots] at X' hS' hg k1 k2 e1 e2 e3 hC hN st
  subst e1 e2 e3
  exact Goes.step (fun t q => st.trans q) (K v U U.heap (Wk.back eT q2 q3 q4 q5 hm X' hS' hg k1 k3 hC hN) k1 k2)
/-- ldc of a String constant -/
theorem g_ldc (W : Wk p l e R s m args below meth c y bc mL rt Z a0 EL false h0 T h fr ce sl) {text : String} {index pc pc' n : Nat} {L : Array Slot} {S vs : List Value} {zz : Int32} (hd : decode bc pc = .ok (.ldc index, 2)) (hp : pc + 2 = pc') (w : (Jvm.Cond.stringLink y.cls index text).before a0 Z = true) (wS : ∀ a ∈ Bundle.stringAtoms, a.before a0 Z = true) (hmem : (y.cls, index) ∈ EL)
    (ht : (∀ c ∈ text.toList, c.toNat < 256) ∧ text.toList.map (fun c => Value.int (Jvm.Lit.byteI c.toNat.toUInt16)) = vs) (hz : ¬ zz < 0) (hl : zz.toNatClampNeg = vs.length) (hn : 4 * text.toList.length ≤ n) (hbig : n ≤ 536870912) (hc : ce + 2 ≤ R.cells) (hs : sl + (n + 4) ≤ R.slots)
    (K : ∀ T' h' a b k, Wk p l e R s m args below meth c y bc mL rt Z a0 EL false h0 T' h' fr (ce + 2) (sl + (n + 4)) → Ext h h' → Exa Z h' a "java/lang/String" → Fld Z h' a "java/lang/String" "coder" "B" (.int 0) → Fld Z h' a "java/lang/String" "value" "[B" (.ref b) → Arv Z h' b k .byte zz vs (.int 0) → (∀ x ∈ fr, x ≠ a ∧ x ≠ b) → Goes p e below s Z EL false h0 fr0 Q rm T' (mkF m pc' L (.ref a :: S))) : Goes p e below s Z EL false h0 fr0 Q rm T (mkF m pc L S) := by
  have hx := W.hx
  have hby := W.hby
  obtain ⟨vm, k, locs, X, eT, q2, q3, q4, q5⟩ := W
  subst hp
  obtain ⟨a, T', h', k1, b, kb, X', e', E, hS, hk, hZ, hf, x1, x2, x3, x4, x5, x6, hC, -, hne, st⟩ := ldcCH X hx q2.2.2.1 (own := y.cls) q2.2.2.2.1 w wS eT q2.1 q2.2.1 q3.1 hmem q3.2.1 ht hz hl (g := mkF m pc L S) rfl (hb hby hd) hn hbig hc hs
  have hfr : ∀ x ∈ fr, Safe Z EL T'.vm h' x := fun x hx => hC.safe (q4.2.2 x hx).2.1 (q4.2.2 x hx).2.2
  exact Goes.step st (K T' h' a b kb ⟨T'.vm, k1, locs, X', e', ⟨hS, hk, hZ, hf, fun w => nomatch w⟩, ⟨q3.1, q3.2.trans hC⟩, ⟨q4.1, ⟨Nat.le_trans q4.2.1.1 E.1, fun a c q => E.2 a c (q4.2.1.2 a c q)⟩, fun x hx => ⟨(q4.2.2 x hx).1, Nat.lt_of_lt_of_le (q4.2.2 x hx).2.1 E.1, hfr x hx⟩⟩, q5⟩ E x1 x2 x3 x4 fun x hx => hne x (hfr x hx))
/-- ldc of a String constant of which nothing is known -/
theorem g_ldcO (W : Wk p l e R s m args below meth c y bc mL rt Z a0 EL false h0 T h fr ce sl) {text : String} {index pc pc' n : Nat} {L : Array Slot} {S : List Value} (hd : decode bc pc = .ok (.ldc index, 2)) (hp : pc + 2 = pc') (w : (Jvm.Cond.stringLink y.cls index text).before a0 Z = true) (wS : ∀ a ∈ Bundle.stringAtoms, a.before a0 Z = true)
    (hn : 4 * text.toList.length ≤ n) (hbig : n ≤ 536870912) (hc : ce + 2 ≤ R.cells) (hs : sl + (n + 4) ≤ R.slots)
    (K : ∀ T' h' a, Wk p l e R s m args below meth c y bc mL rt Z a0 EL false h0 T' h' fr (ce + 2) (sl + (n + 4)) → Ext h h' → Goes p e below s Z EL false h0 fr0 Q rm T' (mkF m pc' L (.ref a :: S))) : Goes p e below s Z EL false h0 fr0 Q rm T (mkF m pc L S) := by
  have hx := W.hx
  have hby := W.hby
  obtain ⟨vm, k, locs, X, eT, q2, q3, q4, q5⟩ := W
  subst hp
  obtain ⟨a, T', h', k1, X', e', E, hS, hk, hZ, hf, hC, -, st⟩ := ldcOH X hx q2.2.2.1 (own := y.cls) q2.2.2.2.1 w wS eT q2.1 q2.2.1 q3.1 q3.2.1 (g := mkF m pc L S) rfl (hb hby hd) hn hbig hc hs
  have hfr : ∀ x ∈ fr, Safe Z EL T'.vm h' x := fun x hx => hC.safe (q4.2.2 x hx).2.1 (q4.2.2 x hx).2.2
  exact Goes.step st (K T' h' a ⟨T'.vm, k1, locs, X', e', ⟨hS, hk, hZ, hf, fun w => nomatch w⟩, ⟨q3.1, q3.2.trans hC⟩, ⟨q4.1, ⟨Nat.le_trans q4.2.1.1 E.1, fun a c q => E.2 a c (q4.2.1.2 a c q)⟩, fun x hx => ⟨(q4.2.2 x hx).1, Nat.lt_of_lt_of_le (q4.2.2 x hx).2.1 E.1, hfr x hx⟩⟩, q5⟩ E)
end K2
section K3
variable {p : Program} {l : Launch} {e : Env} {R : Room} {s : State} {m : MethodId} {args : Array Value} {below : List Frame} {meth : Method} {c : Code} {y : MethodName} {bc : ByteArray} {mL : Nat} {rt : Option FieldType} {Z : State} {a0 : Array Value} {EL : List (String × Nat)} {nw : Bool} {h0 h h' : Heap} {T : State} {fr fr0 : List Addr} {ce sl : Nat} {rm : Room} {Q : Option Value → Heap → Prop}
theorem g_aload_n (W : Wk p l e R s m args below meth c y bc mL rt Z a0 EL nw h0 T h fr ce sl) {pc pc' : Nat} {L : Array Slot} {S : List Value} {k : Fin 4} {v : Value} (hd : decode bc pc = .ok (.aload_n k, 1)) (hp : pc + 1 = pc') (hl : L[k.val]? = some (.val v)) (hv : v.isRef = true) (K : Goes p e below s Z EL nw h0 fr0 Q rm T (mkF m pc' L (v :: S))) : Goes p e below s Z EL nw h0 fr0 Q rm T (mkF m pc L S) := by
  subst hp
  exact Goes.step (fun _ q => XS.aloadN W.here W.hx rfl (hb W.hby hd) hl hv q) K
theorem g_aload (W : Wk p l e R s m args below meth c y bc mL rt Z a0 EL nw h0 T h fr ce sl) {pc pc' : Nat} {L : Array Slot} {S : List Value} {k : Nat} {v : Value} (hd : decode bc pc = .ok (.aload k, 2)) (hp : pc + 2 = pc') (hl : L[k]? = some (.val v)) (hv : v.isRef = true) (K : Goes p e below s Z EL nw h0 fr0 Q rm T (mkF m pc' L (v :: S))) : Goes p e below s Z EL nw h0 fr0 Q rm T (mkF m pc L S) := by
  subst hp
  exact Goes.step (fun _ q => XS.aload W.here W.hx rfl (hb W.hby hd) hl hv q) K
theorem g_iload_n (W : Wk p l e R s m args below meth c y bc mL rt Z a0 EL nw h0 T h fr ce sl) {pc pc' : Nat} {L : Array Slot} {S : List Value} {k : Fin 4} {v : Int32} (hd : decode bc pc = .ok (.iload_n k, 1)) (hp : pc + 1 = pc') (hl : L[k.val]? = some (.val (.int v))) (K : Goes p e below s Z EL nw h0 fr0 Q rm T (mkF m pc' L (.int v :: S))) : Goes p e below s Z EL nw h0 fr0 Q rm T (mkF m pc L S) := by
  subst hp
  exact Goes.step (fun _ q => XS.iloadN W.here W.hx rfl (hb W.hby hd) hl q) K
theorem g_iload (W : Wk p l e R s m args below meth c y bc mL rt Z a0 EL nw h0 T h fr ce sl) {pc pc' : Nat} {L : Array Slot} {S : List Value} {k : Nat} {v : Int32} (hd : decode bc pc = .ok (.iload k, 2)) (hp : pc + 2 = pc') (hl : L[k]? = some (.val (.int v))) (K : Goes p e below s Z EL nw h0 fr0 Q rm T (mkF m pc' L (.int v :: S))) : Goes p e below s Z EL nw h0 fr0 Q rm T (mkF m pc L S) := by
  subst hp
  exact Goes.step (fun _ q => XS.iload W.here W.hx rfl (hb W.hby hd) hl q) K
theorem g_lload_n (W : Wk p l e R s m args below meth c y bc mL rt Z a0 EL nw h0 T h fr ce sl) {pc pc' : Nat} {L : Array Slot} {S : List Value} {k : Fin 4} {v : Int64} (hd : decode bc pc = .ok (.lload_n k, 1)) (hp : pc + 1 = pc') (hl : L[k.val]? = some (.val (.long v))) (K : Goes p e below s Z EL nw h0 fr0 Q rm T (mkF m pc' L (.long v :: S))) : Goes p e below s Z EL nw h0 fr0 Q rm T (mkF m pc L S) := by
  subst hp
  exact Goes.step (fun _ q => Jvm.Free.XT.lloadN W.here W.hx rfl (hb W.hby hd) hl q) K
theorem g_lload (W : Wk p l e R s m args below meth c y bc mL rt Z a0 EL nw h0 T h fr ce sl) {pc pc' : Nat} {L : Array Slot} {S : List Value} {k : Nat} {v : Int64} (hd : decode bc pc = .ok (.lload k, 2)) (hp : pc + 2 = pc') (hl : L[k]? = some (.val (.long v))) (K : Goes p e below s Z EL nw h0 fr0 Q rm T (mkF m pc' L (.long v :: S))) : Goes p e below s Z EL nw h0 fr0 Q rm T (mkF m pc L S) := by
  subst hp
  exact Goes.step (fun _ q => Jvm.Free.XT.lload W.here W.hx rfl (hb W.hby hd) hl q) K
theorem g_iconst (W : Wk p l e R s m args below meth c y bc mL rt Z a0 EL nw h0 T h fr ce sl) {pc pc' : Nat} {L : Array Slot} {S : List Value} {i : Int} {v : Int32} (hd : decode bc pc = .ok (.iconst i, 1)) (hp : pc + 1 = pc') (hv : Int32.ofInt i = v) (K : Goes p e below s Z EL nw h0 fr0 Q rm T (mkF m pc' L (.int v :: S))) : Goes p e below s Z EL nw h0 fr0 Q rm T (mkF m pc L S) := by
  subst hp
  exact Goes.step (fun _ q => Jvm.Free.XT.iconstV W.here W.hx rfl v (hb W.hby hd) hv q) K
theorem g_bipush (W : Wk p l e R s m args below meth c y bc mL rt Z a0 EL nw h0 T h fr ce sl) {pc pc' : Nat} {L : Array Slot} {S : List Value} {i : Int} {v : Int32} (hd : decode bc pc = .ok (.bipush i, 2)) (hp : pc + 2 = pc') (hv : (Int8.ofInt i).toInt32 = v) (K : Goes p e below s Z EL nw h0 fr0 Q rm T (mkF m pc' L (.int v :: S))) : Goes p e below s Z EL nw h0 fr0 Q rm T (mkF m pc L S) := by
  subst hp
  exact Goes.step (fun _ q => Jvm.Free.XT.bipushV W.here W.hx rfl v (hb W.hby hd) hv q) K
theorem g_sipush (W : Wk p l e R s m args below meth c y bc mL rt Z a0 EL nw h0 T h fr ce sl) {pc pc' : Nat} {L : Array Slot} {S : List Value} {i : Int} {v : Int32} (hd : decode bc pc = .ok (.sipush i, 3)) (hp : pc + 3 = pc') (hv : (Int16.ofInt i).toInt32 = v) (K : Goes p e below s Z EL nw h0 fr0 Q rm T (mkF m pc' L (.int v :: S))) : Goes p e below s Z EL nw h0 fr0 Q rm T (mkF m pc L S) := by
  subst hp
  exact Goes.step (fun _ q => Jvm.Free.XT.sipushV W.here W.hx rfl v (hb W.hby hd) hv q) K
theorem g_aconst_null (W : Wk p l e R s m args below meth c y bc mL rt Z a0 EL nw h0 T h fr ce sl) {pc pc' : Nat} {L : Array Slot} {S : List Value}  (hd : decode bc pc = .ok (.aconst_null, 1)) (hp : pc + 1 = pc')  (K : Goes p e below s Z EL nw h0 fr0 Q rm T (mkF m pc' L (.null :: S))) : Goes p e below s Z EL nw h0 fr0 Q rm T (mkF m pc L S) := by
  subst hp
  exact Goes.step (fun _ q => XS.aconstNull W.here W.hx rfl (hb W.hby hd)  q) K
theorem g_iadd (W : Wk p l e R s m args below meth c y bc mL rt Z a0 EL nw h0 T h fr ce sl) {pc pc' : Nat} {L : Array Slot} {S : List Value} {x z : Int32} (hd : decode bc pc = .ok (.iadd, 1)) (hp : pc + 1 = pc')  (K : Goes p e below s Z EL nw h0 fr0 Q rm T (mkF m pc' L (.int (x + z) :: S))) : Goes p e below s Z EL nw h0 fr0 Q rm T (mkF m pc L (.int z :: .int x :: S)) := by
  subst hp
  exact Goes.step (fun _ q => XS.iadd W.here W.hx rfl (hb W.hby hd) rfl q) K
theorem g_isub (W : Wk p l e R s m args below meth c y bc mL rt Z a0 EL nw h0 T h fr ce sl) {pc pc' : Nat} {L : Array Slot} {S : List Value} {x z : Int32} (hd : decode bc pc = .ok (.isub, 1)) (hp : pc + 1 = pc')  (K : Goes p e below s Z EL nw h0 fr0 Q rm T (mkF m pc' L (.int (x - z) :: S))) : Goes p e below s Z EL nw h0 fr0 Q rm T (mkF m pc L (.int z :: .int x :: S)) := by
  subst hp
  exact Goes.step (fun _ q => XS.isub W.here W.hx rfl (hb W.hby hd) rfl q) K
theorem g_iand (W : Wk p l e R s m args below meth c y bc mL rt Z a0 EL nw h0 T h fr ce sl) {pc pc' : Nat} {L : Array Slot} {S : List Value} {x z : Int32} (hd : decode bc pc = .ok (.iand, 1)) (hp : pc + 1 = pc')  (K : Goes p e below s Z EL nw h0 fr0 Q rm T (mkF m pc' L (.int (x &&& z) :: S))) : Goes p e below s Z EL nw h0 fr0 Q rm T (mkF m pc L (.int z :: .int x :: S)) := by
  subst hp
  exact Goes.step (fun _ q => XS.iand W.here W.hx rfl (hb W.hby hd) rfl q) K
theorem g_imul (W : Wk p l e R s m args below meth c y bc mL rt Z a0 EL nw h0 T h fr ce sl) {pc pc' : Nat} {L : Array Slot} {S : List Value} {x z : Int32} (hd : decode bc pc = .ok (.imul, 1)) (hp : pc + 1 = pc')  (K : Goes p e below s Z EL nw h0 fr0 Q rm T (mkF m pc' L (.int (x * z) :: S))) : Goes p e below s Z EL nw h0 fr0 Q rm T (mkF m pc L (.int z :: .int x :: S)) := by
  subst hp
  exact Goes.step (fun _ q => XS.imul W.here W.hx rfl (hb W.hby hd) rfl q) K
theorem g_ior (W : Wk p l e R s m args below meth c y bc mL rt Z a0 EL nw h0 T h fr ce sl) {pc pc' : Nat} {L : Array Slot} {S : List Value} {x z : Int32} (hd : decode bc pc = .ok (.ior, 1)) (hp : pc + 1 = pc')  (K : Goes p e below s Z EL nw h0 fr0 Q rm T (mkF m pc' L (.int (x ||| z) :: S))) : Goes p e below s Z EL nw h0 fr0 Q rm T (mkF m pc L (.int z :: .int x :: S)) := by
  subst hp
  exact Goes.step (fun _ q => Jvm.Free.XT.ior W.here W.hx rfl (hb W.hby hd) rfl q) K
theorem g_ixor (W : Wk p l e R s m args below meth c y bc mL rt Z a0 EL nw h0 T h fr ce sl) {pc pc' : Nat} {L : Array Slot} {S : List Value} {x z : Int32} (hd : decode bc pc = .ok (.ixor, 1)) (hp : pc + 1 = pc')  (K : Goes p e below s Z EL nw h0 fr0 Q rm T (mkF m pc' L (.int (x ^^^ z) :: S))) : Goes p e below s Z EL nw h0 fr0 Q rm T (mkF m pc L (.int z :: .int x :: S)) := by
  subst hp
  exact Goes.step (fun _ q => Jvm.Free.XT.ixor W.here W.hx rfl (hb W.hby hd) rfl q) K
theorem g_ishl (W : Wk p l e R s m args below meth c y bc mL rt Z a0 EL nw h0 T h fr ce sl) {pc pc' : Nat} {L : Array Slot} {S : List Value} {x z : Int32} (hd : decode bc pc = .ok (.ishl, 1)) (hp : pc + 1 = pc')  (K : Goes p e below s Z EL nw h0 fr0 Q rm T (mkF m pc' L (.int (x <<< (z &&& 31)) :: S))) : Goes p e below s Z EL nw h0 fr0 Q rm T (mkF m pc L (.int z :: .int x :: S)) := by
  subst hp
  exact Goes.step (fun _ q => Jvm.Free.XT.ishl W.here W.hx rfl (hb W.hby hd) rfl q) K
theorem g_ishr (W : Wk p l e R s m args below meth c y bc mL rt Z a0 EL nw h0 T h fr ce sl) {pc pc' : Nat} {L : Array Slot} {S : List Value} {x z : Int32} (hd : decode bc pc = .ok (.ishr, 1)) (hp : pc + 1 = pc')  (K : Goes p e below s Z EL nw h0 fr0 Q rm T (mkF m pc' L (.int (x >>> (z &&& 31)) :: S))) : Goes p e below s Z EL nw h0 fr0 Q rm T (mkF m pc L (.int z :: .int x :: S)) := by
  subst hp
  exact Goes.step (fun _ q => Jvm.Free.XT.ishr W.here W.hx rfl (hb W.hby hd) rfl q) K
theorem g_iushr (W : Wk p l e R s m args below meth c y bc mL rt Z a0 EL nw h0 T h fr ce sl) {pc pc' : Nat} {L : Array Slot} {S : List Value} {x z : Int32} (hd : decode bc pc = .ok (.iushr, 1)) (hp : pc + 1 = pc')  (K : Goes p e below s Z EL nw h0 fr0 Q rm T (mkF m pc' L (.int ((x.toUInt32 >>> (z &&& 31).toUInt32).toInt32) :: S))) : Goes p e below s Z EL nw h0 fr0 Q rm T (mkF m pc L (.int z :: .int x :: S)) := by
  subst hp
  exact Goes.step (fun _ q => Jvm.Free.XT.iushr W.here W.hx rfl (hb W.hby hd) rfl q) K
theorem g_land (W : Wk p l e R s m args below meth c y bc mL rt Z a0 EL nw h0 T h fr ce sl) {pc pc' : Nat} {L : Array Slot} {S : List Value} {x z : Int64} (hd : decode bc pc = .ok (.land, 1)) (hp : pc + 1 = pc')  (K : Goes p e below s Z EL nw h0 fr0 Q rm T (mkF m pc' L (.long (x &&& z) :: S))) : Goes p e below s Z EL nw h0 fr0 Q rm T (mkF m pc L (.long z :: .long x :: S)) := by
  subst hp
  exact Goes.step (fun _ q => Jvm.Free.XT.land W.here W.hx rfl (hb W.hby hd) rfl q) K
theorem g_lxor (W : Wk p l e R s m args below meth c y bc mL rt Z a0 EL nw h0 T h fr ce sl) {pc pc' : Nat} {L : Array Slot} {S : List Value} {x z : Int64} (hd : decode bc pc = .ok (.lxor, 1)) (hp : pc + 1 = pc')  (K : Goes p e below s Z EL nw h0 fr0 Q rm T (mkF m pc' L (.long (x ^^^ z) :: S))) : Goes p e below s Z EL nw h0 fr0 Q rm T (mkF m pc L (.long z :: .long x :: S)) := by
  subst hp
  exact Goes.step (fun _ q => Jvm.Free.XT.lxor W.here W.hx rfl (hb W.hby hd) rfl q) K
theorem g_lushr (W : Wk p l e R s m args below meth c y bc mL rt Z a0 EL nw h0 T h fr ce sl) {pc pc' : Nat} {L : Array Slot} {S : List Value} {x : Int64} {z : Int32} (hd : decode bc pc = .ok (.lushr, 1)) (hp : pc + 1 = pc')  (K : Goes p e below s Z EL nw h0 fr0 Q rm T (mkF m pc' L (.long (Jvm.Free.XT.ushrL x z) :: S))) : Goes p e below s Z EL nw h0 fr0 Q rm T (mkF m pc L (.int z :: .long x :: S)) := by
  subst hp
  exact Goes.step (fun _ q => Jvm.Free.XT.lushr W.here W.hx rfl (hb W.hby hd) rfl q) K
theorem g_lshr (W : Wk p l e R s m args below meth c y bc mL rt Z a0 EL nw h0 T h fr ce sl) {pc pc' : Nat} {L : Array Slot} {S : List Value} {x : Int64} {z : Int32} (hd : decode bc pc = .ok (.lshr, 1)) (hp : pc + 1 = pc')  (K : Goes p e below s Z EL nw h0 fr0 Q rm T (mkF m pc' L (.long (x >>> (z.toInt64 &&& 63)) :: S))) : Goes p e below s Z EL nw h0 fr0 Q rm T (mkF m pc L (.int z :: .long x :: S)) := by
  subst hp
  exact Goes.step (fun _ q => Jvm.Free.XT.lshr W.here W.hx rfl (hb W.hby hd) rfl q) K
theorem g_l2i (W : Wk p l e R s m args below meth c y bc mL rt Z a0 EL nw h0 T h fr ce sl) {pc pc' : Nat} {L : Array Slot} {S : List Value} {x : Int64} (hd : decode bc pc = .ok (.l2i, 1)) (hp : pc + 1 = pc')  (K : Goes p e below s Z EL nw h0 fr0 Q rm T (mkF m pc' L (.int x.toInt32 :: S))) : Goes p e below s Z EL nw h0 fr0 Q rm T (mkF m pc L (.long x :: S)) := by
  subst hp
  exact Goes.step (fun _ q => Jvm.Free.XT.l2i W.here W.hx rfl (hb W.hby hd) rfl q) K
theorem g_i2l (W : Wk p l e R s m args below meth c y bc mL rt Z a0 EL nw h0 T h fr ce sl) {pc pc' : Nat} {L : Array Slot} {S : List Value} {x : Int32} (hd : decode bc pc = .ok (.i2l, 1)) (hp : pc + 1 = pc')  (K : Goes p e below s Z EL nw h0 fr0 Q rm T (mkF m pc' L (.long x.toInt64 :: S))) : Goes p e below s Z EL nw h0 fr0 Q rm T (mkF m pc L (.int x :: S)) := by
  subst hp
  exact Goes.step (fun _ q => Jvm.Free.XT.i2l W.here W.hx rfl (hb W.hby hd) rfl q) K
theorem g_i2b (W : Wk p l e R s m args below meth c y bc mL rt Z a0 EL nw h0 T h fr ce sl) {pc pc' : Nat} {L : Array Slot} {S : List Value} {x : Int32} (hd : decode bc pc = .ok (.i2b, 1)) (hp : pc + 1 = pc')  (K : Goes p e below s Z EL nw h0 fr0 Q rm T (mkF m pc' L (.int x.toInt8.toInt32 :: S))) : Goes p e below s Z EL nw h0 fr0 Q rm T (mkF m pc L (.int x :: S)) := by
  subst hp
  exact Goes.step (fun _ q => Jvm.Free.XT.i2b W.here W.hx rfl (hb W.hby hd) rfl q) K
theorem g_i2c (W : Wk p l e R s m args below meth c y bc mL rt Z a0 EL nw h0 T h fr ce sl) {pc pc' : Nat} {L : Array Slot} {S : List Value} {x : Int32} (hd : decode bc pc = .ok (.i2c, 1)) (hp : pc + 1 = pc')  (K : Goes p e below s Z EL nw h0 fr0 Q rm T (mkF m pc' L (.int x.toUInt32.toUInt16.toUInt32.toInt32 :: S))) : Goes p e below s Z EL nw h0 fr0 Q rm T (mkF m pc L (.int x :: S)) := by
  subst hp
  exact Goes.step (fun _ q => Jvm.Free.XT.i2c W.here W.hx rfl (hb W.hby hd) rfl q) K
theorem g_dup (W : Wk p l e R s m args below meth c y bc mL rt Z a0 EL nw h0 T h fr ce sl) {pc pc' : Nat} {L : Array Slot} {S : List Value} {v : Value} (hd : decode bc pc = .ok (.dup, 1)) (hp : pc + 1 = pc') (hc : v.category = 1) (K : Goes p e below s Z EL nw h0 fr0 Q rm T (mkF m pc' L (v :: v :: S))) : Goes p e below s Z EL nw h0 fr0 Q rm T (mkF m pc L (v :: S)) := by
  subst hp
  exact Goes.step (fun _ q => XS.dup W.here W.hx rfl (hb W.hby hd) rfl hc q) K
theorem g_dup_x1 (W : Wk p l e R s m args below meth c y bc mL rt Z a0 EL nw h0 T h fr ce sl) {pc pc' : Nat} {L : Array Slot} {S : List Value} {v w : Value} (hd : decode bc pc = .ok (.dup_x1, 1)) (hp : pc + 1 = pc') (hc : v.category = 1) (hc' : w.category = 1) (K : Goes p e below s Z EL nw h0 fr0 Q rm T (mkF m pc' L (v :: w :: v :: S))) : Goes p e below s Z EL nw h0 fr0 Q rm T (mkF m pc L (v :: w :: S)) := by
  subst hp
  exact Goes.step (fun _ q => Jvm.Free.XT.dupX1 W.here W.hx rfl (hb W.hby hd) rfl hc hc' q) K
theorem g_pop (W : Wk p l e R s m args below meth c y bc mL rt Z a0 EL nw h0 T h fr ce sl) {pc pc' : Nat} {L : Array Slot} {S : List Value} {v : Value} (hd : decode bc pc = .ok (.pop, 1)) (hp : pc + 1 = pc') (hc : v.category = 1) (K : Goes p e below s Z EL nw h0 fr0 Q rm T (mkF m pc' L S)) : Goes p e below s Z EL nw h0 fr0 Q rm T (mkF m pc L (v :: S)) := by
  subst hp
  exact Goes.step (fun _ q => Jvm.Free.XT.pop W.here W.hx rfl (hb W.hby hd) rfl hc q) K
theorem g_istore_n (W : Wk p l e R s m args below meth c y bc mL rt Z a0 EL nw h0 T h fr ce sl) {pc pc' : Nat} {L : Array Slot} {S : List Value} {k : Fin 4} {x : Int32} {L' : Array Slot} (hd : decode bc pc = .ok (.istore_n k, 1)) (hp : pc + 1 = pc') (hl : storeLocals L k.val (.int x) = some L') (K : Goes p e below s Z EL nw h0 fr0 Q rm T (mkF m pc' L' S)) : Goes p e below s Z EL nw h0 fr0 Q rm T (mkF m pc L (.int x :: S)) := by
  subst hp
  exact Goes.step (fun _ q => XS.istoreN W.here W.hx rfl (hb W.hby hd) rfl hl q) K
theorem g_istore (W : Wk p l e R s m args below meth c y bc mL rt Z a0 EL nw h0 T h fr ce sl) {pc pc' : Nat} {L : Array Slot} {S : List Value} {k : Nat} {x : Int32} {L' : Array Slot} (hd : decode bc pc = .ok (.istore k, 2)) (hp : pc + 2 = pc') (hl : storeLocals L k (.int x) = some L') (K : Goes p e below s Z EL nw h0 fr0 Q rm T (mkF m pc' L' S)) : Goes p e below s Z EL nw h0 fr0 Q rm T (mkF m pc L (.int x :: S)) := by
  subst hp
  exact Goes.step (fun _ q => XS.istore W.here W.hx rfl (hb W.hby hd) rfl hl q) K
theorem g_astore_n (W : Wk p l e R s m args below meth c y bc mL rt Z a0 EL nw h0 T h fr ce sl) {pc pc' : Nat} {L : Array Slot} {S : List Value} {k : Fin 4} {v : Value} {L' : Array Slot} (hd : decode bc pc = .ok (.astore_n k, 1)) (hp : pc + 1 = pc') (hv : v.isRef = true) (hl : storeLocals L k.val v = some L') (K : Goes p e below s Z EL nw h0 fr0 Q rm T (mkF m pc' L' S)) : Goes p e below s Z EL nw h0 fr0 Q rm T (mkF m pc L (v :: S)) := by
  subst hp
  exact Goes.step (fun _ q => XS.astoreN W.here W.hx rfl (hb W.hby hd) rfl hv hl q) K
theorem g_astore (W : Wk p l e R s m args below meth c y bc mL rt Z a0 EL nw h0 T h fr ce sl) {pc pc' : Nat} {L : Array Slot} {S : List Value} {k : Nat} {v : Value} {L' : Array Slot} (hd : decode bc pc = .ok (.astore k, 2)) (hp : pc + 2 = pc') (hv : v.isRef = true) (hl : storeLocals L k v = some L') (K : Goes p e below s Z EL nw h0 fr0 Q rm T (mkF m pc' L' S)) : Goes p e below s Z EL nw h0 fr0 Q rm T (mkF m pc L (v :: S)) := by
  subst hp
  exact Goes.step (fun _ q => XS.astore W.here W.hx rfl (hb W.hby hd) rfl hv hl q) K
theorem g_lstore_n (W : Wk p l e R s m args below meth c y bc mL rt Z a0 EL nw h0 T h fr ce sl) {pc pc' : Nat} {L : Array Slot} {S : List Value} {k : Fin 4} {x : Int64} {L' : Array Slot} (hd : decode bc pc = .ok (.lstore_n k, 1)) (hp : pc + 1 = pc') (hl : storeLocals L k.val (.long x) = some L') (K : Goes p e below s Z EL nw h0 fr0 Q rm T (mkF m pc' L' S)) : Goes p e below s Z EL nw h0 fr0 Q rm T (mkF m pc L (.long x :: S)) := by
  subst hp
  exact Goes.step (fun _ q => Jvm.Free.XT.lstoreN W.here W.hx rfl (hb W.hby hd) rfl hl q) K
theorem g_lstore (W : Wk p l e R s m args below meth c y bc mL rt Z a0 EL nw h0 T h fr ce sl) {pc pc' : Nat} {L : Array Slot} {S : List Value} {k : Nat} {x : Int64} {L' : Array Slot} (hd : decode bc pc = .ok (.lstore k, 2)) (hp : pc + 2 = pc') (hl : storeLocals L k (.long x) = some L') (K : Goes p e below s Z EL nw h0 fr0 Q rm T (mkF m pc' L' S)) : Goes p e below s Z EL nw h0 fr0 Q rm T (mkF m pc L (.long x :: S)) := by
  subst hp
  exact Goes.step (fun _ q => Jvm.Free.XT.lstore W.here W.hx rfl (hb W.hby hd) rfl hl q) K
theorem g_iinc (W : Wk p l e R s m args below meth c y bc mL rt Z a0 EL nw h0 T h fr ce sl) {pc pc' : Nat} {L : Array Slot} {S : List Value} {k : Nat} {cst : Int} {x v : Int32} {L' : Array Slot} (hd : decode bc pc = .ok (.iinc k cst, 3)) (hp : pc + 3 = pc') (hv : Int32.ofInt cst = v) (hl : L[k]? = some (.val (.int x))) (hl' : storeLocals L k (.int (x + v)) = some L') (K : Goes p e below s Z EL nw h0 fr0 Q rm T (mkF m pc' L' S)) : Goes p e below s Z EL nw h0 fr0 Q rm T (mkF m pc L S) := by
  subst hp
  exact Goes.step (fun _ q => Jvm.Free.XT.iincV W.here W.hx rfl v (hb W.hby hd) hv hl hl' q) K
theorem g_goto (W : Wk p l e R s m args below meth c y bc mL rt Z a0 EL nw h0 T h fr ce sl) {pc pc' : Nat} {o : Int} {L : Array Slot} {S : List Value} (hd : decode bc pc = .ok (.goto o, 3)) (ho : 0 ≤ (pc : Int) + o) (hp : ((pc : Int) + o).toNat = pc') (K : Goes p e below s Z EL nw h0 fr0 Q rm T (mkF m pc' L S)) : Goes p e below s Z EL nw h0 fr0 Q rm T (mkF m pc L S) :=
  Goes.step (fun _ q => XS.goto W.here W.hx rfl rfl (hb W.hby hd) ho hp q) K
theorem g_ifY (W : Wk p l e R s m args below meth c y bc mL rt Z a0 EL nw h0 T h fr ce sl) {pc pc' : Nat} {o : Int} {L : Array Slot} {S : List Value} {cd : ClassFile.Cond} {x : Int32} (hd : decode bc pc = .ok (.ifCond cd o, 3)) (ho : 0 ≤ (pc : Int) + o) (hp : ((pc : Int) + o).toNat = pc') (hc : ifCond.holds cd x = true) (K : Goes p e below s Z EL nw h0 fr0 Q rm T (mkF m pc' L S)) : Goes p e below s Z EL nw h0 fr0 Q rm T (mkF m pc L (.int x :: S)) :=
  Goes.step (fun _ q => XS.ifYes W.here W.hx rfl rfl (hb W.hby hd) rfl hc ho hp q) K
theorem g_icmpY (W : Wk p l e R s m args below meth c y bc mL rt Z a0 EL nw h0 T h fr ce sl) {pc pc' : Nat} {o : Int} {L : Array Slot} {S : List Value} {cd : ClassFile.Cond} {x z : Int32} (hd : decode bc pc = .ok (.if_icmp cd o, 3)) (ho : 0 ≤ (pc : Int) + o) (hp : ((pc : Int) + o).toNat = pc') (hc : if_icmp.holds cd x z = true) (K : Goes p e below s Z EL nw h0 fr0 Q rm T (mkF m pc' L S)) : Goes p e below s Z EL nw h0 fr0 Q rm T (mkF m pc L (.int z :: .int x :: S)) :=
  Goes.step (fun _ q => XS.icmpYes W.here W.hx rfl rfl (hb W.hby hd) rfl hc ho hp q) K
theorem g_nullY (W : Wk p l e R s m args below meth c y bc mL rt Z a0 EL nw h0 T h fr ce sl) {pc pc' : Nat} {o : Int} {L : Array Slot} {S : List Value} {v : Value} (hd : decode bc pc = .ok (.ifnull o, 3)) (ho : 0 ≤ (pc : Int) + o) (hp : ((pc : Int) + o).toNat = pc') (hv : v = .null) (K : Goes p e below s Z EL nw h0 fr0 Q rm T (mkF m pc' L S)) : Goes p e below s Z EL nw h0 fr0 Q rm T (mkF m pc L (v :: S)) :=
  Goes.step (fun _ q => Jvm.Free.XT.nullYes W.here W.hx rfl rfl (hb W.hby hd) rfl hv ho hp q) K
theorem g_nonnullY (W : Wk p l e R s m args below meth c y bc mL rt Z a0 EL nw h0 T h fr ce sl) {pc pc' : Nat} {o : Int} {L : Array Slot} {S : List Value} {v : Value} (hd : decode bc pc = .ok (.ifnonnull o, 3)) (ho : 0 ≤ (pc : Int) + o) (hp : ((pc : Int) + o).toNat = pc') (hr : v.isRef = true) (hv : ¬ v = .null) (K : Goes p e below s Z EL nw h0 fr0 Q rm T (mkF m pc' L S)) : Goes p e below s Z EL nw h0 fr0 Q rm T (mkF m pc L (v :: S)) :=
  Goes.step (fun _ q => Jvm.Free.XT.nonnullYes W.here W.hx rfl rfl (hb W.hby hd) rfl hr hv ho hp q) K
theorem g_acmpY (W : Wk p l e R s m args below meth c y bc mL rt Z a0 EL nw h0 T h fr ce sl) {pc pc' : Nat} {o : Int} {L : Array Slot} {S : List Value} {cd : ACond} {v w : Value} (hd : decode bc pc = .ok (.if_acmp cd o, 3)) (ho : 0 ≤ (pc : Int) + o) (hp : ((pc : Int) + o).toNat = pc') (h1 : v.isRef = true) (h2 : w.isRef = true) (hc : Jvm.Free.XT.acmp cd v w = true) (K : Goes p e below s Z EL nw h0 fr0 Q rm T (mkF m pc' L S)) : Goes p e below s Z EL nw h0 fr0 Q rm T (mkF m pc L (w :: v :: S)) :=
  Goes.step (fun _ q => Jvm.Free.XT.acmpYes W.here W.hx rfl rfl (hb W.hby hd) rfl h1 h2 hc ho hp q) K
theorem g_ifN (W : Wk p l e R s m args below meth c y bc mL rt Z a0 EL nw h0 T h fr ce sl) {pc pc' : Nat} {L : Array Slot} {S : List Value} {cd : ClassFile.Cond} {o : Int} {x : Int32} (hd : decode bc pc = .ok (.ifCond cd o, 3)) (hp : pc + 3 = pc') (hc : ifCond.holds cd x = false) (K : Goes p e below s Z EL nw h0 fr0 Q rm T (mkF m pc' L S)) : Goes p e below s Z EL nw h0 fr0 Q rm T (mkF m pc L (.int x :: S)) := by
  subst hp
  exact Goes.step (fun _ q => XS.ifNo W.here W.hx rfl (hb W.hby hd) rfl hc q) K
theorem g_icmpN (W : Wk p l e R s m args below meth c y bc mL rt Z a0 EL nw h0 T h fr ce sl) {pc pc' : Nat} {L : Array Slot} {S : List Value} {cd : ClassFile.Cond} {o : Int} {x z : Int32} (hd : decode bc pc = .ok (.if_icmp cd o, 3)) (hp : pc + 3 = pc') (hc : if_icmp.holds cd x z = false) (K : Goes p e below s Z EL nw h0 fr0 Q rm T (mkF m pc' L S)) : Goes p e below s Z EL nw h0 fr0 Q rm T (mkF m pc L (.int z :: .int x :: S)) := by
  subst hp
  exact Goes.step (fun _ q => XS.icmpNo W.here W.hx rfl (hb W.hby hd) rfl hc q) K
theorem g_nullN (W : Wk p l e R s m args below meth c y bc mL rt Z a0 EL nw h0 T h fr ce sl) {pc pc' : Nat} {L : Array Slot} {S : List Value} {o : Int} {v : Value} (hd : decode bc pc = .ok (.ifnull o, 3)) (hp : pc + 3 = pc') (hr : v.isRef = true) (hv : ¬ v = .null) (K : Goes p e below s Z EL nw h0 fr0 Q rm T (mkF m pc' L S)) : Goes p e below s Z EL nw h0 fr0 Q rm T (mkF m pc L (v :: S)) := by
  subst hp
  exact Goes.step (fun _ q => Jvm.Free.XT.nullNo W.here W.hx rfl (hb W.hby hd) rfl hr hv q) K
theorem g_nonnullN (W : Wk p l e R s m args below meth c y bc mL rt Z a0 EL nw h0 T h fr ce sl) {pc pc' : Nat} {L : Array Slot} {S : List Value} {o : Int} {v : Value} (hd : decode bc pc = .ok (.ifnonnull o, 3)) (hp : pc + 3 = pc') (hv : v = .null) (K : Goes p e below s Z EL nw h0 fr0 Q rm T (mkF m pc' L S)) : Goes p e below s Z EL nw h0 fr0 Q rm T (mkF m pc L (v :: S)) := by
  subst hp
  exact Goes.step (fun _ q => Jvm.Free.XT.nonnullNo W.here W.hx rfl (hb W.hby hd) rfl hv q) K
theorem g_acmpN (W : Wk p l e R s m args below meth c y bc mL rt Z a0 EL nw h0 T h fr ce sl) {pc pc' : Nat} {L : Array Slot} {S : List Value} {cd : ACond} {o : Int} {v w : Value} (hd : decode bc pc = .ok (.if_acmp cd o, 3)) (hp : pc + 3 = pc') (h1 : v.isRef = true) (h2 : w.isRef = true) (hc : Jvm.Free.XT.acmp cd v w = false) (K : Goes p e below s Z EL nw h0 fr0 Q rm T (mkF m pc' L S)) : Goes p e below s Z EL nw h0 fr0 Q rm T (mkF m pc L (w :: v :: S)) := by
  subst hp
  exact Goes.step (fun _ q => Jvm.Free.XT.acmpNo W.here W.hx rfl (hb W.hby hd) rfl h1 h2 hc q) K
end K3
section K4
variable {l : Launch} {Z : State} {a0 : Array Value} {EL : List (String × Nat)} {nw : Bool} {h h' h1 h2 : Heap} {a b : Addr} {C : String} {v old : Value} {ws : List Addr}
theorem cat_ref (a : Addr) : (Value.ref a).category = 1 := rfl
theorem cat_int (x : Int32) : (Value.int x).category = 1 := rfl
theorem cat_null : Value.null.category = 1 := rfl
theorem cat_long (x : Int64) : (Value.long x).category = 2 := rfl
/-- a field's key: owner, name, descriptor -/
abbrev FK := String × String × String
def FldL (Z : State) (h : Heap) (a : Addr) (fs : List (FK × Value)) : Prop := ∀ (i : Nat) (k : FK) (v : Value), fs[i]? = some (k, v) → Fld Z h a k.1 k.2.1 k.2.2 v
theorem FldL.nil : FldL Z h a [] := fun i k v q => by simp at q
theorem FldL.cons {O n d : String} {r : List (FK × Value)} (F : Fld Z h a O n d v) (R : FldL Z h a r) : FldL Z h a (((O, n, d), v) :: r) := fun i k w q => by
  cases i with
  | zero => simp only [List.getElem?_cons_zero, Option.some.injEq, Prod.mk.injEq] at q; obtain ⟨rfl, rfl⟩ := q; exact F
  | succ i => simp only [List.getElem?_cons_succ] at q; exact R i k w q
/-- an object: its exact class, and what its fields hold -/
def Obj (Z : State) (h : Heap) (a : Addr) (C : String) (fs : List (FK × Value)) : Prop := Exa Z h a C ∧ FldL Z h a fs
theorem Obj.get {fs : List (FK × Value)} (F : Obj Z h a C fs) (i : Nat) {O n d : String} (q : fs[i]? = some ((O, n, d), v)) : Fld Z h a O n d v := F.2 i _ _ q
theorem Obj.keep {fs : List (FK × Value)} (F : Obj Z h a C fs) (K : Keep h h' ws) (q : a ∉ ws) : Obj Z h' a C fs := ⟨F.1.keep K, fun i k v z => (F.2 i k v z).keep K q⟩
theorem Obj.mv {fs : List (FK × Value)} (F : Obj Z h a C fs) (K : Keep h h' []) : Obj Z h' a C fs := F.keep K nin0
theorem Obj.ext {fs : List (FK × Value)} (F : Obj Z h a C fs) (E : Ext h h') : Obj Z h' a C fs := ⟨F.1.ext E, fun i k v z => (F.2 i k v z).ext E⟩
theorem Obj.lt {fs : List (FK × Value)} (F : Obj Z h a C fs) : a < h.size := F.1.lt
def Dis (Z : State) (ks : List FK) : Prop := ∀ (i j : Nat) (k k' : FK), i ≠ j → ks[i]? = some k → ks[j]? = some k' → RoadKit.slotOf Z k.1 k.2.1 k.2.2 ≠ RoadKit.slotOf Z k'.1 k'.2.1 k'.2.2
def LaidL (Z : State) (a0 : Array Value) (C : String) (ks : List FK) : Prop := ∀ k ∈ ks, Laid Z a0 C k.1 k.2.1 k.2.2 ∧ ∃ t, parseFieldDescriptor k.2.2 = some t
theorem LaidL.nil : LaidL Z a0 C [] := fun _ q => nomatch q
theorem LaidL.cons {O n d : String} {ks : List FK} (L : Laid Z a0 C O n d) (t : FieldType) (ht : parseFieldDescriptor d = some t) (R : LaidL Z a0 C ks) : LaidL Z a0 C ((O, n, d) :: ks) := fun k q => by
  rcases List.mem_cons.mp q with rfl | q
  · exact ⟨L, t, ht⟩
  · exact R k q
theorem Dis.of {ks : List FK} (L : LaidL Z a0 C ks) (nd : (ks.map fun k => k.2.1).Nodup) : Dis Z ks := fun i j k k' hij hi hj => by
  obtain ⟨l1, t1, p1⟩ := L k (List.mem_of_getElem? hi)
  obtain ⟨l2, t2, p2⟩ := L k' (List.mem_of_getElem? hj)
  refine slot_ne l1 l2 (fun q => hij ?_) p1 p2
  refine (List.getElem?_inj (l := ks.map fun k => k.2.1) ?_ nd).mp ?_
  · rw [List.length_map]; exact (List.getElem?_eq_some_iff.mp hi).1
  · simp [List.getElem?_map, hi, hj, q]
theorem Obj.put {fs : List (FK × Value)} {O n d : String} (F : Obj Z h a C fs) (W : Wr h h' a (RoadKit.slotOf Z O n d) v) (i : Nat) (q : fs[i]? = some ((O, n, d), old)) (D : Dis Z (fs.map Prod.fst)) : Obj Z h' a C (fs.set i ((O, n, d), v)) := by
  refine ⟨F.1.wr W, fun j k w z => ?_⟩
  by_cases e : i = j
  · subst e
    have hlt := (List.getElem?_eq_some_iff.mp q).1
    rw [List.getElem?_set_self hlt] at z
    cases z
    exact (F.2 i _ _ q).same W
  · rw [List.getElem?_set_ne e] at z
    refine (F.2 j k w z).other W (Or.inr (D j i k (O, n, d) (Ne.symm e) ?_ ?_))
    · simp [List.getElem?_map, z]
    · simp [List.getElem?_map, q]
theorem fits_ref0 {t : FieldType} (ht : t.isReference = true) (hv : v.isRef = true) : fits t v = true := by
  rcases ref_cases hv with rfl | ⟨x, rfl⟩ <;> cases t <;> first | rfl | cases ht
theorem narrow_ref0 {t : FieldType} (ht : t.isReference = true) : narrow t v = v := by cases t <;> first | rfl | cases ht
theorem Keep.newInit (E : Ext h h1) (K : Keep h1 h2 [a]) (g : a = h.size) : Keep h h2 [] := ((Keep.refl h []).ext E).trans K fun x q => by cases List.mem_singleton.mp q; exact Or.inr (Nat.le_of_eq g.symm)
theorem Keep.of_ext (E : Ext h h') : Keep h h' [] := (Keep.refl h []).ext E
theorem Keep.next (K : Keep h h1 []) (K' : Keep h1 h2 []) : Keep h h2 [] := K.trans K' fun _ q => nomatch q
theorem Keep.ofEq (e : h' = h) : Keep h h' ws := e ▸ Keep.refl _ _
/-- a getter of a reference or a number -/
theorem met_getter {y : MethodName} {bc : ByteArray} {t : FieldType} {rm : Room} {lc : List Jvm.Cond} {O n d : String} {ix : Nat} (hn : plainFor y = true) (hEL : EW Z a0 EL) (hX : Ext Z.heap h) (d0 : decode bc 0 = .ok (.aload_n 0, 1)) (d1 : decode bc 1 = .ok (.getfield ix, 3)) (w : (Jvm.Cond.fieldLink y.cls ix O n d).before a0 Z = true) (F : Fld Z h a O n d v)
    (hv : (decode bc 4 = .ok (.areturn, 1) ∧ t.isReference = true ∧ v.isRef = true) ∨ (decode bc 4 = .ok (.ireturn, 1) ∧ (t = .int ∨ t = .boolean ∨ t = .byte ∨ t = .char ∨ t = .short) ∧ narrow t v = v ∧ ∃ z, v = .int z)) :
    Met l Z EL nw y bc 1 (some t) lc rm #[.ref a] h [] (fun r h' => h = h' ∧ r = some v) := by
  refine Met.intro hn hEL hX (fun _ q => nomatch q) ?_
  intro p e s m below meth c T W
  refine Goes.cast (show entryFrame m #[.ref a] 1 = mkF m 0 #[.val (.ref a)] [] by simp [entryFrame, mkF, argsToLocals, Value.category]) ?_
  refine g_aload_n W d0 (pc' := 1) rfl rfl rfl ?_
  refine g_getfield W d1 (pc' := 4) (host := "") rfl (Or.inl w) Via.refl F fun T1 W1 => ?_
  rcases hv with ⟨d4, ht, hr⟩ | ⟨d4, ht, hr, z, rfl⟩
  · exact g_areturn W1 d4 ht hr (narrow_ref0 ht) (Keep.refl _ _) ⟨rfl, rfl⟩ (Nat.zero_le _) (Nat.zero_le _)
  · exact g_ireturn W1 d4 ht hr (Keep.refl _ _) ⟨rfl, rfl⟩ (Nat.zero_le _) (Nat.zero_le _)
end K4
section K5
variable {p : Program} {l : Launch} {e : Env} {R : Room} {s : State} {args : Array Value} {below : List Frame} {Z : State} {a0 : Array Value} {EL : List (String × Nat)} {nw : Bool} {h h' : Heap} {Wd len : Nat} {x b : Addr} {cs ds : List Int32}
/-- a String at x spells cs -/
def Str (Z : State) (h : Heap) (x : Addr) (cs : List Int32) : Prop := ∃ (t : Addr) (kb : ClassId) (cd N2 : Int32) (vs : List Value), Exa Z h x "java/lang/String" ∧ Fld Z h x "java/lang/String" "value" "[B" (.ref t) ∧ Fld Z h x "java/lang/String" "coder" "B" (.int cd) ∧ Arv Z h t kb .byte N2 vs (.int 0) ∧ StrChars.Road.CodA cs cd N2 vs ∧ (∀ c ∈ cs, ¬ c < 0 ∧ ¬ (65535 : Int32) < c) ∧ cs.length ≤ 4000
theorem Str.mv (F : Str Z h x cs) (K : Keep h h' []) : Str Z h' x cs := by
  obtain ⟨t, kb, cd, N2, vs, q1, q2, q3, q4, q5⟩ := F
  exact ⟨t, kb, cd, N2, vs, q1.keep K, q2.keep K nin0, q3.keep K nin0, q4.keep K nin0, q5⟩
theorem Str.exa (F : Str Z h x cs) : Exa Z h x "java/lang/String" := by obtain ⟨t, kb, cd, N2, vs, q1, -⟩ := F; exact q1
theorem Str.lt (F : Str Z h x cs) : x < h.size := F.exa.lt
theorem up16 (hp : ∀ c ∈ cs, ¬ c < 0 ∧ ¬ (255 : Int32) < c) : ∀ c ∈ cs, ¬ c < 0 ∧ ¬ (65535 : Int32) < c := fun c q => ⟨(hp c q).1, fun z => (hp c q).2 (by rw [Int32.lt_iff_toInt_lt] at z ⊢; have e1 : (65535 : Int32).toInt = 65535 := (by decide); have e2 : (255 : Int32).toInt = 255 := (by decide); omega)⟩
theorem nar_mask (x : Int32) : RoadKit.nar .char ((x &&& 255).toUInt32.toUInt16.toUInt32.toInt32) = x &&& 255 := by
  show ((x &&& 255).toUInt32.toUInt16.toUInt32.toInt32).toUInt32.toUInt16.toUInt32.toInt32 = x &&& 255
  rw [i2c_mask, i2c_mask]
theorem nar_mask1 (x : Int32) : RoadKit.nar .char (x &&& 255) = x &&& 255 := i2c_mask x
theorem low255 (x : Int32) : ¬ (x &&& 255) < 0 ∧ ¬ (255 : Int32) < (x &&& 255) := by
  have q := c_and x 255 (by decide)
  have e : (255 : Int32).toInt = 255 := (by decide)
  have e0 : (0 : Int32).toInt = 0 := (by decide)
  constructor <;> (rw [Int32.lt_iff_toInt_lt]; omega)
theorem lowN : ∀ c ∈ ([] : List Int32), ¬ c < 0 ∧ ¬ (255 : Int32) < c := fun _ q => nomatch q
theorem lowC (x : Int32) {cs : List Int32} (h : ∀ c ∈ cs, ¬ c < 0 ∧ ¬ (255 : Int32) < c) : ∀ c ∈ (x &&& 255) :: cs, ¬ c < 0 ∧ ¬ (255 : Int32) < c := fun c q => by
  rcases List.mem_cons.mp q with rfl | q
  · exact low255 x
  · exact h c q
theorem lowK {x : Int32} (hx : ¬ x < 0 ∧ ¬ (255 : Int32) < x) {cs : List Int32} (h : ∀ c ∈ cs, ¬ c < 0 ∧ ¬ (255 : Int32) < c) : ∀ c ∈ x :: cs, ¬ c < 0 ∧ ¬ (255 : Int32) < c := fun c q => by
  rcases List.mem_cons.mp q with rfl | q
  · exact hx
  · exact h c q
/-- new String(char[]) of 1 to 4000 chars below 256 -/
theorem pays_newStr {v0 c0 d : Value} {kC : ClassId} {N z : Int32} {n : Nat} (hEL : EW Z a0 EL) (hws : ∀ d ∈ StrChars.Road.words, d.before a0 Z = true) (wi : (Jvm.Cond.instantiable "java/lang/String" 4).before a0 Z = true) (O : Obj Z h x "java/lang/String" [(("java/lang/String", "value", "[B"), v0), (("java/lang/String", "coder", "B"), c0)]) (K : Arv Z h b kC .char N (cs.map Value.int) d) (Sc : Sta Z Z.heap "java/lang/String" "COMPACT_STRINGS" "Z" (.int z)) (hz : ¬ z = 0) (hX : Ext Z.heap h) (hx0 : Z.heap.size ≤ x)
    (hn : cs.length = n) (hN : N = Int32.ofNat n) (l0 : 0 < n) (l2 : n ≤ 4000) (hp : ∀ c ∈ cs, ¬ c < 0 ∧ ¬ (255 : Int32) < c) (hfr : 4 ≤ R.frames) (hlo : Wd + 65 ≤ R.locals) :
    Pays l R p e below s args Z EL nw (⟨"java/lang/String", "<init>", "([C)V"⟩ : MethodName) len Wd #[.ref x, .ref b] h [x] (fun v h' => v = none ∧ Str Z h' x cs) 1 n :=
  pays_back hEL (fun vm hZ => StrChars.Road.backV (W := Wd) (s := s.setVm vm) hZ hws wi hx0 hX.1 O.1 (O.get 0 rfl) (O.get 1 rfl) K (Sc.ext hX) hz hn hN l0 l2 hp rfl hfr hlo) fun v h' L q => by
    obtain ⟨rfl, q1, q2, q3, q4, t, kb, -, -, -, q5, q6⟩ := q
    refine ⟨q2, ⟨rfl, t, kb, 0, N, _, q3, q5, q4, q6, ?_, up16 hp, by rw [hn]; exact l2⟩, q1⟩
    rw [hN]
    exact StrChars.Road.codOf hn fun c q => (hp c q).2
end K5
theorem pays_len {p : Program} {l : Launch} {e : Env} {R : Room} {s : State} {args : Array Value} {below : List Frame} {Z : State} {a0 : Array Value} {EL : List (String × Nat)} {nw : Bool} {h : Heap} {Wd len : Nat} {x : Addr} {cs : List Int32} {z : Int32} (hEL : EW Z a0 EL) (hws : ∀ d ∈ StrChars.Road.wordsLen, d.before a0 Z = true) (wi : (Jvm.Cond.instantiable "java/lang/String" 4).before a0 Z = true) (F : Str Z h x cs) (Sc : Sta Z Z.heap "java/lang/String" "COMPACT_STRINGS" "Z" (.int z)) (hz : ¬ z = 0) (hX : Ext Z.heap h) (hfr : 2 ≤ R.frames) (hlo : Wd + 25 ≤ R.locals) :
    Pays l R p e below s args Z EL nw (⟨"java/lang/String", "length", "()I"⟩ : MethodName) len Wd #[.ref x] h [] (fun v h' => h = h' ∧ v = some (.int (Int32.ofNat cs.length))) 0 0 := by
  obtain ⟨t, kb, cd, N2, vs, q1, q2, q3, q4, q5, q6, q7⟩ := F
  exact pays_back (Q0 := fun v h' L => v = some (.int (Int32.ofNat cs.length)) ∧ L = [] ∧ h' = h) hEL (fun vm hZ => StrChars.Road.lenW (W := Wd) (s := s.setVm vm) hZ hws wi q1 q2 q3 q4 q5 q6 (Sc.ext hX) hz q7 hfr hlo) fun v h' L q => by
    obtain ⟨rfl, rfl, rfl⟩ := q
    exact ⟨Keep.refl _ _, ⟨rfl, rfl⟩, Fr.nil _⟩
open Jvm.Pilot.@@N@@.Jvm.D
abbrev EL1 : List (String × Nat) := [("java/lang/String", 7)]
abbrev NW : Bool := false
abbrev ks_Str : List FK := [("java/lang/String", "value", "[B"), ("java/lang/String", "coder", "B")]
theorem laid_Str {Z : State} {a0 : Array Value} (hw : ∀ d ∈ tables_1, d.before a0 Z = true) : LaidL Z a0 "java/lang/String" ks_Str := LaidL.cons (Or.inr (hw _ (List.mem_of_getElem? (i := 20) rfl))) (.array .byte) (by decide) (LaidL.cons (Or.inr (hw _ (List.mem_of_getElem? (i := 21) rfl))) .byte (by decide) (LaidL.nil))
theorem dis_Str {Z : State} {a0 : Array Value} (hw : ∀ d ∈ tables_1, d.before a0 Z = true) : Dis Z ks_Str := Dis.of (laid_Str hw) (by decide)
theorem new_Str {Z : State} {a0 : Array Value} {h : Heap} {a : Addr} (hw : ∀ d ∈ tables_1, d.before a0 Z = true) (A : Exa Z h a "java/lang/String") (D : ∀ {O nm d : String} {ty : FieldType}, Laid Z a0 "java/lang/String" O nm d → parseFieldDescriptor d = some ty → Fld Z h a O nm d (defaultValue ty)) : Obj Z h a "java/lang/String" [(("java/lang/String", "value", "[B"), .null), (("java/lang/String", "coder", "B"), (.int 0))] := ⟨A, FldL.cons (D (Or.inr (hw _ (List.mem_of_getElem? (i := 20) rfl))) (ty := (.array .byte)) (by decide)) (FldL.cons (D (Or.inr (hw _ (List.mem_of_getElem? (i := 21) rfl))) (ty := .byte) (by decide)) (FldL.nil))⟩
abbrev ks_Dvf : List FK := [("com/example/catalog/catalog/write/DefaultVersionFlag", "kind", "Lcom/example/catalog/catalog/write/DefaultVersionFlag$Kind;"), ("com/example/catalog/catalog/write/DefaultVersionFlag", "id", "Ljava/lang/String;")]
theorem laid_Dvf {Z : State} {a0 : Array Value} (hw : ∀ d ∈ tables_1, d.before a0 Z = true) : LaidL Z a0 "com/example/catalog/catalog/write/DefaultVersionFlag" ks_Dvf := LaidL.cons (Or.inr (hw _ (List.mem_of_getElem? (i := 40) rfl))) (.object "com/example/catalog/catalog/write/DefaultVersionFlag$Kind") (by decide) (LaidL.cons (Or.inr (hw _ (List.mem_of_getElem? (i := 42) rfl))) (.object "java/lang/String") (by decide) (LaidL.nil))
theorem dis_Dvf {Z : State} {a0 : Array Value} (hw : ∀ d ∈ tables_1, d.before a0 Z = true) : Dis Z ks_Dvf := Dis.of (laid_Dvf hw) (by decide)
theorem new_Dvf {Z : State} {a0 : Array Value} {h : Heap} {a : Addr} (hw : ∀ d ∈ tables_1, d.before a0 Z = true) (A : Exa Z h a "com/example/catalog/catalog/write/DefaultVersionFlag") (D : ∀ {O nm d : String} {ty : FieldType}, Laid Z a0 "com/example/catalog/catalog/write/DefaultVersionFlag" O nm d → parseFieldDescriptor d = some ty → Fld Z h a O nm d (defaultValue ty)) : Obj Z h a "com/example/catalog/catalog/write/DefaultVersionFlag" [(("com/example/catalog/catalog/write/DefaultVersionFlag", "kind", "Lcom/example/catalog/catalog/write/DefaultVersionFlag$Kind;"), .null), (("com/example/catalog/catalog/write/DefaultVersionFlag", "id", "Ljava/lang/String;"), .null)] := ⟨A, FldL.cons (D (Or.inr (hw _ (List.mem_of_getElem? (i := 40) rfl))) (ty := (.object "com/example/catalog/catalog/write/DefaultVersionFlag$Kind")) (by decide)) (FldL.cons (D (Or.inr (hw _ (List.mem_of_getElem? (i := 42) rfl))) (ty := (.object "java/lang/String")) (by decide)) (FldL.nil))⟩
theorem wS_of {Z : State} {a0 : Array Value} (hw : ∀ d ∈ tables_1, d.before a0 Z = true) : ∀ a ∈ Bundle.stringAtoms, a.before a0 Z = true := fun d hd => hw d ((by decide +kernel : ∀ d ∈ Bundle.stringAtoms, d ∈ tables_1) d hd)
theorem cod_nil : StrChars.Road.CodA [] 0 0 [] := Or.inl ⟨rfl, rfl, rfl, fun _ q => nomatch q⟩
theorem d_jdk_42_method_149_code_0 : decode jdk_42_method_149_code 0 = .ok (.aload_n 0, 1) := by decide +kernel
theorem d_jdk_42_method_149_code_1 : decode jdk_42_method_149_code 1 = .ok (.invokespecial 1, 3) := by decide +kernel
theorem d_jdk_42_method_149_code_4 : decode jdk_42_method_149_code 4 = .ok (.iload_n 3, 1) := by decide +kernel
theorem d_jdk_42_method_149_code_5 : decode jdk_42_method_149_code 5 = .ok (.ifCond .ne 22, 3) := by decide +kernel
theorem d_jdk_42_method_149_code_8 : decode jdk_42_method_149_code 8 = .ok (.aload_n 0, 1) := by decide +kernel
theorem d_jdk_42_method_149_code_9 : decode jdk_42_method_149_code 9 = .ok (.ldc 7, 2) := by decide +kernel
theorem d_jdk_42_method_149_code_11 : decode jdk_42_method_149_code 11 = .ok (.getfield 9, 3) := by decide +kernel
theorem d_jdk_42_method_149_code_14 : decode jdk_42_method_149_code 14 = .ok (.putfield 9, 3) := by decide +kernel
theorem d_jdk_42_method_149_code_17 : decode jdk_42_method_149_code 17 = .ok (.aload_n 0, 1) := by decide +kernel
theorem d_jdk_42_method_149_code_18 : decode jdk_42_method_149_code 18 = .ok (.ldc 7, 2) := by decide +kernel
theorem d_jdk_42_method_149_code_20 : decode jdk_42_method_149_code 20 = .ok (.getfield 15, 3) := by decide +kernel
theorem d_jdk_42_method_149_code_23 : decode jdk_42_method_149_code 23 = .ok (.putfield 15, 3) := by decide +kernel
theorem d_jdk_42_method_149_code_26 : decode jdk_42_method_149_code 26 = .ok (.return_, 1) := by decide +kernel
theorem pf_0 : plainFor (⟨"java/lang/String", "<init>", "([CIILjava/lang/Void;)V"⟩ : MethodName) = true := by first | (exact plainFor_of_name (by first | (simp [plainName, overriddenIn]; done) | decide +kernel)) | decide +kernel
set_option maxRecDepth 65536 in
set_option maxHeartbeats 40000000 in
theorem rm_new4e {l : Launch} {Z : State} {a0 : Array Value} (hw : ∀ d ∈ tables_1, d.before a0 Z = true) (hEL : EW Z a0 EL1) {zc : Int32} (Sc : Sta Z Z.heap "java/lang/String" "COMPACT_STRINGS" "Z" (.int zc)) (hzc : ¬ zc = 0) (a1 b1 : Addr) (h : Heap) (hX : Ext Z.heap h) (g1 : Z.heap.size ≤ a1) (O1 : Obj Z h a1 "java/lang/String" [(("java/lang/String", "value", "[B"), .null), (("java/lang/String", "coder", "B"), (.int 0))]) : Met l Z EL1 NW (⟨"java/lang/String", "<init>", "([CIILjava/lang/Void;)V"⟩ : MethodName) jdk_42_method_149_code 6 none [] ({ frames := 1, cells := 4, slots := 8, locals := 12 } : Room) #[(.ref a1), (.ref b1), (.int (0 : Int32)), (.int (0 : Int32)), .null] h [a1] (fun v h' => v = none ∧ Str Z h' a1 []) := by
  refine Met.intro pf_0 hEL hX (allS ⟨g1, O1.lt⟩ all0) ?_
  intro p e s m below meth c T W
  refine Goes.cast (show entryFrame m #[(.ref a1), (.ref b1), (.int (0 : Int32)), (.int (0 : Int32)), .null] 6 = mkF m 0 #[.val (.ref a1), .val (.ref b1), .val (.int (0 : Int32)), .val (.int (0 : Int32)), .val .null, .unset] [] by first | (simp [entryFrame, mkF, argsToLocals, Value.category]; done) | rfl) ?_
  refine g_aload_n W d_jdk_42_method_149_code_0 (pc' := 1) rfl rfl rfl ?_
  refine g_initO W d_jdk_42_method_149_code_1 (pc' := 4) (Wd := 0) rfl (hw _ (List.mem_of_getElem? (i := 15) rfl)) (hw _ (List.mem_of_getElem? (i := 16) rfl)) (hw _ (List.mem_of_getElem? (i := 17) rfl)) rfl rfl (by decide) (by decide) fun T1 W2 => ?_
  refine g_iload_n W2 d_jdk_42_method_149_code_4 (pc' := 5) rfl rfl ?_
  refine g_ifN W2 d_jdk_42_method_149_code_5 (pc' := 8) rfl (Jvm.Free.XT.i0_ne_f rfl) ?_
  refine g_aload_n W2 d_jdk_42_method_149_code_8 (pc' := 9) rfl rfl rfl ?_
  refine g_ldc W2 d_jdk_42_method_149_code_9 (pc' := 11) (text := "") (vs := []) (zz := (0 : Int32)) (n := 0) rfl (hw _ (List.mem_of_getElem? (i := 18) rfl)) (wS_of hw) (List.mem_of_getElem? (i := 0) rfl) ⟨by decide +kernel, by decide +kernel⟩ (by decide) (by decide) (by decide +kernel) (by decide) (by decide) (by decide) fun T3 h5 a13 b14 kb12 W4 E6 X7 C8 V9 A10 ne11 => ?_
  refine g_getfield W4 d_jdk_42_method_149_code_11 (pc' := 14) (host := "") rfl (Or.inl (hw _ (List.mem_of_getElem? (i := 24) rfl))) Via.refl V9 fun T15 W16 => ?_
  have K22 : Keep h h5 [] := ((Keep.refl h []).ext E6)
  have F23 := O1.mv K22
  refine g_putfield W16 d_jdk_42_method_149_code_14 (pc' := 17) (host := "") (ty := (.array .byte)) rfl (Or.inl (hw _ (List.mem_of_getElem? (i := 24) rfl))) Via.refl (F23.get 0 rfl) F23.1 (Or.inr ⟨(hw _ (List.mem_of_getElem? (i := 20) rfl)), rfl, rfl⟩) (hw _ (List.mem_of_getElem? (i := 5) rfl)) (by decide) rfl rfl (List.mem_of_getElem? (i := 0) rfl) fun T17 h19 W18 R20 => ?_
  have O21 : Obj Z h19 a1 "java/lang/String" [(("java/lang/String", "value", "[B"), (.ref b14)), (("java/lang/String", "coder", "B"), (.int 0))] := F23.put R20 0 rfl (dis_Str hw)
  have A24 := A10.keep (Keep.of_wr R20) (ninS (fun q => (ne11 a1 (List.mem_of_getElem? (i := 0) rfl)).2 q.symm) nin0)
  refine g_aload_n W18 d_jdk_42_method_149_code_17 (pc' := 18) rfl rfl rfl ?_
  refine g_ldc W18 d_jdk_42_method_149_code_18 (pc' := 20) (text := "") (vs := []) (zz := (0 : Int32)) (n := 0) rfl (hw _ (List.mem_of_getElem? (i := 18) rfl)) (wS_of hw) (List.mem_of_getElem? (i := 0) rfl) ⟨by decide +kernel, by decide +kernel⟩ (by decide) (by decide) (by decide +kernel) (by decide) (by decide) (by decide) fun T25 h27 a35 b36 kb34 W26 E28 X29 C30 V31 A32 ne33 => ?_
  refine g_getfield W26 d_jdk_42_method_149_code_20 (pc' := 23) (host := "") rfl (Or.inl (hw _ (List.mem_of_getElem? (i := 25) rfl))) Via.refl C30 fun T37 W38 => ?_
  have K39 : Keep h19 h27 [] := ((Keep.refl h19 []).ext E28)
  have F40 := A24.mv K39
  have F46 := O21.mv K39
  refine g_putfield W38 d_jdk_42_method_149_code_23 (pc' := 26) (host := "") (ty := .byte) rfl (Or.inl (hw _ (List.mem_of_getElem? (i := 25) rfl))) Via.refl (F46.get 1 rfl) F46.1 (Or.inr ⟨(hw _ (List.mem_of_getElem? (i := 21) rfl)), rfl, rfl⟩) (hw _ (List.mem_of_getElem? (i := 5) rfl)) (by decide) rfl rfl (List.mem_of_getElem? (i := 0) rfl) fun T41 h43 W42 R44 => ?_
  have O45 : Obj Z h43 a1 "java/lang/String" [(("java/lang/String", "value", "[B"), (.ref b14)), (("java/lang/String", "coder", "B"), (.int (0 : Int32)))] := F46.put R44 1 rfl (dis_Str hw)
  have A47 := F40.keep (Keep.of_wr R44) (ninS (fun q => (ne11 a1 (List.mem_of_getElem? (i := 0) rfl)).2 q.symm) nin0)
  have K48 : Keep h h43 [a1] := (((((Keep.refl h [a1]).ext E6).wr R20 (Or.inl (List.mem_of_getElem? (i := 0) rfl))).ext E28).wr R44 (Or.inl (List.mem_of_getElem? (i := 0) rfl)))
  exact g_return W42 d_jdk_42_method_149_code_26 K48 ⟨rfl, _, _, _, _, _, O45.1, O45.get 0 rfl, O45.get 1 rfl, A47, cod_nil, (fun _ q => nomatch q), Nat.zero_le _⟩ (by decide) (by decide)
theorem d_jdk_42_method_3_code_0 : decode jdk_42_method_3_code 0 = .ok (.aload_n 0, 1) := by decide +kernel
theorem d_jdk_42_method_3_code_1 : decode jdk_42_method_3_code 1 = .ok (.aload_n 1, 1) := by decide +kernel
theorem d_jdk_42_method_3_code_2 : decode jdk_42_method_3_code 2 = .ok (.iconst 0, 1) := by decide +kernel
theorem d_jdk_42_method_3_code_3 : decode jdk_42_method_3_code 3 = .ok (.aload_n 1, 1) := by decide +kernel
theorem d_jdk_42_method_3_code_4 : decode jdk_42_method_3_code 4 = .ok (.arraylength, 1) := by decide +kernel
theorem d_jdk_42_method_3_code_5 : decode jdk_42_method_3_code 5 = .ok (.aconst_null, 1) := by decide +kernel
theorem d_jdk_42_method_3_code_6 : decode jdk_42_method_3_code 6 = .ok (.invokespecial 27, 3) := by decide +kernel
theorem pd_0 : parseMethodDescriptor "([CIILjava/lang/Void;)V" = some ⟨[(.array .char), .int, .int, (.object "java/lang/Void")], none⟩ := by decide +kernel
theorem d_jdk_42_method_3_code_9 : decode jdk_42_method_3_code 9 = .ok (.return_, 1) := by decide +kernel
theorem pf_1 : plainFor (⟨"java/lang/String", "<init>", "([C)V"⟩ : MethodName) = true := by first | (exact plainFor_of_name (by first | (simp [plainName, overriddenIn]; done) | decide +kernel)) | decide +kernel
set_option maxRecDepth 65536 in
set_option maxHeartbeats 40000000 in
theorem rm_new1e {l : Launch} {Z : State} {a0 : Array Value} (hw : ∀ d ∈ tables_1, d.before a0 Z = true) (hEL : EW Z a0 EL1) {zc : Int32} (Sc : Sta Z Z.heap "java/lang/String" "COMPACT_STRINGS" "Z" (.int zc)) (hzc : ¬ zc = 0) (a1 b1 : Addr) (kA : ClassId) (vs : List Value) (dv : Value) (h : Heap) (hX : Ext Z.heap h) (g1 : Z.heap.size ≤ a1) (O1 : Obj Z h a1 "java/lang/String" [(("java/lang/String", "value", "[B"), .null), (("java/lang/String", "coder", "B"), (.int 0))]) (A1 : Arv Z h b1 kA .char (0 : Int32) vs dv) : Met l Z EL1 NW (⟨"java/lang/String", "<init>", "([C)V"⟩ : MethodName) jdk_42_method_3_code 2 none [] ({ frames := 2, cells := 4, slots := 8, locals := 29 } : Room) #[(.ref a1), (.ref b1)] h [a1] (fun v h' => v = none ∧ Str Z h' a1 []) := by
  refine Met.intro pf_1 hEL hX (allS ⟨g1, O1.lt⟩ all0) ?_
  intro p e s m below meth c T W
  refine Goes.cast (show entryFrame m #[(.ref a1), (.ref b1)] 2 = mkF m 0 #[.val (.ref a1), .val (.ref b1)] [] by first | (simp [entryFrame, mkF, argsToLocals, Value.category]; done) | rfl) ?_
  refine g_aload_n W d_jdk_42_method_3_code_0 (pc' := 1) rfl rfl rfl ?_
  refine g_aload_n W d_jdk_42_method_3_code_1 (pc' := 2) rfl rfl rfl ?_
  refine g_iconst W d_jdk_42_method_3_code_2 (pc' := 3) (v := (0 : Int32)) rfl rfl ?_
  refine g_aload_n W d_jdk_42_method_3_code_3 (pc' := 4) rfl rfl rfl ?_
  refine g_arraylength W d_jdk_42_method_3_code_4 (pc' := 5) rfl A1 ?_
  refine g_aconst_null W d_jdk_42_method_3_code_5 (pc' := 6) rfl ?_
  refine g_special W d_jdk_42_method_3_code_6 (pc' := 9) (a := a1) (fr' := [a1]) (argsL := [(.ref b1), (.int (0 : Int32)), (.int (0 : Int32)), .null]) (rest := []) (Wd := 0) (kc := 4) (ks := 8) rfl rfl (hw _ (List.mem_of_getElem? (i := 11) rfl)) (hw _ (List.mem_of_getElem? (i := 12) rfl)) (hw _ (List.mem_of_getElem? (i := 14) rfl)) (by decide) rfl rfl (lenOf pd_0 rfl) rfl (allS (List.mem_of_getElem? (i := 0) rfl) (all0)) (by decide) (by decide) (Met.pays (rm_new4e hw hEL Sc hzc a1 b1 _ W.ext g1 O1) (hw _ (List.mem_of_getElem? (i := 14) rfl)) (hw _ (List.mem_of_getElem? (i := 6) rfl)) hEL (by decide) (by decide)) fun v6 T1 h3 W2 K4 q5 => ?_
  obtain ⟨rfl, S1⟩ := q5
  show Goes _ _ _ _ _ _ _ _ _ _ _ T1 (mkF m 9 #[.val (.ref a1), .val (.ref b1)] [])
  have K7 : Keep h h3 [a1] := ((Keep.refl h [a1]).trans K4 fun x q => by cases List.mem_singleton.mp q; exact Or.inl (List.mem_of_getElem? (i := 0) rfl))
  exact g_return W2 d_jdk_42_method_3_code_9 K7 ⟨rfl, S1⟩ (by decide) (by decide)
theorem nar_byte8 (x : Int32) : RoadKit.nar .byte (x.toInt8.toInt32) = x.toInt8.toInt32 := by
  show (x.toInt8.toInt32).toInt8.toInt32 = _
  simp
theorem d_jdk_43_method_3_code_0 : decode jdk_43_method_3_code 0 = .ok (.iload_n 0, 1) := by decide +kernel
theorem d_jdk_43_method_3_code_1 : decode jdk_43_method_3_code 1 = .ok (.sipush 255, 3) := by decide +kernel
theorem d_jdk_43_method_3_code_4 : decode jdk_43_method_3_code 4 = .ok (.if_icmp .gt 7, 3) := by decide +kernel
theorem d_jdk_43_method_3_code_7 : decode jdk_43_method_3_code 7 = .ok (.iconst 1, 1) := by decide +kernel
theorem d_jdk_43_method_3_code_8 : decode jdk_43_method_3_code 8 = .ok (.goto 4, 3) := by decide +kernel
theorem d_jdk_43_method_3_code_12 : decode jdk_43_method_3_code 12 = .ok (.ireturn, 1) := by decide +kernel
theorem pf_2 : plainFor (⟨"java/lang/StringLatin1", "canEncode", "(C)Z"⟩ : MethodName) = true := by first | (exact plainFor_of_name (by first | (simp [plainName, overriddenIn]; done) | decide +kernel)) | decide +kernel
set_option maxRecDepth 65536 in
set_option maxHeartbeats 40000000 in
theorem rm_canEncode {l : Launch} {Z : State} {a0 : Array Value} (hw : ∀ d ∈ tables_1, d.before a0 Z = true) (hEL : EW Z a0 EL1) {zc : Int32} (Sc : Sta Z Z.heap "java/lang/String" "COMPACT_STRINGS" "Z" (.int zc)) (hzc : ¬ zc = 0) (p1 : Int32) (h : Heap) (hX : Ext Z.heap h) (q1 : ¬ (255 : Int32) < p1) : Met l Z EL1 NW (⟨"java/lang/StringLatin1", "canEncode", "(C)Z"⟩ : MethodName) jdk_43_method_3_code 1 (some .boolean) [] ({ frames := 0, cells := 0, slots := 0, locals := 0 } : Room) #[(.int p1)] h [] (fun v h' => h = h' ∧ v = some (.int 1)) := by
  refine Met.intro pf_2 hEL hX (fun _ q => nomatch q) ?_
  intro p e s m below meth c T W
  refine Goes.cast (show entryFrame m #[(.int p1)] 1 = mkF m 0 #[.val (.int p1)] [] by first | (simp [entryFrame, mkF, argsToLocals, Value.category]; done) | rfl) ?_
  refine g_iload_n W d_jdk_43_method_3_code_0 (pc' := 1) rfl rfl ?_
  refine g_sipush W d_jdk_43_method_3_code_1 (pc' := 4) (v := (255 : Int32)) rfl (by decide) ?_
  refine g_icmpN W d_jdk_43_method_3_code_4 (pc' := 7) rfl (Jvm.Free.XT.ii_gt_f q1) ?_
  refine g_iconst W d_jdk_43_method_3_code_7 (pc' := 8) (v := (1 : Int32)) rfl rfl ?_
  refine g_goto W d_jdk_43_method_3_code_8 (pc' := 12) (by decide) (by decide) ?_
  exact g_ireturn W d_jdk_43_method_3_code_12 (by decide) rfl (Keep.refl h []) ⟨rfl, rfl⟩ (by decide) (by decide)
theorem d_jdk_43_method_46_code_0 : decode jdk_43_method_46_code 0 = .ok (.iconst 1, 1) := by decide +kernel
theorem d_jdk_43_method_46_code_1 : decode jdk_43_method_46_code 1 = .ok (.newarray .byte, 2) := by decide +kernel
theorem d_jdk_43_method_46_code_3 : decode jdk_43_method_46_code 3 = .ok (.dup, 1) := by decide +kernel
theorem d_jdk_43_method_46_code_4 : decode jdk_43_method_46_code 4 = .ok (.iconst 0, 1) := by decide +kernel
theorem d_jdk_43_method_46_code_5 : decode jdk_43_method_46_code 5 = .ok (.iload_n 0, 1) := by decide +kernel
theorem d_jdk_43_method_46_code_6 : decode jdk_43_method_46_code 6 = .ok (.i2b, 1) := by decide +kernel
theorem d_jdk_43_method_46_code_7 : decode jdk_43_method_46_code 7 = .ok (.bastore, 1) := by decide +kernel
theorem d_jdk_43_method_46_code_8 : decode jdk_43_method_46_code 8 = .ok (.areturn, 1) := by decide +kernel
theorem pf_3 : plainFor (⟨"java/lang/StringLatin1", "toBytes", "(C)[B"⟩ : MethodName) = true := by first | (exact plainFor_of_name (by first | (simp [plainName, overriddenIn]; done) | decide +kernel)) | decide +kernel
set_option maxRecDepth 65536 in
set_option maxHeartbeats 40000000 in
theorem rm_toBytes {l : Launch} {Z : State} {a0 : Array Value} (hw : ∀ d ∈ tables_1, d.before a0 Z = true) (hEL : EW Z a0 EL1) {zc : Int32} (Sc : Sta Z Z.heap "java/lang/String" "COMPACT_STRINGS" "Z" (.int zc)) (hzc : ¬ zc = 0) (p1 : Int32) (h : Heap) (hX : Ext Z.heap h)  : Met l Z EL1 NW (⟨"java/lang/StringLatin1", "toBytes", "(C)[B"⟩ : MethodName) jdk_43_method_46_code 1 (some (.array .byte)) [] ({ frames := 0, cells := 1, slots := 1, locals := 0 } : Room) #[(.int p1)] h [] (fun v h' => ∃ a k, v = some (.ref a) ∧ h.size ≤ a ∧ Arv Z h' a k .byte (1 : Int32) [(.int p1.toInt8.toInt32)] (.int (0 : Int32))) := by
  refine Met.intro pf_3 hEL hX (fun _ q => nomatch q) ?_
  intro p e s m below meth c T W
  refine Goes.cast (show entryFrame m #[(.int p1)] 1 = mkF m 0 #[.val (.int p1)] [] by first | (simp [entryFrame, mkF, argsToLocals, Value.category]; done) | rfl) ?_
  refine g_iconst W d_jdk_43_method_46_code_0 (pc' := 1) (v := (1 : Int32)) rfl rfl ?_
  refine g_newarray W d_jdk_43_method_46_code_1 (pc' := 3) (cap := 1) rfl (hw _ (List.mem_of_getElem? (i := 19) rfl)) (by decide) (by decide) (by decide) (by decide) (by decide) fun T1 h3 b1 kA7 g4 W2 E5 A6 => ?_
  have A8 : Arv Z h3 b1 kA7 .byte (1 : Int32) [(.int (0 : Int32))] (.int (0 : Int32)) := A6.pad (pad_rep [] (.int (0 : Int32)) 1)
  refine g_dup W2 d_jdk_43_method_46_code_3 (pc' := 4) rfl rfl ?_
  refine g_iconst W2 d_jdk_43_method_46_code_4 (pc' := 5) (v := (0 : Int32)) rfl rfl ?_
  refine g_iload_n W2 d_jdk_43_method_46_code_5 (pc' := 6) rfl rfl ?_
  refine g_i2b W2 d_jdk_43_method_46_code_6 (pc' := 7) rfl ?_
  refine g_bastore W2 d_jdk_43_method_46_code_7 (pc' := 8) (i := 0) (x' := p1.toInt8.toInt32) rfl (nar_byte8 p1) A8 ⟨by decide, by decide⟩ rfl (Nat.le_of_ble_eq_true rfl) (List.mem_of_getElem? (i := 0) rfl) fun T9 h11 W10 R12 A13 => ?_
  have A14 : Arv Z h11 b1 kA7 .byte (1 : Int32) [(.int p1.toInt8.toInt32)] (.int (0 : Int32)) := A13
  have K15 : Keep h h11 [] := (((Keep.refl h []).ext E5).wr R12 (Or.inr (Nat.le_of_eq g4.symm)))
  exact g_areturn W10 d_jdk_43_method_46_code_8 rfl rfl rfl K15 ⟨_, _, rfl, Nat.le_of_eq g4.symm, A14⟩ (by decide) (by decide)
theorem d_jdk_42_method_151_code_0 : decode jdk_42_method_151_code 0 = .ok (.aload_n 0, 1) := by decide +kernel
theorem d_jdk_42_method_151_code_1 : decode jdk_42_method_151_code 1 = .ok (.invokespecial 1, 3) := by decide +kernel
theorem d_jdk_42_method_151_code_4 : decode jdk_42_method_151_code 4 = .ok (.aload_n 0, 1) := by decide +kernel
theorem d_jdk_42_method_151_code_5 : decode jdk_42_method_151_code 5 = .ok (.aload_n 1, 1) := by decide +kernel
theorem d_jdk_42_method_151_code_6 : decode jdk_42_method_151_code 6 = .ok (.putfield 9, 3) := by decide +kernel
theorem d_jdk_42_method_151_code_9 : decode jdk_42_method_151_code 9 = .ok (.aload_n 0, 1) := by decide +kernel
theorem d_jdk_42_method_151_code_10 : decode jdk_42_method_151_code 10 = .ok (.iload_n 2, 1) := by decide +kernel
theorem d_jdk_42_method_151_code_11 : decode jdk_42_method_151_code 11 = .ok (.putfield 15, 3) := by decide +kernel
theorem d_jdk_42_method_151_code_14 : decode jdk_42_method_151_code 14 = .ok (.return_, 1) := by decide +kernel
theorem pf_4 : plainFor (⟨"java/lang/String", "<init>", "([BB)V"⟩ : MethodName) = true := by first | (exact plainFor_of_name (by first | (simp [plainName, overriddenIn]; done) | decide +kernel)) | decide +kernel
set_option maxRecDepth 65536 in
set_option maxHeartbeats 40000000 in
theorem rm_newB {l : Launch} {Z : State} {a0 : Array Value} (hw : ∀ d ∈ tables_1, d.before a0 Z = true) (hEL : EW Z a0 EL1) {zc : Int32} (Sc : Sta Z Z.heap "java/lang/String" "COMPACT_STRINGS" "Z" (.int zc)) (hzc : ¬ zc = 0) (a1 b1 : Addr) (v0 c0 : Value) (h : Heap) (hX : Ext Z.heap h) (g1 : Z.heap.size ≤ a1) (O1 : Obj Z h a1 "java/lang/String" [(("java/lang/String", "value", "[B"), v0), (("java/lang/String", "coder", "B"), c0)]) : Met l Z EL1 NW (⟨"java/lang/String", "<init>", "([BB)V"⟩ : MethodName) jdk_42_method_151_code 3 none [] ({ frames := 1, cells := 0, slots := 0, locals := 12 } : Room) #[(.ref a1), (.ref b1), (.int (0 : Int32))] h [a1] (fun v h' => v = none ∧ Obj Z h' a1 "java/lang/String" [(("java/lang/String", "value", "[B"), (.ref b1)), (("java/lang/String", "coder", "B"), (.int (0 : Int32)))]) := by
  refine Met.intro pf_4 hEL hX (allS ⟨g1, O1.lt⟩ all0) ?_
  intro p e s m below meth c T W
  refine Goes.cast (show entryFrame m #[(.ref a1), (.ref b1), (.int (0 : Int32))] 3 = mkF m 0 #[.val (.ref a1), .val (.ref b1), .val (.int (0 : Int32))] [] by first | (simp [entryFrame, mkF, argsToLocals, Value.category]; done) | rfl) ?_
  refine g_aload_n W d_jdk_42_method_151_code_0 (pc' := 1) rfl rfl rfl ?_
  refine g_initO W d_jdk_42_method_151_code_1 (pc' := 4) (Wd := 0) rfl (hw _ (List.mem_of_getElem? (i := 15) rfl)) (hw _ (List.mem_of_getElem? (i := 16) rfl)) (hw _ (List.mem_of_getElem? (i := 17) rfl)) rfl rfl (by decide) (by decide) fun T1 W2 => ?_
  refine g_aload_n W2 d_jdk_42_method_151_code_4 (pc' := 5) rfl rfl rfl ?_
  refine g_aload_n W2 d_jdk_42_method_151_code_5 (pc' := 6) rfl rfl rfl ?_
  refine g_putfield W2 d_jdk_42_method_151_code_6 (pc' := 9) (host := "") (ty := (.array .byte)) rfl (Or.inl (hw _ (List.mem_of_getElem? (i := 24) rfl))) Via.refl (O1.get 0 rfl) O1.1 (Or.inr ⟨(hw _ (List.mem_of_getElem? (i := 20) rfl)), rfl, rfl⟩) (hw _ (List.mem_of_getElem? (i := 5) rfl)) (by decide) rfl rfl (List.mem_of_getElem? (i := 0) rfl) fun T3 h5 W4 R6 => ?_
  have O7 : Obj Z h5 a1 "java/lang/String" [(("java/lang/String", "value", "[B"), (.ref b1)), (("java/lang/String", "coder", "B"), c0)] := O1.put R6 0 rfl (dis_Str hw)
  refine g_aload_n W4 d_jdk_42_method_151_code_9 (pc' := 10) rfl rfl rfl ?_
  refine g_iload_n W4 d_jdk_42_method_151_code_10 (pc' := 11) rfl rfl ?_
  refine g_putfield W4 d_jdk_42_method_151_code_11 (pc' := 14) (host := "") (ty := .byte) rfl (Or.inl (hw _ (List.mem_of_getElem? (i := 25) rfl))) Via.refl (O7.get 1 rfl) O7.1 (Or.inr ⟨(hw _ (List.mem_of_getElem? (i := 21) rfl)), rfl, rfl⟩) (hw _ (List.mem_of_getElem? (i := 5) rfl)) (by decide) rfl rfl (List.mem_of_getElem? (i := 0) rfl) fun T8 h10 W9 R11 => ?_
  have O12 : Obj Z h10 a1 "java/lang/String" [(("java/lang/String", "value", "[B"), (.ref b1)), (("java/lang/String", "coder", "B"), (.int (0 : Int32)))] := O7.put R11 1 rfl (dis_Str hw)
  have K13 : Keep h h10 [a1] := (((Keep.refl h [a1]).wr R6 (Or.inl (List.mem_of_getElem? (i := 0) rfl))).wr R11 (Or.inl (List.mem_of_getElem? (i := 0) rfl)))
  exact g_return W9 d_jdk_42_method_151_code_14 K13 ⟨rfl, O12⟩ (by decide) (by decide)
theorem d_jdk_42_method_139_code_0 : decode jdk_42_method_139_code 0 = .ok (.getstatic 38, 3) := by decide +kernel
theorem d_jdk_42_method_139_code_3 : decode jdk_42_method_139_code 3 = .ok (.ifCond .eq 23, 3) := by decide +kernel
theorem d_jdk_42_method_139_code_6 : decode jdk_42_method_139_code 6 = .ok (.iload_n 0, 1) := by decide +kernel
theorem d_jdk_42_method_139_code_7 : decode jdk_42_method_139_code 7 = .ok (.invokestatic 1015, 3) := by decide +kernel
theorem pd_1 : parseMethodDescriptor "(C)Z" = some ⟨[.char], some .boolean⟩ := by decide +kernel
theorem d_jdk_42_method_139_code_10 : decode jdk_42_method_139_code 10 = .ok (.ifCond .eq 16, 3) := by decide +kernel
theorem d_jdk_42_method_139_code_13 : decode jdk_42_method_139_code 13 = .ok (.new 10, 3) := by decide +kernel
theorem d_jdk_42_method_139_code_16 : decode jdk_42_method_139_code 16 = .ok (.dup, 1) := by decide +kernel
theorem d_jdk_42_method_139_code_17 : decode jdk_42_method_139_code 17 = .ok (.iload_n 0, 1) := by decide +kernel
theorem d_jdk_42_method_139_code_18 : decode jdk_42_method_139_code 18 = .ok (.invokestatic 1018, 3) := by decide +kernel
theorem pd_2 : parseMethodDescriptor "(C)[B" = some ⟨[.char], some (.array .byte)⟩ := by decide +kernel
theorem d_jdk_42_method_139_code_21 : decode jdk_42_method_139_code 21 = .ok (.iconst 0, 1) := by decide +kernel
theorem d_jdk_42_method_139_code_22 : decode jdk_42_method_139_code 22 = .ok (.invokespecial 209, 3) := by decide +kernel
theorem pd_3 : parseMethodDescriptor "([BB)V" = some ⟨[(.array .byte), .byte], none⟩ := by decide +kernel
theorem d_jdk_42_method_139_code_25 : decode jdk_42_method_139_code 25 = .ok (.areturn, 1) := by decide +kernel
theorem pf_5 : plainFor (⟨"java/lang/String", "valueOf", "(C)Ljava/lang/String;"⟩ : MethodName) = true := by first | (exact plainFor_of_name (by first | (simp [plainName, overriddenIn]; done) | decide +kernel)) | decide +kernel
set_option maxRecDepth 65536 in
set_option maxHeartbeats 40000000 in
theorem rm_valueOf {l : Launch} {Z : State} {a0 : Array Value} (hw : ∀ d ∈ tables_1, d.before a0 Z = true) (hEL : EW Z a0 EL1) {zc : Int32} (Sc : Sta Z Z.heap "java/lang/String" "COMPACT_STRINGS" "Z" (.int zc)) (hzc : ¬ zc = 0) (p1 : Int32) (h : Heap) (hX : Ext Z.heap h) (q1 : ¬ p1 < 0 ∧ ¬ (255 : Int32) < p1) : Met l Z EL1 NW (⟨"java/lang/String", "valueOf", "(C)Ljava/lang/String;"⟩ : MethodName) jdk_42_method_139_code 1 (some (.object "java/lang/String")) [] ({ frames := 2, cells := 2, slots := 5, locals := 40 } : Room) #[(.int p1)] h [] (fun v h' => ∃ a, v = some (.ref a) ∧ Str Z h' a [p1]) := by
  refine Met.intro pf_5 hEL hX (fun _ q => nomatch q) ?_
  intro p e s m below meth c T W
  refine Goes.cast (show entryFrame m #[(.int p1)] 1 = mkF m 0 #[.val (.int p1)] [] by first | (simp [entryFrame, mkF, argsToLocals, Value.category]; done) | rfl) ?_
  refine g_getstatic W d_jdk_42_method_139_code_0 (pc' := 3) rfl (hw _ (List.mem_of_getElem? (i := 75) rfl)) Via.refl Sc fun T1 W2 => ?_
  refine g_ifN W2 d_jdk_42_method_139_code_3 (pc' := 6) rfl (Jvm.Free.XT.i0_eq_f hzc) ?_
  refine g_iload_n W2 d_jdk_42_method_139_code_6 (pc' := 7) rfl rfl ?_
  refine g_static W2 d_jdk_42_method_139_code_7 (pc' := 10) (fr' := []) (argsL := [(.int p1)]) (rest := []) (Wd := 0) (kc := 0) (ks := 0) rfl (hw _ (List.mem_of_getElem? (i := 95) rfl)) (hw _ (List.mem_of_getElem? (i := 96) rfl)) (hw _ (List.mem_of_getElem? (i := 97) rfl)) (hw _ (List.mem_of_getElem? (i := 98) rfl)) (by decide) rfl rfl (lenOf pd_1 rfl) rfl all0 (by decide) (by decide) (Met.pays (rm_canEncode hw hEL Sc hzc p1 _ W2.ext q1.2) (hw _ (List.mem_of_getElem? (i := 98) rfl)) (hw _ (List.mem_of_getElem? (i := 97) rfl)) hEL (by decide) (by decide)) fun v8 T3 h5 W4 K6 q7 => ?_
  obtain ⟨rfl, rfl⟩ := q7
  show Goes _ _ _ _ _ _ _ _ _ _ _ T3 (mkF m 10 #[.val (.int p1)] [(.int (1 : Int32))])
  refine g_ifN W4 d_jdk_42_method_139_code_10 (pc' := 13) rfl (Jvm.Free.XT.i0_eq_f (by decide)) ?_
  refine g_new W4 d_jdk_42_method_139_code_13 (pc' := 16) rfl (hw _ (List.mem_of_getElem? (i := 99) rfl)) (hw _ (List.mem_of_getElem? (i := 5) rfl)) (hw _ (List.mem_of_getElem? (i := 6) rfl)) (by decide) (by decide) fun T9 h11 b1 g12 W10 E13 A14 D15 => ?_
  have O_b1 := new_Str hw A14 D15
  refine g_dup W10 d_jdk_42_method_139_code_16 (pc' := 17) rfl rfl ?_
  refine g_iload_n W10 d_jdk_42_method_139_code_17 (pc' := 18) rfl rfl ?_
  refine g_static W10 d_jdk_42_method_139_code_18 (pc' := 21) (fr' := []) (argsL := [(.int p1)]) (rest := [(.ref b1), (.ref b1)]) (Wd := 2) (kc := 1) (ks := 1) rfl (hw _ (List.mem_of_getElem? (i := 100) rfl)) (hw _ (List.mem_of_getElem? (i := 101) rfl)) (hw _ (List.mem_of_getElem? (i := 97) rfl)) (hw _ (List.mem_of_getElem? (i := 102) rfl)) (by decide) rfl rfl (lenOf pd_2 rfl) rfl all0 (by decide) (by decide) (Met.pays (rm_toBytes hw hEL Sc hzc p1 _ W10.ext) (hw _ (List.mem_of_getElem? (i := 102) rfl)) (hw _ (List.mem_of_getElem? (i := 97) rfl)) hEL (by decide) (by decide)) fun v21 T16 h18 W17 K19 q20 => ?_
  obtain ⟨b2, kb, rfl, g2, A2⟩ := q20
  show Goes _ _ _ _ _ _ _ _ _ _ _ T16 (mkF m 21 #[.val (.int p1)] [(.ref b2), (.ref b1), (.ref b1)])
  refine g_iconst W17 d_jdk_42_method_139_code_21 (pc' := 22) (v := (0 : Int32)) rfl rfl ?_
  have lt22 : b2 ≠ b1 := Nat.ne_of_gt (Nat.lt_of_lt_of_le O_b1.lt g2)
  have K29 : Keep h11 h18 [] := ((Keep.refl h11 []).trans K19 fun _ q => nomatch q)
  have F30 := O_b1.mv K29
  refine g_special W17 d_jdk_42_method_139_code_22 (pc' := 25) (a := b1) (fr' := [b1]) (argsL := [(.ref b2), (.int (0 : Int32))]) (rest := [(.ref b1)]) (Wd := 1) (kc := 0) (ks := 0) rfl rfl (hw _ (List.mem_of_getElem? (i := 103) rfl)) (hw _ (List.mem_of_getElem? (i := 104) rfl)) (hw _ (List.mem_of_getElem? (i := 105) rfl)) (by decide) rfl rfl (lenOf pd_3 rfl) rfl (allS (List.mem_of_getElem? (i := 0) rfl) (all0)) (by decide) (by decide) (Met.pays (rm_newB hw hEL Sc hzc b1 b2 _ _ _ W17.ext (W17.frs b1 (List.mem_of_getElem? (i := 0) rfl)).1 F30) (hw _ (List.mem_of_getElem? (i := 105) rfl)) (hw _ (List.mem_of_getElem? (i := 6) rfl)) hEL (by decide) (by decide)) fun v28 T23 h25 W24 K26 q27 => ?_
  obtain ⟨rfl, O2⟩ := q27
  show Goes _ _ _ _ _ _ _ _ _ _ _ T23 (mkF m 25 #[.val (.int p1)] [(.ref b1)])
  have A3 := A2.keep K26 (ninS lt22 nin0)
  have K31 : Keep h h25 [] := ((((Keep.refl h []).ext E13).trans K19 fun _ q => nomatch q).trans K26 fun x q => by cases List.mem_singleton.mp q; exact Or.inr (Nat.le_of_eq g12.symm))
  exact g_areturn W24 d_jdk_42_method_139_code_25 rfl rfl rfl K31 ⟨_, rfl, _, _, _, _, _, O2.1, O2.get 0 rfl, O2.get 1 rfl, A3, Or.inl ⟨rfl, rfl, rfl, fun c q => by cases List.mem_singleton.mp q; exact q1.2⟩, up16 (lowK q1 lowN), Nat.le_of_ble_eq_true rfl⟩ (by decide) (by decide)
theorem eqref_v {args : Array Value} {first s : State} {o : Option Outcome} {idx : List Nat} {a b : Term} {k : Addr} (h : (Jvm.Cond.eq a b).value args first o s idx = some true) (hb : b.eval args first o idx s = some (.ref k)) : a.eval args first o idx s = some (.ref k) := by
  simp only [Cond.value, hb] at h
  cases ha : a.eval args first o idx s with
  | none => simp [ha] at h
  | some v => cases v <;> simp_all
theorem d_method_2_code_0 : decode method_2_code 0 = .ok (.iload_n 0, 1) := by decide +kernel
theorem d_method_2_code_1 : decode method_2_code 1 = .ok (.iconst 3, 1) := by decide +kernel
theorem d_method_2_code_2 : decode method_2_code 2 = .ok (.iand, 1) := by decide +kernel
theorem d_method_2_code_3 : decode method_2_code 3 = .ok (.istore_n 2, 1) := by decide +kernel
theorem d_method_2_code_4 : decode method_2_code 4 = .ok (.iload_n 1, 1) := by decide +kernel
theorem d_method_2_code_5 : decode method_2_code 5 = .ok (.sipush 255, 3) := by decide +kernel
theorem d_method_2_code_8 : decode method_2_code 8 = .ok (.iand, 1) := by decide +kernel
theorem d_method_2_code_9 : decode method_2_code 9 = .ok (.i2c, 1) := by decide +kernel
theorem d_method_2_code_10 : decode method_2_code 10 = .ok (.istore_n 3, 1) := by decide +kernel
theorem d_method_2_code_11 : decode method_2_code 11 = .ok (.iload_n 1, 1) := by decide +kernel
theorem d_method_2_code_12 : decode method_2_code 12 = .ok (.bipush 8, 2) := by decide +kernel
theorem d_method_2_code_14 : decode method_2_code 14 = .ok (.iushr, 1) := by decide +kernel
theorem d_method_2_code_15 : decode method_2_code 15 = .ok (.sipush 255, 3) := by decide +kernel
theorem d_method_2_code_18 : decode method_2_code 18 = .ok (.iand, 1) := by decide +kernel
theorem d_method_2_code_19 : decode method_2_code 19 = .ok (.i2c, 1) := by decide +kernel
theorem d_method_2_code_20 : decode method_2_code 20 = .ok (.istore 4, 2) := by decide +kernel
theorem d_method_2_code_22 : decode method_2_code 22 = .ok (.iload_n 1, 1) := by decide +kernel
theorem d_method_2_code_23 : decode method_2_code 23 = .ok (.bipush 16, 2) := by decide +kernel
theorem d_method_2_code_25 : decode method_2_code 25 = .ok (.iushr, 1) := by decide +kernel
theorem d_method_2_code_26 : decode method_2_code 26 = .ok (.sipush 255, 3) := by decide +kernel
theorem d_method_2_code_29 : decode method_2_code 29 = .ok (.iand, 1) := by decide +kernel
theorem d_method_2_code_30 : decode method_2_code 30 = .ok (.i2c, 1) := by decide +kernel
theorem d_method_2_code_31 : decode method_2_code 31 = .ok (.istore 5, 2) := by decide +kernel
theorem d_method_2_code_33 : decode method_2_code 33 = .ok (.iload_n 2, 1) := by decide +kernel
theorem d_method_2_code_34 : decode method_2_code 34 = .ok (.ifCond .ne 14, 3) := by decide +kernel
theorem d_method_2_code_37 : decode method_2_code 37 = .ok (.new 7, 3) := by decide +kernel
theorem d_method_2_code_40 : decode method_2_code 40 = .ok (.dup, 1) := by decide +kernel
theorem d_method_2_code_41 : decode method_2_code 41 = .ok (.iconst 0, 1) := by decide +kernel
theorem d_method_2_code_42 : decode method_2_code 42 = .ok (.newarray .char, 2) := by decide +kernel
theorem d_method_2_code_44 : decode method_2_code 44 = .ok (.invokespecial 9, 3) := by decide +kernel
theorem pd_4 : parseMethodDescriptor "([C)V" = some ⟨[(.array .char)], none⟩ := by decide +kernel
theorem d_method_2_code_47 : decode method_2_code 47 = .ok (.areturn, 1) := by decide +kernel
theorem d_method_2_code_48 : decode method_2_code 48 = .ok (.iload_n 2, 1) := by decide +kernel
theorem d_method_2_code_49 : decode method_2_code 49 = .ok (.iconst 1, 1) := by decide +kernel
theorem d_method_2_code_50 : decode method_2_code 50 = .ok (.if_icmp .ne 8, 3) := by decide +kernel
theorem d_method_2_code_53 : decode method_2_code 53 = .ok (.iload_n 3, 1) := by decide +kernel
theorem d_method_2_code_54 : decode method_2_code 54 = .ok (.invokestatic 12, 3) := by decide +kernel
theorem pd_5 : parseMethodDescriptor "(C)Ljava/lang/String;" = some ⟨[.char], some (.object "java/lang/String")⟩ := by decide +kernel
theorem d_method_2_code_57 : decode method_2_code 57 = .ok (.areturn, 1) := by decide +kernel
theorem d_method_2_code_58 : decode method_2_code 58 = .ok (.iload_n 2, 1) := by decide +kernel
theorem d_method_2_code_59 : decode method_2_code 59 = .ok (.iconst 2, 1) := by decide +kernel
theorem d_method_2_code_60 : decode method_2_code 60 = .ok (.if_icmp .ne 23, 3) := by decide +kernel
theorem d_method_2_code_63 : decode method_2_code 63 = .ok (.new 7, 3) := by decide +kernel
theorem d_method_2_code_66 : decode method_2_code 66 = .ok (.dup, 1) := by decide +kernel
theorem d_method_2_code_67 : decode method_2_code 67 = .ok (.iconst 2, 1) := by decide +kernel
theorem d_method_2_code_68 : decode method_2_code 68 = .ok (.newarray .char, 2) := by decide +kernel
theorem d_method_2_code_70 : decode method_2_code 70 = .ok (.dup, 1) := by decide +kernel
theorem d_method_2_code_71 : decode method_2_code 71 = .ok (.iconst 0, 1) := by decide +kernel
theorem d_method_2_code_72 : decode method_2_code 72 = .ok (.iload_n 3, 1) := by decide +kernel
theorem d_method_2_code_73 : decode method_2_code 73 = .ok (.castore, 1) := by decide +kernel
theorem d_method_2_code_74 : decode method_2_code 74 = .ok (.dup, 1) := by decide +kernel
theorem d_method_2_code_75 : decode method_2_code 75 = .ok (.iconst 1, 1) := by decide +kernel
theorem d_method_2_code_76 : decode method_2_code 76 = .ok (.iload 4, 2) := by decide +kernel
theorem d_method_2_code_78 : decode method_2_code 78 = .ok (.castore, 1) := by decide +kernel
theorem d_method_2_code_79 : decode method_2_code 79 = .ok (.invokespecial 9, 3) := by decide +kernel
theorem d_method_2_code_82 : decode method_2_code 82 = .ok (.areturn, 1) := by decide +kernel
theorem d_method_2_code_83 : decode method_2_code 83 = .ok (.new 7, 3) := by decide +kernel
theorem d_method_2_code_86 : decode method_2_code 86 = .ok (.dup, 1) := by decide +kernel
theorem d_method_2_code_87 : decode method_2_code 87 = .ok (.iconst 3, 1) := by decide +kernel
theorem d_method_2_code_88 : decode method_2_code 88 = .ok (.newarray .char, 2) := by decide +kernel
theorem d_method_2_code_90 : decode method_2_code 90 = .ok (.dup, 1) := by decide +kernel
theorem d_method_2_code_91 : decode method_2_code 91 = .ok (.iconst 0, 1) := by decide +kernel
theorem d_method_2_code_92 : decode method_2_code 92 = .ok (.iload_n 3, 1) := by decide +kernel
theorem d_method_2_code_93 : decode method_2_code 93 = .ok (.castore, 1) := by decide +kernel
theorem d_method_2_code_94 : decode method_2_code 94 = .ok (.dup, 1) := by decide +kernel
theorem d_method_2_code_95 : decode method_2_code 95 = .ok (.iconst 1, 1) := by decide +kernel
theorem d_method_2_code_96 : decode method_2_code 96 = .ok (.iload 4, 2) := by decide +kernel
theorem d_method_2_code_98 : decode method_2_code 98 = .ok (.castore, 1) := by decide +kernel
theorem d_method_2_code_99 : decode method_2_code 99 = .ok (.dup, 1) := by decide +kernel
theorem d_method_2_code_100 : decode method_2_code 100 = .ok (.iconst 2, 1) := by decide +kernel
theorem d_method_2_code_101 : decode method_2_code 101 = .ok (.iload 5, 2) := by decide +kernel
theorem d_method_2_code_103 : decode method_2_code 103 = .ok (.castore, 1) := by decide +kernel
theorem d_method_2_code_104 : decode method_2_code 104 = .ok (.invokespecial 9, 3) := by decide +kernel
theorem d_method_2_code_107 : decode method_2_code 107 = .ok (.areturn, 1) := by decide +kernel
theorem pf_6 : plainFor (⟨"com/example/catalog/catalog/write/DefaultVersionFlagPinningPinLaw", "draw", "(II)Ljava/lang/String;"⟩ : MethodName) = true := by first | (exact plainFor_of_name (by first | (simp [plainName, overriddenIn]; done) | decide +kernel)) | decide +kernel
set_option maxRecDepth 65536 in
set_option maxHeartbeats 40000000 in
theorem rm_draw {l : Launch} {Z : State} {a0 : Array Value} (hw : ∀ d ∈ tables_1, d.before a0 Z = true) (hEL : EW Z a0 EL1) {zc : Int32} (Sc : Sta Z Z.heap "java/lang/String" "COMPACT_STRINGS" "Z" (.int zc)) (hzc : ¬ zc = 0) (p1 p2 : Int32) (h : Heap) (hX : Ext Z.heap h)  : Met l Z EL1 NW (⟨"com/example/catalog/catalog/write/DefaultVersionFlagPinningPinLaw", "draw", "(II)Ljava/lang/String;"⟩ : MethodName) method_2_code 6 (some (.object "java/lang/String")) [] ({ frames := 5, cells := 6, slots := 16, locals := 120 } : Room) #[(.int p1), (.int p2)] h [] (fun v h' => ∃ a cs, v = some (.ref a) ∧ Str Z h' a cs) := by
  refine Met.intro pf_6 hEL hX (fun _ q => nomatch q) ?_
  intro p e s m below meth c T W
  refine Goes.cast (show entryFrame m #[(.int p1), (.int p2)] 6 = mkF m 0 #[.val (.int p1), .val (.int p2), .unset, .unset, .unset, .unset] [] by first | (simp [entryFrame, mkF, argsToLocals, Value.category]; done) | rfl) ?_
  refine g_iload_n W d_method_2_code_0 (pc' := 1) rfl rfl ?_
  refine g_iconst W d_method_2_code_1 (pc' := 2) (v := (3 : Int32)) rfl rfl ?_
  refine g_iand W d_method_2_code_2 (pc' := 3) rfl ?_
  refine g_istore_n W d_method_2_code_3 (pc' := 4) (L' := #[.val (.int p1), .val (.int p2), .val (.int (p1 &&& (3 : Int32))), .unset, .unset, .unset]) rfl rfl ?_
  refine g_iload_n W d_method_2_code_4 (pc' := 5) rfl rfl ?_
  refine g_sipush W d_method_2_code_5 (pc' := 8) (v := (255 : Int32)) rfl (by decide) ?_
  refine g_iand W d_method_2_code_8 (pc' := 9) rfl ?_
  refine g_i2c W d_method_2_code_9 (pc' := 10) rfl ?_
  refine g_istore_n W d_method_2_code_10 (pc' := 11) (L' := #[.val (.int p1), .val (.int p2), .val (.int (p1 &&& (3 : Int32))), .val (.int ((p2 &&& (255 : Int32)).toUInt32.toUInt16.toUInt32.toInt32)), .unset, .unset]) rfl rfl ?_
  refine g_iload_n W d_method_2_code_11 (pc' := 12) rfl rfl ?_
  refine g_bipush W d_method_2_code_12 (pc' := 14) (v := (8 : Int32)) rfl (by decide) ?_
  refine g_iushr W d_method_2_code_14 (pc' := 15) rfl ?_
  refine g_sipush W d_method_2_code_15 (pc' := 18) (v := (255 : Int32)) rfl (by decide) ?_
  refine g_iand W d_method_2_code_18 (pc' := 19) rfl ?_
  refine g_i2c W d_method_2_code_19 (pc' := 20) rfl ?_
  refine g_istore W d_method_2_code_20 (pc' := 22) (L' := #[.val (.int p1), .val (.int p2), .val (.int (p1 &&& (3 : Int32))), .val (.int ((p2 &&& (255 : Int32)).toUInt32.toUInt16.toUInt32.toInt32)), .val (.int ((((p2.toUInt32 >>> ((8 : Int32) &&& 31).toUInt32).toInt32) &&& (255 : Int32)).toUInt32.toUInt16.toUInt32.toInt32)), .unset]) rfl rfl ?_
  refine g_iload_n W d_method_2_code_22 (pc' := 23) rfl rfl ?_
  refine g_bipush W d_method_2_code_23 (pc' := 25) (v := (16 : Int32)) rfl (by decide) ?_
  refine g_iushr W d_method_2_code_25 (pc' := 26) rfl ?_
  refine g_sipush W d_method_2_code_26 (pc' := 29) (v := (255 : Int32)) rfl (by decide) ?_
  refine g_iand W d_method_2_code_29 (pc' := 30) rfl ?_
  refine g_i2c W d_method_2_code_30 (pc' := 31) rfl ?_
  refine g_istore W d_method_2_code_31 (pc' := 33) (L' := #[.val (.int p1), .val (.int p2), .val (.int (p1 &&& (3 : Int32))), .val (.int ((p2 &&& (255 : Int32)).toUInt32.toUInt16.toUInt32.toInt32)), .val (.int ((((p2.toUInt32 >>> ((8 : Int32) &&& 31).toUInt32).toInt32) &&& (255 : Int32)).toUInt32.toUInt16.toUInt32.toInt32)), .val (.int ((((p2.toUInt32 >>> ((16 : Int32) &&& 31).toUInt32).toInt32) &&& (255 : Int32)).toUInt32.toUInt16.toUInt32.toInt32))]) rfl rfl ?_
  refine g_iload_n W d_method_2_code_33 (pc' := 34) rfl rfl ?_
  by_cases c1 : (p1 &&& (3 : Int32)) = 0
  · refine g_ifN W d_method_2_code_34 (pc' := 37) rfl (Jvm.Free.XT.i0_ne_f c1) ?_
    refine g_new W d_method_2_code_37 (pc' := 40) rfl (hw _ (List.mem_of_getElem? (i := 4) rfl)) (hw _ (List.mem_of_getElem? (i := 5) rfl)) (hw _ (List.mem_of_getElem? (i := 6) rfl)) (by decide) (by decide) fun T2 h4 b1 g5 W3 E6 A7 D8 => ?_
    have O_b1 := new_Str hw A7 D8
    refine g_dup W3 d_method_2_code_40 (pc' := 41) rfl rfl ?_
    refine g_iconst W3 d_method_2_code_41 (pc' := 42) (v := (0 : Int32)) rfl rfl ?_
    refine g_newarray W3 d_method_2_code_42 (pc' := 44) (cap := 0) rfl (hw _ (List.mem_of_getElem? (i := 7) rfl)) (by decide) (by decide) (by decide) (by decide) (by decide) fun T9 h11 b2 kA15 g12 W10 E13 A14 => ?_
    have A16 : Arv Z h11 b2 kA15 .char (0 : Int32) [] (.int (0 : Int32)) := A14.pad (pad_rep [] (.int (0 : Int32)) 0)
    have K17 : Keep h4 h11 [] := ((Keep.refl h4 []).ext E13)
    have F18 := O_b1.mv K17
    refine g_special W10 d_method_2_code_44 (pc' := 47) (a := b1) (fr' := [b1]) (argsL := [(.ref b2)]) (rest := [(.ref b1)]) (Wd := 1) (kc := 4) (ks := 8) rfl rfl (hw _ (List.mem_of_getElem? (i := 8) rfl)) (hw _ (List.mem_of_getElem? (i := 9) rfl)) (hw _ (List.mem_of_getElem? (i := 10) rfl)) (by decide) rfl rfl (lenOf pd_4 rfl) rfl (allS (List.mem_of_getElem? (i := 1) rfl) (all0)) (by decide) (by decide) (Met.pays (rm_new1e hw hEL Sc hzc b1 b2 _ _ _ _ W10.ext (W10.frs b1 (List.mem_of_getElem? (i := 1) rfl)).1 F18 A16) (hw _ (List.mem_of_getElem? (i := 10) rfl)) (hw _ (List.mem_of_getElem? (i := 6) rfl)) hEL (by decide) (by decide)) fun v24 T19 h21 W20 K22 q23 => ?_
    obtain ⟨rfl, S_b1⟩ := q23
    show Goes _ _ _ _ _ _ _ _ _ _ _ T19 (mkF m 47 #[.val (.int p1), .val (.int p2), .val (.int (p1 &&& (3 : Int32))), .val (.int ((p2 &&& (255 : Int32)).toUInt32.toUInt16.toUInt32.toInt32)), .val (.int ((((p2.toUInt32 >>> ((8 : Int32) &&& 31).toUInt32).toInt32) &&& (255 : Int32)).toUInt32.toUInt16.toUInt32.toInt32)), .val (.int ((((p2.toUInt32 >>> ((16 : Int32) &&& 31).toUInt32).toInt32) &&& (255 : Int32)).toUInt32.toUInt16.toUInt32.toInt32))] [(.ref b1)])
    have K25 : Keep h h21 [] := ((((Keep.refl h []).ext E6).ext E13).trans K22 fun x q => by cases List.mem_singleton.mp q; exact Or.inr (Nat.le_of_eq g5.symm))
    exact g_areturn W20 d_method_2_code_47 rfl rfl rfl K25 ⟨_, _, rfl, S_b1⟩ (by decide) (by decide)
  · refine g_ifY W d_method_2_code_34 (pc' := 48) (by decide) (by decide) (Jvm.Free.XT.i0_ne_t c1) ?_
    refine g_iload_n W d_method_2_code_48 (pc' := 49) rfl rfl ?_
    refine g_iconst W d_method_2_code_49 (pc' := 50) (v := (1 : Int32)) rfl rfl ?_
    by_cases c26 : (p1 &&& (3 : Int32)) = (1 : Int32)
    · refine g_icmpN W d_method_2_code_50 (pc' := 53) rfl (Jvm.Free.XT.ii_ne_f c26) ?_
      refine g_iload_n W d_method_2_code_53 (pc' := 54) rfl rfl ?_
      refine g_static W d_method_2_code_54 (pc' := 57) (fr' := []) (argsL := [(.int ((p2 &&& (255 : Int32)).toUInt32.toUInt16.toUInt32.toInt32))]) (rest := []) (Wd := 0) (kc := 2) (ks := 5) rfl (hw _ (List.mem_of_getElem? (i := 92) rfl)) (hw _ (List.mem_of_getElem? (i := 93) rfl)) (hw _ (List.mem_of_getElem? (i := 6) rfl)) (hw _ (List.mem_of_getElem? (i := 94) rfl)) (by decide) rfl rfl (lenOf pd_5 rfl) rfl all0 (by decide) (by decide) (Met.pays (rm_valueOf hw hEL Sc hzc ((p2 &&& (255 : Int32)).toUInt32.toUInt16.toUInt32.toInt32) _ W.ext (by rw [i2c_mask]; exact low255 _)) (hw _ (List.mem_of_getElem? (i := 94) rfl)) (hw _ (List.mem_of_getElem? (i := 6) rfl)) hEL (by decide) (by decide)) fun v32 T27 h29 W28 K30 q31 => ?_
      obtain ⟨r33, rfl, S34⟩ := q31
      show Goes _ _ _ _ _ _ _ _ _ _ _ T27 (mkF m 57 #[.val (.int p1), .val (.int p2), .val (.int (p1 &&& (3 : Int32))), .val (.int ((p2 &&& (255 : Int32)).toUInt32.toUInt16.toUInt32.toInt32)), .val (.int ((((p2.toUInt32 >>> ((8 : Int32) &&& 31).toUInt32).toInt32) &&& (255 : Int32)).toUInt32.toUInt16.toUInt32.toInt32)), .val (.int ((((p2.toUInt32 >>> ((16 : Int32) &&& 31).toUInt32).toInt32) &&& (255 : Int32)).toUInt32.toUInt16.toUInt32.toInt32))] [(.ref r33)])
      have K35 : Keep h h29 [] := ((Keep.refl h []).trans K30 fun _ q => nomatch q)
      exact g_areturn W28 d_method_2_code_57 rfl rfl rfl K35 ⟨_, _, rfl, S34⟩ (by decide) (by decide)
    · refine g_icmpY W d_method_2_code_50 (pc' := 58) (by decide) (by decide) (Jvm.Free.XT.ii_ne_t c26) ?_
      refine g_iload_n W d_method_2_code_58 (pc' := 59) rfl rfl ?_
      refine g_iconst W d_method_2_code_59 (pc' := 60) (v := (2 : Int32)) rfl rfl ?_
      by_cases c36 : (p1 &&& (3 : Int32)) = (2 : Int32)
      · refine g_icmpN W d_method_2_code_60 (pc' := 63) rfl (Jvm.Free.XT.ii_ne_f c36) ?_
        refine g_new W d_method_2_code_63 (pc' := 66) rfl (hw _ (List.mem_of_getElem? (i := 4) rfl)) (hw _ (List.mem_of_getElem? (i := 5) rfl)) (hw _ (List.mem_of_getElem? (i := 6) rfl)) (by decide) (by decide) fun T37 h39 b2 g40 W38 E41 A42 D43 => ?_
        have O_b2 := new_Str hw A42 D43
        refine g_dup W38 d_method_2_code_66 (pc' := 67) rfl rfl ?_
        refine g_iconst W38 d_method_2_code_67 (pc' := 68) (v := (2 : Int32)) rfl rfl ?_
        refine g_newarray W38 d_method_2_code_68 (pc' := 70) (cap := 2) rfl (hw _ (List.mem_of_getElem? (i := 7) rfl)) (by decide) (by decide) (by decide) (by decide) (by decide) fun T44 h46 b1 kA50 g47 W45 E48 A49 => ?_
        have A51 : Arv Z h46 b1 kA50 .char (2 : Int32) [(.int (0 : Int32)), (.int (0 : Int32))] (.int (0 : Int32)) := A49.pad (pad_rep [] (.int (0 : Int32)) 2)
        refine g_dup W45 d_method_2_code_70 (pc' := 71) rfl rfl ?_
        refine g_iconst W45 d_method_2_code_71 (pc' := 72) (v := (0 : Int32)) rfl rfl ?_
        refine g_iload_n W45 d_method_2_code_72 (pc' := 73) rfl rfl ?_
        refine g_castore W45 d_method_2_code_73 (pc' := 74) (i := 0) (x' := p2 &&& (255 : Int32)) rfl (nar_mask p2) A51 ⟨by decide, by decide⟩ rfl (Nat.le_of_ble_eq_true rfl) (List.mem_of_getElem? (i := 0) rfl) fun T52 h54 W53 R55 A56 => ?_
        have A57 : Arv Z h54 b1 kA50 .char (2 : Int32) [(.int (p2 &&& (255 : Int32))), (.int (0 : Int32))] (.int (0 : Int32)) := A56
        refine g_dup W53 d_method_2_code_74 (pc' := 75) rfl rfl ?_
        refine g_iconst W53 d_method_2_code_75 (pc' := 76) (v := (1 : Int32)) rfl rfl ?_
        refine g_iload W53 d_method_2_code_76 (pc' := 78) rfl rfl ?_
        refine g_castore W53 d_method_2_code_78 (pc' := 79) (i := 1) (x' := ((p2.toUInt32 >>> ((8 : Int32) &&& 31).toUInt32).toInt32) &&& (255 : Int32)) rfl (nar_mask ((p2.toUInt32 >>> ((8 : Int32) &&& 31).toUInt32).toInt32)) A57 ⟨by decide, by decide⟩ rfl (Nat.le_of_ble_eq_true rfl) (List.mem_of_getElem? (i := 0) rfl) fun T58 h60 W59 R61 A62 => ?_
        have A63 : Arv Z h60 b1 kA50 .char (2 : Int32) [(.int (p2 &&& (255 : Int32))), (.int (((p2.toUInt32 >>> ((8 : Int32) &&& 31).toUInt32).toInt32) &&& (255 : Int32)))] (.int (0 : Int32)) := A62
        have K64 : Keep h39 h60 [] := ((((Keep.refl h39 []).ext E48).wr R55 (Or.inr (Nat.le_of_eq g47.symm))).wr R61 (Or.inr (Nat.le_of_eq g47.symm)))
        have F65 := O_b2.mv K64
        refine g_special W59 d_method_2_code_79 (pc' := 82) (a := b2) (fr' := [b2]) (argsL := [(.ref b1)]) (rest := [(.ref b2)]) (Wd := 1) (kc := 1) (ks := 2) rfl rfl (hw _ (List.mem_of_getElem? (i := 8) rfl)) (hw _ (List.mem_of_getElem? (i := 9) rfl)) (hw _ (List.mem_of_getElem? (i := 10) rfl)) (by decide) rfl rfl (lenOf pd_4 rfl) rfl (allS (List.mem_of_getElem? (i := 1) rfl) (all0)) (by decide) (by decide) (pays_newStr (cs := [p2 &&& (255 : Int32), ((p2.toUInt32 >>> ((8 : Int32) &&& 31).toUInt32).toInt32) &&& (255 : Int32)]) hEL (fun d hd => hw d ((by decide +kernel : ∀ d ∈ StrChars.Road.words, d ∈ tables_1) d hd)) (hw _ (List.mem_of_getElem? (i := 5) rfl)) F65 A63 Sc hzc W59.ext (W59.frs b2 (List.mem_of_getElem? (i := 1) rfl)).1 rfl (by decide) (by decide) (by decide) (lowC _ (lowC _ lowN)) (by decide) (by decide)) fun v71 T66 h68 W67 K69 q70 => ?_
        obtain ⟨rfl, S_b2⟩ := q70
        show Goes _ _ _ _ _ _ _ _ _ _ _ T66 (mkF m 82 #[.val (.int p1), .val (.int p2), .val (.int (p1 &&& (3 : Int32))), .val (.int ((p2 &&& (255 : Int32)).toUInt32.toUInt16.toUInt32.toInt32)), .val (.int ((((p2.toUInt32 >>> ((8 : Int32) &&& 31).toUInt32).toInt32) &&& (255 : Int32)).toUInt32.toUInt16.toUInt32.toInt32)), .val (.int ((((p2.toUInt32 >>> ((16 : Int32) &&& 31).toUInt32).toInt32) &&& (255 : Int32)).toUInt32.toUInt16.toUInt32.toInt32))] [(.ref b2)])
        have K72 : Keep h h39 [] := ((Keep.refl h []).ext E41)
        have K73 : Keep h h68 [] := ((((((Keep.refl h []).ext E41).ext E48).wr R55 (Or.inr (Nat.le_trans K72.1 (Nat.le_of_eq g47.symm)))).wr R61 (Or.inr (Nat.le_trans K72.1 (Nat.le_of_eq g47.symm)))).trans K69 fun x q => by cases List.mem_singleton.mp q; exact Or.inr (Nat.le_of_eq g40.symm))
        exact g_areturn W67 d_method_2_code_82 rfl rfl rfl K73 ⟨_, _, rfl, S_b2⟩ (by decide) (by decide)
      · refine g_icmpY W d_method_2_code_60 (pc' := 83) (by decide) (by decide) (Jvm.Free.XT.ii_ne_t c36) ?_
        refine g_new W d_method_2_code_83 (pc' := 86) rfl (hw _ (List.mem_of_getElem? (i := 4) rfl)) (hw _ (List.mem_of_getElem? (i := 5) rfl)) (hw _ (List.mem_of_getElem? (i := 6) rfl)) (by decide) (by decide) fun T74 h76 b2 g77 W75 E78 A79 D80 => ?_
        have O_b2 := new_Str hw A79 D80
        refine g_dup W75 d_method_2_code_86 (pc' := 87) rfl rfl ?_
        refine g_iconst W75 d_method_2_code_87 (pc' := 88) (v := (3 : Int32)) rfl rfl ?_
        refine g_newarray W75 d_method_2_code_88 (pc' := 90) (cap := 3) rfl (hw _ (List.mem_of_getElem? (i := 7) rfl)) (by decide) (by decide) (by decide) (by decide) (by decide) fun T81 h83 b1 kA87 g84 W82 E85 A86 => ?_
        have A88 : Arv Z h83 b1 kA87 .char (3 : Int32) [(.int (0 : Int32)), (.int (0 : Int32)), (.int (0 : Int32))] (.int (0 : Int32)) := A86.pad (pad_rep [] (.int (0 : Int32)) 3)
        refine g_dup W82 d_method_2_code_90 (pc' := 91) rfl rfl ?_
        refine g_iconst W82 d_method_2_code_91 (pc' := 92) (v := (0 : Int32)) rfl rfl ?_
        refine g_iload_n W82 d_method_2_code_92 (pc' := 93) rfl rfl ?_
        refine g_castore W82 d_method_2_code_93 (pc' := 94) (i := 0) (x' := p2 &&& (255 : Int32)) rfl (nar_mask p2) A88 ⟨by decide, by decide⟩ rfl (Nat.le_of_ble_eq_true rfl) (List.mem_of_getElem? (i := 0) rfl) fun T89 h91 W90 R92 A93 => ?_
        have A94 : Arv Z h91 b1 kA87 .char (3 : Int32) [(.int (p2 &&& (255 : Int32))), (.int (0 : Int32)), (.int (0 : Int32))] (.int (0 : Int32)) := A93
        refine g_dup W90 d_method_2_code_94 (pc' := 95) rfl rfl ?_
        refine g_iconst W90 d_method_2_code_95 (pc' := 96) (v := (1 : Int32)) rfl rfl ?_
        refine g_iload W90 d_method_2_code_96 (pc' := 98) rfl rfl ?_
        refine g_castore W90 d_method_2_code_98 (pc' := 99) (i := 1) (x' := ((p2.toUInt32 >>> ((8 : Int32) &&& 31).toUInt32).toInt32) &&& (255 : Int32)) rfl (nar_mask ((p2.toUInt32 >>> ((8 : Int32) &&& 31).toUInt32).toInt32)) A94 ⟨by decide, by decide⟩ rfl (Nat.le_of_ble_eq_true rfl) (List.mem_of_getElem? (i := 0) rfl) fun T95 h97 W96 R98 A99 => ?_
        have A100 : Arv Z h97 b1 kA87 .char (3 : Int32) [(.int (p2 &&& (255 : Int32))), (.int (((p2.toUInt32 >>> ((8 : Int32) &&& 31).toUInt32).toInt32) &&& (255 : Int32))), (.int (0 : Int32))] (.int (0 : Int32)) := A99
        refine g_dup W96 d_method_2_code_99 (pc' := 100) rfl rfl ?_
        refine g_iconst W96 d_method_2_code_100 (pc' := 101) (v := (2 : Int32)) rfl rfl ?_
        refine g_iload W96 d_method_2_code_101 (pc' := 103) rfl rfl ?_
        refine g_castore W96 d_method_2_code_103 (pc' := 104) (i := 2) (x' := ((p2.toUInt32 >>> ((16 : Int32) &&& 31).toUInt32).toInt32) &&& (255 : Int32)) rfl (nar_mask ((p2.toUInt32 >>> ((16 : Int32) &&& 31).toUInt32).toInt32)) A100 ⟨by decide, by decide⟩ rfl (Nat.le_of_ble_eq_true rfl) (List.mem_of_getElem? (i := 0) rfl) fun T101 h103 W102 R104 A105 => ?_
        have A106 : Arv Z h103 b1 kA87 .char (3 : Int32) [(.int (p2 &&& (255 : Int32))), (.int (((p2.toUInt32 >>> ((8 : Int32) &&& 31).toUInt32).toInt32) &&& (255 : Int32))), (.int (((p2.toUInt32 >>> ((16 : Int32) &&& 31).toUInt32).toInt32) &&& (255 : Int32)))] (.int (0 : Int32)) := A105
        have K107 : Keep h76 h103 [] := (((((Keep.refl h76 []).ext E85).wr R92 (Or.inr (Nat.le_of_eq g84.symm))).wr R98 (Or.inr (Nat.le_of_eq g84.symm))).wr R104 (Or.inr (Nat.le_of_eq g84.symm)))
        have F108 := O_b2.mv K107
        refine g_special W102 d_method_2_code_104 (pc' := 107) (a := b2) (fr' := [b2]) (argsL := [(.ref b1)]) (rest := [(.ref b2)]) (Wd := 1) (kc := 1) (ks := 3) rfl rfl (hw _ (List.mem_of_getElem? (i := 8) rfl)) (hw _ (List.mem_of_getElem? (i := 9) rfl)) (hw _ (List.mem_of_getElem? (i := 10) rfl)) (by decide) rfl rfl (lenOf pd_4 rfl) rfl (allS (List.mem_of_getElem? (i := 1) rfl) (all0)) (by decide) (by decide) (pays_newStr (cs := [p2 &&& (255 : Int32), ((p2.toUInt32 >>> ((8 : Int32) &&& 31).toUInt32).toInt32) &&& (255 : Int32), ((p2.toUInt32 >>> ((16 : Int32) &&& 31).toUInt32).toInt32) &&& (255 : Int32)]) hEL (fun d hd => hw d ((by decide +kernel : ∀ d ∈ StrChars.Road.words, d ∈ tables_1) d hd)) (hw _ (List.mem_of_getElem? (i := 5) rfl)) F108 A106 Sc hzc W102.ext (W102.frs b2 (List.mem_of_getElem? (i := 1) rfl)).1 rfl (by decide) (by decide) (by decide) (lowC _ (lowC _ (lowC _ lowN))) (by decide) (by decide)) fun v114 T109 h111 W110 K112 q113 => ?_
        obtain ⟨rfl, S_b2⟩ := q113
        show Goes _ _ _ _ _ _ _ _ _ _ _ T109 (mkF m 107 #[.val (.int p1), .val (.int p2), .val (.int (p1 &&& (3 : Int32))), .val (.int ((p2 &&& (255 : Int32)).toUInt32.toUInt16.toUInt32.toInt32)), .val (.int ((((p2.toUInt32 >>> ((8 : Int32) &&& 31).toUInt32).toInt32) &&& (255 : Int32)).toUInt32.toUInt16.toUInt32.toInt32)), .val (.int ((((p2.toUInt32 >>> ((16 : Int32) &&& 31).toUInt32).toInt32) &&& (255 : Int32)).toUInt32.toUInt16.toUInt32.toInt32))] [(.ref b2)])
        have K115 : Keep h h76 [] := ((Keep.refl h []).ext E78)
        have K116 : Keep h h111 [] := (((((((Keep.refl h []).ext E78).ext E85).wr R92 (Or.inr (Nat.le_trans K115.1 (Nat.le_of_eq g84.symm)))).wr R98 (Or.inr (Nat.le_trans K115.1 (Nat.le_of_eq g84.symm)))).wr R104 (Or.inr (Nat.le_trans K115.1 (Nat.le_of_eq g84.symm)))).trans K112 fun x q => by cases List.mem_singleton.mp q; exact Or.inr (Nat.le_of_eq g77.symm))
        exact g_areturn W110 d_method_2_code_107 rfl rfl rfl K116 ⟨_, _, rfl, S_b2⟩ (by decide) (by decide)
theorem d_prog_13_method_1_code_0 : decode prog_13_method_1_code 0 = .ok (.aload_n 0, 1) := by decide +kernel
theorem d_prog_13_method_1_code_1 : decode prog_13_method_1_code 1 = .ok (.invokespecial 1, 3) := by decide +kernel
theorem d_prog_13_method_1_code_4 : decode prog_13_method_1_code 4 = .ok (.aload_n 0, 1) := by decide +kernel
theorem d_prog_13_method_1_code_5 : decode prog_13_method_1_code 5 = .ok (.aload_n 1, 1) := by decide +kernel
theorem d_prog_13_method_1_code_6 : decode prog_13_method_1_code 6 = .ok (.putfield 7, 3) := by decide +kernel
theorem d_prog_13_method_1_code_9 : decode prog_13_method_1_code 9 = .ok (.aload_n 0, 1) := by decide +kernel
theorem d_prog_13_method_1_code_10 : decode prog_13_method_1_code 10 = .ok (.aload_n 2, 1) := by decide +kernel
theorem d_prog_13_method_1_code_11 : decode prog_13_method_1_code 11 = .ok (.putfield 13, 3) := by decide +kernel
theorem d_prog_13_method_1_code_14 : decode prog_13_method_1_code 14 = .ok (.return_, 1) := by decide +kernel
theorem pf_7 : plainFor (⟨"com/example/catalog/catalog/write/DefaultVersionFlag", "<init>", "(Lcom/example/catalog/catalog/write/DefaultVersionFlag$Kind;Ljava/lang/String;)V"⟩ : MethodName) = true := by first | (exact plainFor_of_name (by first | (simp [plainName, overriddenIn]; done) | decide +kernel)) | decide +kernel
set_option maxRecDepth 65536 in
set_option maxHeartbeats 40000000 in
theorem rm_init {l : Launch} {Z : State} {a0 : Array Value} (hw : ∀ d ∈ tables_1, d.before a0 Z = true) (hEL : EW Z a0 EL1) {zc : Int32} (Sc : Sta Z Z.heap "java/lang/String" "COMPACT_STRINGS" "Z" (.int zc)) (hzc : ¬ zc = 0) (a1 : Addr) (v2 : Value) (v3 : Value) (h : Heap) (hX : Ext Z.heap h) (r2 : v2.isRef = true) (r3 : v3.isRef = true) (g1 : Z.heap.size ≤ a1) (O1 : Obj Z h a1 "com/example/catalog/catalog/write/DefaultVersionFlag" [(("com/example/catalog/catalog/write/DefaultVersionFlag", "kind", "Lcom/example/catalog/catalog/write/DefaultVersionFlag$Kind;"), .null), (("com/example/catalog/catalog/write/DefaultVersionFlag", "id", "Ljava/lang/String;"), .null)]) : Met l Z EL1 NW (⟨"com/example/catalog/catalog/write/DefaultVersionFlag", "<init>", "(Lcom/example/catalog/catalog/write/DefaultVersionFlag$Kind;Ljava/lang/String;)V"⟩ : MethodName) prog_13_method_1_code 3 none [] ({ frames := 1, cells := 0, slots := 0, locals := 12 } : Room) #[(.ref a1), v2, v3] h [a1] (fun v h' => v = none ∧ Obj Z h' a1 "com/example/catalog/catalog/write/DefaultVersionFlag" [(("com/example/catalog/catalog/write/DefaultVersionFlag", "kind", "Lcom/example/catalog/catalog/write/DefaultVersionFlag$Kind;"), v2), (("com/example/catalog/catalog/write/DefaultVersionFlag", "id", "Ljava/lang/String;"), v3)]) := by
  refine Met.intro pf_7 hEL hX (allS ⟨g1, O1.lt⟩ all0) ?_
  intro p e s m below meth c T W
  refine Goes.cast (show entryFrame m #[(.ref a1), v2, v3] 3 = mkF m 0 #[.val (.ref a1), .val v2, .val v3] [] by simp [entryFrame, mkF, argsToLocals, cat_ref, cat_int, cat_null, cat_long, Jvm.Free.XT.cat1 r2, Jvm.Free.XT.cat1 r3]) ?_
  refine g_aload_n W d_prog_13_method_1_code_0 (pc' := 1) rfl rfl rfl ?_
  refine g_initO W d_prog_13_method_1_code_1 (pc' := 4) (Wd := 0) rfl (hw _ (List.mem_of_getElem? (i := 38) rfl)) (hw _ (List.mem_of_getElem? (i := 16) rfl)) (hw _ (List.mem_of_getElem? (i := 17) rfl)) rfl rfl (by decide) (by decide) fun T1 W2 => ?_
  refine g_aload_n W2 d_prog_13_method_1_code_4 (pc' := 5) rfl rfl rfl ?_
  refine g_aload_n W2 d_prog_13_method_1_code_5 (pc' := 6) rfl rfl r2 ?_
  refine g_putfield W2 d_prog_13_method_1_code_6 (pc' := 9) (host := "") (ty := (.object "com/example/catalog/catalog/write/DefaultVersionFlag$Kind")) rfl (Or.inl (hw _ (List.mem_of_getElem? (i := 39) rfl))) Via.refl (O1.get 0 rfl) O1.1 (Or.inr ⟨(hw _ (List.mem_of_getElem? (i := 40) rfl)), rfl, rfl⟩) (hw _ (List.mem_of_getElem? (i := 31) rfl)) (by decide) rfl (fits_ref0 rfl r2) (List.mem_of_getElem? (i := 0) rfl) fun T3 h5 W4 R6 => ?_
  have O7 : Obj Z h5 a1 "com/example/catalog/catalog/write/DefaultVersionFlag" [(("com/example/catalog/catalog/write/DefaultVersionFlag", "kind", "Lcom/example/catalog/catalog/write/DefaultVersionFlag$Kind;"), v2), (("com/example/catalog/catalog/write/DefaultVersionFlag", "id", "Ljava/lang/String;"), .null)] := O1.put R6 0 rfl (dis_Dvf hw)
  refine g_aload_n W4 d_prog_13_method_1_code_9 (pc' := 10) rfl rfl rfl ?_
  refine g_aload_n W4 d_prog_13_method_1_code_10 (pc' := 11) rfl rfl r3 ?_
  refine g_putfield W4 d_prog_13_method_1_code_11 (pc' := 14) (host := "") (ty := (.object "java/lang/String")) rfl (Or.inl (hw _ (List.mem_of_getElem? (i := 41) rfl))) Via.refl (O7.get 1 rfl) O7.1 (Or.inr ⟨(hw _ (List.mem_of_getElem? (i := 42) rfl)), rfl, rfl⟩) (hw _ (List.mem_of_getElem? (i := 31) rfl)) (by decide) rfl (fits_ref0 rfl r3) (List.mem_of_getElem? (i := 0) rfl) fun T8 h10 W9 R11 => ?_
  have O12 : Obj Z h10 a1 "com/example/catalog/catalog/write/DefaultVersionFlag" [(("com/example/catalog/catalog/write/DefaultVersionFlag", "kind", "Lcom/example/catalog/catalog/write/DefaultVersionFlag$Kind;"), v2), (("com/example/catalog/catalog/write/DefaultVersionFlag", "id", "Ljava/lang/String;"), v3)] := O7.put R11 1 rfl (dis_Dvf hw)
  have K13 : Keep h h10 [a1] := (((Keep.refl h [a1]).wr R6 (Or.inl (List.mem_of_getElem? (i := 0) rfl))).wr R11 (Or.inl (List.mem_of_getElem? (i := 0) rfl)))
  exact g_return W9 d_prog_13_method_1_code_14 K13 ⟨rfl, O12⟩ (by decide) (by decide)
theorem d_prog_13_method_2_code_0 : decode prog_13_method_2_code 0 = .ok (.new 8, 3) := by decide +kernel
theorem d_prog_13_method_2_code_3 : decode prog_13_method_2_code 3 = .ok (.dup, 1) := by decide +kernel
theorem d_prog_13_method_2_code_4 : decode prog_13_method_2_code 4 = .ok (.getstatic 17, 3) := by decide +kernel
theorem d_prog_13_method_2_code_7 : decode prog_13_method_2_code 7 = .ok (.aload_n 0, 1) := by decide +kernel
theorem d_prog_13_method_2_code_8 : decode prog_13_method_2_code 8 = .ok (.invokespecial 22, 3) := by decide +kernel
theorem pd_6 : parseMethodDescriptor "(Lcom/example/catalog/catalog/write/DefaultVersionFlag$Kind;Ljava/lang/String;)V" = some ⟨[(.object "com/example/catalog/catalog/write/DefaultVersionFlag$Kind"), (.object "java/lang/String")], none⟩ := by decide +kernel
theorem d_prog_13_method_2_code_11 : decode prog_13_method_2_code 11 = .ok (.areturn, 1) := by decide +kernel
theorem pf_8 : plainFor (⟨"com/example/catalog/catalog/write/DefaultVersionFlag", "pinning", "(Ljava/lang/String;)Lcom/example/catalog/catalog/write/DefaultVersionFlag;"⟩ : MethodName) = true := by first | (exact plainFor_of_name (by first | (simp [plainName, overriddenIn]; done) | decide +kernel)) | decide +kernel
set_option maxRecDepth 65536 in
set_option maxHeartbeats 40000000 in
theorem rm_pin {l : Launch} {Z : State} {a0 : Array Value} (hw : ∀ d ∈ tables_1, d.before a0 Z = true) (hEL : EW Z a0 EL1) {zc : Int32} (Sc : Sta Z Z.heap "java/lang/String" "COMPACT_STRINGS" "Z" (.int zc)) (hzc : ¬ zc = 0) (v1 : Value) (kv : Addr) (h : Heap) (hX : Ext Z.heap h) (r1 : v1.isRef = true) (Sv : Sta Z Z.heap "com/example/catalog/catalog/write/DefaultVersionFlag$Kind" "VERSION" "Lcom/example/catalog/catalog/write/DefaultVersionFlag$Kind;" (.ref kv)) : Met l Z EL1 NW (⟨"com/example/catalog/catalog/write/DefaultVersionFlag", "pinning", "(Ljava/lang/String;)Lcom/example/catalog/catalog/write/DefaultVersionFlag;"⟩ : MethodName) prog_13_method_2_code 1 (some (.object "com/example/catalog/catalog/write/DefaultVersionFlag")) [] ({ frames := 2, cells := 1, slots := 2, locals := 60 } : Room) #[v1] h [] (fun v h' => ∃ a, v = some (.ref a) ∧ h.size ≤ a ∧ Obj Z h' a "com/example/catalog/catalog/write/DefaultVersionFlag" [(("com/example/catalog/catalog/write/DefaultVersionFlag", "kind", "Lcom/example/catalog/catalog/write/DefaultVersionFlag$Kind;"), (.ref kv)), (("com/example/catalog/catalog/write/DefaultVersionFlag", "id", "Ljava/lang/String;"), v1)]) := by
  refine Met.intro pf_8 hEL hX (fun _ q => nomatch q) ?_
  intro p e s m below meth c T W
  refine Goes.cast (show entryFrame m #[v1] 1 = mkF m 0 #[.val v1] [] by simp [entryFrame, mkF, argsToLocals, cat_ref, cat_int, cat_null, cat_long, Jvm.Free.XT.cat1 r1]) ?_
  refine g_new W d_prog_13_method_2_code_0 (pc' := 3) rfl (hw _ (List.mem_of_getElem? (i := 30) rfl)) (hw _ (List.mem_of_getElem? (i := 31) rfl)) (hw _ (List.mem_of_getElem? (i := 28) rfl)) (by decide) (by decide) fun T1 h3 b1 g4 W2 E5 A6 D7 => ?_
  have O_b1 := new_Dvf hw A6 D7
  refine g_dup W2 d_prog_13_method_2_code_3 (pc' := 4) rfl rfl ?_
  refine g_getstatic W2 d_prog_13_method_2_code_4 (pc' := 7) rfl (hw _ (List.mem_of_getElem? (i := 32) rfl)) Via.refl Sv fun T8 W9 => ?_
  refine g_aload_n W9 d_prog_13_method_2_code_7 (pc' := 8) rfl rfl r1 ?_
  refine g_special W9 d_prog_13_method_2_code_8 (pc' := 11) (a := b1) (fr' := [b1]) (argsL := [(.ref kv), v1]) (rest := [(.ref b1)]) (Wd := 1) (kc := 0) (ks := 0) rfl rfl (hw _ (List.mem_of_getElem? (i := 35) rfl)) (hw _ (List.mem_of_getElem? (i := 36) rfl)) (hw _ (List.mem_of_getElem? (i := 37) rfl)) (by decide) rfl rfl (lenOf pd_6 rfl) rfl (allS (List.mem_of_getElem? (i := 0) rfl) (all0)) (by decide) (by decide) (Met.pays (rm_init hw hEL Sc hzc b1 (.ref kv) v1 _ W9.ext rfl r1 (W9.frs b1 (List.mem_of_getElem? (i := 0) rfl)).1 O_b1) (hw _ (List.mem_of_getElem? (i := 37) rfl)) (hw _ (List.mem_of_getElem? (i := 28) rfl)) hEL (by decide) (by decide)) fun v15 T10 h12 W11 K13 q14 => ?_
  obtain ⟨rfl, O16⟩ := q14
  show Goes _ _ _ _ _ _ _ _ _ _ _ T10 (mkF m 11 #[.val v1] [(.ref b1)])
  have K17 : Keep h h12 [] := (((Keep.refl h []).ext E5).trans K13 fun x q => by cases List.mem_singleton.mp q; exact Or.inr (Nat.le_of_eq g4.symm))
  exact g_areturn W11 d_prog_13_method_2_code_11 rfl rfl rfl K17 ⟨_, rfl, Nat.le_of_eq g4.symm, O16⟩ (by decide) (by decide)
theorem d_jdk_42_method_66_code_0 : decode jdk_42_method_66_code 0 = .ok (.aload_n 0, 1) := by decide +kernel
theorem d_jdk_42_method_66_code_1 : decode jdk_42_method_66_code 1 = .ok (.aload_n 1, 1) := by decide +kernel
theorem d_jdk_42_method_66_code_2 : decode jdk_42_method_66_code 2 = .ok (.if_acmp .ne 5, 3) := by decide +kernel
theorem d_jdk_42_method_66_code_5 : decode jdk_42_method_66_code 5 = .ok (.iconst 1, 1) := by decide +kernel
theorem d_jdk_42_method_66_code_6 : decode jdk_42_method_66_code 6 = .ok (.ireturn, 1) := by decide +kernel
theorem pf_9 : plainFor (⟨"java/lang/String", "equals", "(Ljava/lang/Object;)Z"⟩ : MethodName) = true := by first | (exact plainFor_of_name (by first | (simp [plainName, overriddenIn]; done) | decide +kernel)) | decide +kernel
set_option maxRecDepth 65536 in
set_option maxHeartbeats 40000000 in
theorem rm_eqSame {l : Launch} {Z : State} {a0 : Array Value} (hw : ∀ d ∈ tables_1, d.before a0 Z = true) (hEL : EW Z a0 EL1) {zc : Int32} (Sc : Sta Z Z.heap "java/lang/String" "COMPACT_STRINGS" "Z" (.int zc)) (hzc : ¬ zc = 0) (a1 : Addr) (h : Heap) (hX : Ext Z.heap h)  : Met l Z EL1 NW (⟨"java/lang/String", "equals", "(Ljava/lang/Object;)Z"⟩ : MethodName) jdk_42_method_66_code 3 (some .boolean) [] ({ frames := 0, cells := 0, slots := 0, locals := 0 } : Room) #[(.ref a1), (.ref a1)] h [] (fun v h' => h = h' ∧ v = some (.int 1)) := by
  refine Met.intro pf_9 hEL hX (fun _ q => nomatch q) ?_
  intro p e s m below meth c T W
  refine Goes.cast (show entryFrame m #[(.ref a1), (.ref a1)] 3 = mkF m 0 #[.val (.ref a1), .val (.ref a1), .unset] [] by first | (simp [entryFrame, mkF, argsToLocals, Value.category]; done) | rfl) ?_
  refine g_aload_n W d_jdk_42_method_66_code_0 (pc' := 1) rfl rfl rfl ?_
  refine g_aload_n W d_jdk_42_method_66_code_1 (pc' := 2) rfl rfl rfl ?_
  refine g_acmpN W d_jdk_42_method_66_code_2 (pc' := 5) rfl rfl rfl (Jvm.Free.XT.aa_ne_f rfl) ?_
  refine g_iconst W d_jdk_42_method_66_code_5 (pc' := 6) (v := (1 : Int32)) rfl rfl ?_
  exact g_ireturn W d_jdk_42_method_66_code_6 (by decide) rfl (Keep.refl h []) ⟨rfl, rfl⟩ (by decide) (by decide)
theorem pd_7 : parseMethodDescriptor "(II)Ljava/lang/String;" = some ⟨[.int, .int], some (.object "java/lang/String")⟩ := by decide +kernel
theorem pd_8 : parseMethodDescriptor "(Ljava/lang/String;)Lcom/example/catalog/catalog/write/DefaultVersionFlag;" = some ⟨[(.object "java/lang/String")], some (.object "com/example/catalog/catalog/write/DefaultVersionFlag")⟩ := by decide +kernel
theorem d_prog_13_method_3_code_4 : decode prog_13_method_3_code 4 = .ok (.areturn, 1) := by decide +kernel
theorem pn_0 : plainName "com/example/catalog/catalog/write/DefaultVersionFlag" = true := by first | (simp [plainName, overriddenIn]; done) | decide +kernel
theorem d_prog_13_method_3_code_0 : decode prog_13_method_3_code 0 = .ok (.aload_n 0, 1) := by decide +kernel
theorem d_prog_13_method_3_code_1 : decode prog_13_method_3_code 1 = .ok (.getfield 7, 3) := by decide +kernel
theorem pd_9 : parseMethodDescriptor "()Lcom/example/catalog/catalog/write/DefaultVersionFlag$Kind;" = some ⟨[], some (.object "com/example/catalog/catalog/write/DefaultVersionFlag$Kind")⟩ := by decide +kernel
theorem d_prog_13_method_4_code_4 : decode prog_13_method_4_code 4 = .ok (.areturn, 1) := by decide +kernel
theorem d_prog_13_method_4_code_0 : decode prog_13_method_4_code 0 = .ok (.aload_n 0, 1) := by decide +kernel
theorem d_prog_13_method_4_code_1 : decode prog_13_method_4_code 1 = .ok (.getfield 13, 3) := by decide +kernel
theorem pd_10 : parseMethodDescriptor "()Ljava/lang/String;" = some ⟨[], some (.object "java/lang/String")⟩ := by decide +kernel
theorem pd_11 : parseMethodDescriptor "(Ljava/lang/Object;)Z" = some ⟨[(.object "java/lang/Object")], some .boolean⟩ := by decide +kernel
theorem pd_12 : parseMethodDescriptor "()I" = some ⟨[], some .int⟩ := by decide +kernel
theorem pn_1 : plainName "com/example/catalog/catalog/write/DefaultVersionFlagPinningPinLaw" = true := by first | (simp [plainName, overriddenIn]; done) | decide +kernel
set_option maxRecDepth 65536 in
set_option maxHeartbeats 40000000 in
theorem rm_law {l : Launch} {Z : State} {a0 : Array Value} (hw : ∀ d ∈ tables_1, d.before a0 Z = true) (hEL : EW Z a0 EL1) {zc : Int32} (Sc : Sta Z Z.heap "java/lang/String" "COMPACT_STRINGS" "Z" (.int zc)) (hzc : ¬ zc = 0) (p1 p2 : Int32) (kv n1 n2 n3 k1 k2 k3 : Addr) (h : Heap) (hX : Ext Z.heap h) (Sv : Sta Z Z.heap "com/example/catalog/catalog/write/DefaultVersionFlag$Kind" "VERSION" "Lcom/example/catalog/catalog/write/DefaultVersionFlag$Kind;" (.ref kv)) (Sn1 : Sta Z Z.heap "com/example/catalog/catalog/write/DefaultVersionFlag" "NONE" "Lcom/example/catalog/catalog/write/DefaultVersionFlag;" (.ref n1)) (On1 : Obj Z Z.heap n1 "com/example/catalog/catalog/write/DefaultVersionFlag" [(("com/example/catalog/catalog/write/DefaultVersionFlag", "kind", "Lcom/example/catalog/catalog/write/DefaultVersionFlag$Kind;"), (.ref k1)), (("com/example/catalog/catalog/write/DefaultVersionFlag", "id", "Ljava/lang/String;"), .null)]) (Sn2 : Sta Z Z.heap "com/example/catalog/catalog/write/DefaultVersionFlag" "UNPIN" "Lcom/example/catalog/catalog/write/DefaultVersionFlag;" (.ref n2)) (On2 : Obj Z Z.heap n2 "com/example/catalog/catalog/write/DefaultVersionFlag" [(("com/example/catalog/catalog/write/DefaultVersionFlag", "kind", "Lcom/example/catalog/catalog/write/DefaultVersionFlag$Kind;"), (.ref k2)), (("com/example/catalog/catalog/write/DefaultVersionFlag", "id", "Ljava/lang/String;"), .null)]) (Sn3 : Sta Z Z.heap "com/example/catalog/catalog/write/DefaultVersionFlag" "PIN_CREATED" "Lcom/example/catalog/catalog/write/DefaultVersionFlag;" (.ref n3)) (On3 : Obj Z Z.heap n3 "com/example/catalog/catalog/write/DefaultVersionFlag" [(("com/example/catalog/catalog/write/DefaultVersionFlag", "kind", "Lcom/example/catalog/catalog/write/DefaultVersionFlag$Kind;"), (.ref k3)), (("com/example/catalog/catalog/write/DefaultVersionFlag", "id", "Ljava/lang/String;"), .null)]) (Sk1 : Sta Z Z.heap "com/example/catalog/catalog/write/DefaultVersionFlag$Kind" "NONE" "Lcom/example/catalog/catalog/write/DefaultVersionFlag$Kind;" (.ref k1)) (Sk2 : Sta Z Z.heap "com/example/catalog/catalog/write/DefaultVersionFlag$Kind" "UNPIN" "Lcom/example/catalog/catalog/write/DefaultVersionFlag$Kind;" (.ref k2)) (Sk3 : Sta Z Z.heap "com/example/catalog/catalog/write/DefaultVersionFlag$Kind" "CREATED" "Lcom/example/catalog/catalog/write/DefaultVersionFlag$Kind;" (.ref k3)) : Met l Z EL1 NW x code maxLocals ret tables_1 room_1 #[(.int p1), (.int p2)] h [] (fun v _ => v = some (.int 1)) := by
  refine Met.intro (plainFor_of_name pn_1) hEL hX (fun _ q => nomatch q) ?_
  intro p e s m below meth c T W
  refine Goes.cast (show entryFrame m #[(.int p1), (.int p2)] maxLocals = mkF m 0 #[.val (.int p1), .val (.int p2), .unset, .unset, .unset, .unset] [] by first | (simp [entryFrame, mkF, argsToLocals, Value.category, maxLocals]; done) | rfl) ?_
  refine g_iload_n W at_0 (pc' := 1) rfl rfl ?_
  refine g_iload_n W at_1 (pc' := 2) rfl rfl ?_
  refine g_static W at_2 (pc' := 5) (fr' := []) (argsL := [(.int p1), (.int p2)]) (rest := []) (Wd := 0) (kc := 6) (ks := 16) rfl (hw _ (List.mem_of_getElem? (i := 0) rfl)) (hw _ (List.mem_of_getElem? (i := 1) rfl)) (hw _ (List.mem_of_getElem? (i := 2) rfl)) (hw _ (List.mem_of_getElem? (i := 3) rfl)) (by decide) rfl rfl (lenOf pd_7 rfl) rfl all0 (by decide) (by decide) (Met.pays (rm_draw hw hEL Sc hzc p1 p2 _ W.ext) (hw _ (List.mem_of_getElem? (i := 3) rfl)) (hw _ (List.mem_of_getElem? (i := 2) rfl)) hEL (by decide) (by decide)) fun v6 T1 h3 W2 K4 q5 => ?_
  obtain ⟨s1, cs, rfl, Ss⟩ := q5
  show Goes _ _ _ _ _ _ _ _ _ _ _ T1 (mkF m 5 #[.val (.int p1), .val (.int p2), .unset, .unset, .unset, .unset] [(.ref s1)])
  refine g_astore_n W2 at_5 (pc' := 6) (L' := #[.val (.int p1), .val (.int p2), .val (.ref s1), .unset, .unset, .unset]) rfl rfl rfl ?_
  refine g_aload_n W2 at_6 (pc' := 7) rfl rfl rfl ?_
  have hX2 := W2.ext
  refine g_static W2 at_7 (pc' := 10) (fr' := []) (argsL := [(.ref s1)]) (rest := []) (Wd := 0) (kc := 1) (ks := 2) rfl (hw _ (List.mem_of_getElem? (i := 26) rfl)) (hw _ (List.mem_of_getElem? (i := 27) rfl)) (hw _ (List.mem_of_getElem? (i := 28) rfl)) (hw _ (List.mem_of_getElem? (i := 29) rfl)) (by decide) rfl rfl (lenOf pd_8 rfl) rfl all0 (by decide) (by decide) (Met.pays (rm_pin hw hEL Sc hzc (.ref s1) kv _ W2.ext rfl Sv) (hw _ (List.mem_of_getElem? (i := 29) rfl)) (hw _ (List.mem_of_getElem? (i := 28) rfl)) hEL (by decide) (by decide)) fun v12 T7 h9 W8 K10 q11 => ?_
  obtain ⟨f1, rfl, gf, Of⟩ := q11
  show Goes _ _ _ _ _ _ _ _ _ _ _ T7 (mkF m 10 #[.val (.int p1), .val (.int p2), .val (.ref s1), .unset, .unset, .unset] [(.ref f1)])
  have nf : ∀ x : Addr, x < Z.heap.size → ¬ (Value.ref f1 = Value.ref x) := fun x hx q => absurd (Value.ref.inj q) (Nat.ne_of_gt (Nat.lt_of_lt_of_le hx (Nat.le_trans hX2.1 gf)))
  refine g_astore_n W8 at_10 (pc' := 11) (L' := #[.val (.int p1), .val (.int p2), .val (.ref s1), .val (.ref f1), .unset, .unset]) rfl rfl rfl ?_
  refine g_aload_n W8 at_11 (pc' := 12) rfl rfl rfl ?_
  refine g_nonnullY W8 at_12 (pc' := 17) (by decide) (by decide) rfl (fun q => nomatch q) ?_
  refine g_aload_n W8 at_17 (pc' := 18) rfl rfl rfl ?_
  refine g_getstatic W8 at_18 (pc' := 21) rfl (hw _ (List.mem_of_getElem? (i := 43) rfl)) Via.refl Sn1 fun T13 W14 => ?_
  refine g_acmpN W14 at_21 (pc' := 24) rfl rfl rfl (Jvm.Free.XT.aa_eq_f (nf n1 On1.lt)) ?_
  refine g_aload_n W14 at_24 (pc' := 25) rfl rfl rfl ?_
  refine g_getstatic W14 at_25 (pc' := 28) rfl (hw _ (List.mem_of_getElem? (i := 45) rfl)) Via.refl Sn2 fun T15 W16 => ?_
  refine g_acmpN W16 at_28 (pc' := 31) rfl rfl rfl (Jvm.Free.XT.aa_eq_f (nf n2 On2.lt)) ?_
  refine g_aload_n W16 at_31 (pc' := 32) rfl rfl rfl ?_
  refine g_getstatic W16 at_32 (pc' := 35) rfl (hw _ (List.mem_of_getElem? (i := 47) rfl)) Via.refl Sn3 fun T17 W18 => ?_
  refine g_acmpY W18 at_35 (pc' := 40) (by decide) (by decide) rfl rfl (Jvm.Free.XT.aa_ne_t (nf n3 On3.lt)) ?_
  refine g_aload_n W18 at_40 (pc' := 41) rfl rfl rfl ?_
  refine g_virtual W18 at_41 (pc' := 44) (a := f1) (fr' := []) (argsL := []) (rest := []) (Wd := 0) (kc := 0) (ks := 0) rfl (hw _ (List.mem_of_getElem? (i := 49) rfl)) (hw _ (List.mem_of_getElem? (i := 50) rfl)) (hw _ (List.mem_of_getElem? (i := 52) rfl)) (hw _ (List.mem_of_getElem? (i := 51) rfl)) (by decide) Of.1 rfl rfl (lenOf pd_9 rfl) rfl all0 (by decide) (by decide) (Met.pays (met_getter (rm := ({ frames := 0, cells := 0, slots := 0, locals := 0 } : Room)) (plainFor_of_name pn_0) hEL W18.ext d_prog_13_method_3_code_0 d_prog_13_method_3_code_1 (hw _ (List.mem_of_getElem? (i := 39) rfl)) (Of.get 0 rfl) (Or.inl ⟨d_prog_13_method_3_code_4, rfl, rfl⟩)) (hw _ (List.mem_of_getElem? (i := 53) rfl)) (hw _ (List.mem_of_getElem? (i := 28) rfl)) hEL (by decide) (by decide)) fun v24 T19 h21 W20 K22 q23 => ?_
  obtain ⟨rfl, rfl⟩ := q23
  show Goes _ _ _ _ _ _ _ _ _ _ _ T19 (mkF m 44 #[.val (.int p1), .val (.int p2), .val (.ref s1), .val (.ref f1), .unset, .unset] [(.ref kv)])
  refine g_getstatic W20 at_44 (pc' := 47) rfl (hw _ (List.mem_of_getElem? (i := 54) rfl)) Via.refl Sv fun T25 W26 => ?_
  refine g_acmpY W26 at_47 (pc' := 52) (by decide) (by decide) rfl rfl (Jvm.Free.XT.aa_eq_t rfl) ?_
  refine g_aload_n W26 at_52 (pc' := 53) rfl rfl rfl ?_
  refine g_virtual W26 at_53 (pc' := 56) (a := f1) (fr' := []) (argsL := []) (rest := []) (Wd := 0) (kc := 0) (ks := 0) rfl (hw _ (List.mem_of_getElem? (i := 55) rfl)) (hw _ (List.mem_of_getElem? (i := 56) rfl)) (hw _ (List.mem_of_getElem? (i := 58) rfl)) (hw _ (List.mem_of_getElem? (i := 57) rfl)) (by decide) Of.1 rfl rfl (lenOf pd_10 rfl) rfl all0 (by decide) (by decide) (Met.pays (met_getter (rm := ({ frames := 0, cells := 0, slots := 0, locals := 0 } : Room)) (plainFor_of_name pn_0) hEL W26.ext d_prog_13_method_4_code_0 d_prog_13_method_4_code_1 (hw _ (List.mem_of_getElem? (i := 41) rfl)) (Of.get 1 rfl) (Or.inl ⟨d_prog_13_method_4_code_4, rfl, rfl⟩)) (hw _ (List.mem_of_getElem? (i := 59) rfl)) (hw _ (List.mem_of_getElem? (i := 28) rfl)) hEL (by decide) (by decide)) fun v32 T27 h29 W28 K30 q31 => ?_
  obtain ⟨rfl, rfl⟩ := q31
  show Goes _ _ _ _ _ _ _ _ _ _ _ T27 (mkF m 56 #[.val (.int p1), .val (.int p2), .val (.ref s1), .val (.ref f1), .unset, .unset] [(.ref s1)])
  refine g_astore W28 at_56 (pc' := 58) (L' := #[.val (.int p1), .val (.int p2), .val (.ref s1), .val (.ref f1), .val (.ref s1), .unset]) rfl rfl rfl ?_
  refine g_aload W28 at_58 (pc' := 60) rfl rfl rfl ?_
  refine g_nullN W28 at_60 (pc' := 63) rfl rfl (fun q => nomatch q) ?_
  refine g_aload_n W28 at_63 (pc' := 64) rfl rfl rfl ?_
  refine g_aload W28 at_64 (pc' := 66) rfl rfl rfl ?_
  have K33 : Keep h3 h9 [] := ((Keep.refl h3 []).trans K10 fun _ q => nomatch q)
  have F34 := Ss.mv K33
  refine g_virtual W28 at_66 (pc' := 69) (a := s1) (fr' := []) (argsL := [(.ref s1)]) (rest := []) (Wd := 0) (kc := 0) (ks := 0) rfl (hw _ (List.mem_of_getElem? (i := 60) rfl)) (hw _ (List.mem_of_getElem? (i := 61) rfl)) (hw _ (List.mem_of_getElem? (i := 63) rfl)) (hw _ (List.mem_of_getElem? (i := 62) rfl)) (by decide) F34.exa rfl rfl (lenOf pd_11 rfl) rfl all0 (by decide) (by decide) (Met.pays (rm_eqSame hw hEL Sc hzc s1 _ W28.ext) (hw _ (List.mem_of_getElem? (i := 64) rfl)) (hw _ (List.mem_of_getElem? (i := 6) rfl)) hEL (by decide) (by decide)) fun v40 T35 h37 W36 K38 q39 => ?_
  obtain ⟨rfl, rfl⟩ := q39
  show Goes _ _ _ _ _ _ _ _ _ _ _ T35 (mkF m 69 #[.val (.int p1), .val (.int p2), .val (.ref s1), .val (.ref f1), .val (.ref s1), .unset] [(.int (1 : Int32))])
  refine g_ifN W36 at_69 (pc' := 72) rfl (Jvm.Free.XT.i0_eq_f (by decide)) ?_
  refine g_aload W36 at_72 (pc' := 74) rfl rfl rfl ?_
  refine g_virtual W36 at_74 (pc' := 77) (a := s1) (fr' := []) (argsL := []) (rest := []) (Wd := 0) (kc := 0) (ks := 0) rfl (hw _ (List.mem_of_getElem? (i := 65) rfl)) (hw _ (List.mem_of_getElem? (i := 66) rfl)) (hw _ (List.mem_of_getElem? (i := 68) rfl)) (hw _ (List.mem_of_getElem? (i := 67) rfl)) (by decide) F34.exa rfl rfl (lenOf pd_12 rfl) rfl all0 (by decide) (by decide) (pays_len hEL (fun d hd => hw d ((by decide +kernel : ∀ d ∈ StrChars.Road.wordsLen, d ∈ tables_1) d hd)) (hw _ (List.mem_of_getElem? (i := 5) rfl)) F34 Sc hzc W36.ext (by decide) (by decide)) fun v46 T41 h43 W42 K44 q45 => ?_
  obtain ⟨rfl, rfl⟩ := q45
  show Goes _ _ _ _ _ _ _ _ _ _ _ T41 (mkF m 77 #[.val (.int p1), .val (.int p2), .val (.ref s1), .val (.ref f1), .val (.ref s1), .unset] [(.int (Int32.ofNat cs.length))])
  refine g_aload_n W42 at_77 (pc' := 78) rfl rfl rfl ?_
  refine g_virtual W42 at_78 (pc' := 81) (a := s1) (fr' := []) (argsL := []) (rest := [(.int (Int32.ofNat cs.length))]) (Wd := 1) (kc := 0) (ks := 0) rfl (hw _ (List.mem_of_getElem? (i := 65) rfl)) (hw _ (List.mem_of_getElem? (i := 66) rfl)) (hw _ (List.mem_of_getElem? (i := 68) rfl)) (hw _ (List.mem_of_getElem? (i := 67) rfl)) (by decide) F34.exa rfl rfl (lenOf pd_12 rfl) rfl all0 (by decide) (by decide) (pays_len hEL (fun d hd => hw d ((by decide +kernel : ∀ d ∈ StrChars.Road.wordsLen, d ∈ tables_1) d hd)) (hw _ (List.mem_of_getElem? (i := 5) rfl)) F34 Sc hzc W42.ext (by decide) (by decide)) fun v52 T47 h49 W48 K50 q51 => ?_
  obtain ⟨rfl, rfl⟩ := q51
  show Goes _ _ _ _ _ _ _ _ _ _ _ T47 (mkF m 81 #[.val (.int p1), .val (.int p2), .val (.ref s1), .val (.ref f1), .val (.ref s1), .unset] [(.int (Int32.ofNat cs.length)), (.int (Int32.ofNat cs.length))])
  refine g_icmpY W48 at_81 (pc' := 86) (by decide) (by decide) (Jvm.Free.XT.ii_eq_t rfl) ?_
  refine g_getstatic W48 at_86 (pc' := 89) rfl (hw _ (List.mem_of_getElem? (i := 43) rfl)) Via.refl Sn1 fun T53 W54 => ?_
  have O55 := On1.ext W54.ext
  refine g_virtual W54 at_89 (pc' := 92) (a := n1) (fr' := []) (argsL := []) (rest := []) (Wd := 0) (kc := 0) (ks := 0) rfl (hw _ (List.mem_of_getElem? (i := 49) rfl)) (hw _ (List.mem_of_getElem? (i := 50) rfl)) (hw _ (List.mem_of_getElem? (i := 52) rfl)) (hw _ (List.mem_of_getElem? (i := 51) rfl)) (by decide) O55.1 rfl rfl (lenOf pd_9 rfl) rfl all0 (by decide) (by decide) (Met.pays (met_getter (rm := ({ frames := 0, cells := 0, slots := 0, locals := 0 } : Room)) (plainFor_of_name pn_0) hEL W54.ext d_prog_13_method_3_code_0 d_prog_13_method_3_code_1 (hw _ (List.mem_of_getElem? (i := 39) rfl)) (O55.get 0 rfl) (Or.inl ⟨d_prog_13_method_3_code_4, rfl, rfl⟩)) (hw _ (List.mem_of_getElem? (i := 53) rfl)) (hw _ (List.mem_of_getElem? (i := 28) rfl)) hEL (by decide) (by decide)) fun v61 T56 h58 W57 K59 q60 => ?_
  obtain ⟨rfl, rfl⟩ := q60
  show Goes _ _ _ _ _ _ _ _ _ _ _ T56 (mkF m 92 #[.val (.int p1), .val (.int p2), .val (.ref s1), .val (.ref f1), .val (.ref s1), .unset] [(.ref k1)])
  refine g_getstatic W57 at_92 (pc' := 95) rfl (hw _ (List.mem_of_getElem? (i := 77) rfl)) Via.refl Sk1 fun T62 W63 => ?_
  refine g_acmpN W63 at_95 (pc' := 98) rfl rfl rfl (Jvm.Free.XT.aa_ne_f rfl) ?_
  refine g_getstatic W63 at_98 (pc' := 101) rfl (hw _ (List.mem_of_getElem? (i := 43) rfl)) Via.refl Sn1 fun T64 W65 => ?_
  refine g_virtual W65 at_101 (pc' := 104) (a := n1) (fr' := []) (argsL := []) (rest := []) (Wd := 0) (kc := 0) (ks := 0) rfl (hw _ (List.mem_of_getElem? (i := 55) rfl)) (hw _ (List.mem_of_getElem? (i := 56) rfl)) (hw _ (List.mem_of_getElem? (i := 58) rfl)) (hw _ (List.mem_of_getElem? (i := 57) rfl)) (by decide) O55.1 rfl rfl (lenOf pd_10 rfl) rfl all0 (by decide) (by decide) (Met.pays (met_getter (rm := ({ frames := 0, cells := 0, slots := 0, locals := 0 } : Room)) (plainFor_of_name pn_0) hEL W65.ext d_prog_13_method_4_code_0 d_prog_13_method_4_code_1 (hw _ (List.mem_of_getElem? (i := 41) rfl)) (O55.get 1 rfl) (Or.inl ⟨d_prog_13_method_4_code_4, rfl, rfl⟩)) (hw _ (List.mem_of_getElem? (i := 59) rfl)) (hw _ (List.mem_of_getElem? (i := 28) rfl)) hEL (by decide) (by decide)) fun v71 T66 h68 W67 K69 q70 => ?_
  obtain ⟨rfl, rfl⟩ := q70
  show Goes _ _ _ _ _ _ _ _ _ _ _ T66 (mkF m 104 #[.val (.int p1), .val (.int p2), .val (.ref s1), .val (.ref f1), .val (.ref s1), .unset] [.null])
  refine g_nonnullN W67 at_104 (pc' := 107) rfl rfl ?_
  refine g_getstatic W67 at_107 (pc' := 110) rfl (hw _ (List.mem_of_getElem? (i := 45) rfl)) Via.refl Sn2 fun T72 W73 => ?_
  have O74 := On2.ext W73.ext
  refine g_virtual W73 at_110 (pc' := 113) (a := n2) (fr' := []) (argsL := []) (rest := []) (Wd := 0) (kc := 0) (ks := 0) rfl (hw _ (List.mem_of_getElem? (i := 49) rfl)) (hw _ (List.mem_of_getElem? (i := 50) rfl)) (hw _ (List.mem_of_getElem? (i := 52) rfl)) (hw _ (List.mem_of_getElem? (i := 51) rfl)) (by decide) O74.1 rfl rfl (lenOf pd_9 rfl) rfl all0 (by decide) (by decide) (Met.pays (met_getter (rm := ({ frames := 0, cells := 0, slots := 0, locals := 0 } : Room)) (plainFor_of_name pn_0) hEL W73.ext d_prog_13_method_3_code_0 d_prog_13_method_3_code_1 (hw _ (List.mem_of_getElem? (i := 39) rfl)) (O74.get 0 rfl) (Or.inl ⟨d_prog_13_method_3_code_4, rfl, rfl⟩)) (hw _ (List.mem_of_getElem? (i := 53) rfl)) (hw _ (List.mem_of_getElem? (i := 28) rfl)) hEL (by decide) (by decide)) fun v80 T75 h77 W76 K78 q79 => ?_
  obtain ⟨rfl, rfl⟩ := q79
  show Goes _ _ _ _ _ _ _ _ _ _ _ T75 (mkF m 113 #[.val (.int p1), .val (.int p2), .val (.ref s1), .val (.ref f1), .val (.ref s1), .unset] [(.ref k2)])
  refine g_getstatic W76 at_113 (pc' := 116) rfl (hw _ (List.mem_of_getElem? (i := 79) rfl)) Via.refl Sk2 fun T81 W82 => ?_
  refine g_acmpN W82 at_116 (pc' := 119) rfl rfl rfl (Jvm.Free.XT.aa_ne_f rfl) ?_
  refine g_getstatic W82 at_119 (pc' := 122) rfl (hw _ (List.mem_of_getElem? (i := 45) rfl)) Via.refl Sn2 fun T83 W84 => ?_
  refine g_virtual W84 at_122 (pc' := 125) (a := n2) (fr' := []) (argsL := []) (rest := []) (Wd := 0) (kc := 0) (ks := 0) rfl (hw _ (List.mem_of_getElem? (i := 55) rfl)) (hw _ (List.mem_of_getElem? (i := 56) rfl)) (hw _ (List.mem_of_getElem? (i := 58) rfl)) (hw _ (List.mem_of_getElem? (i := 57) rfl)) (by decide) O74.1 rfl rfl (lenOf pd_10 rfl) rfl all0 (by decide) (by decide) (Met.pays (met_getter (rm := ({ frames := 0, cells := 0, slots := 0, locals := 0 } : Room)) (plainFor_of_name pn_0) hEL W84.ext d_prog_13_method_4_code_0 d_prog_13_method_4_code_1 (hw _ (List.mem_of_getElem? (i := 41) rfl)) (O74.get 1 rfl) (Or.inl ⟨d_prog_13_method_4_code_4, rfl, rfl⟩)) (hw _ (List.mem_of_getElem? (i := 59) rfl)) (hw _ (List.mem_of_getElem? (i := 28) rfl)) hEL (by decide) (by decide)) fun v90 T85 h87 W86 K88 q89 => ?_
  obtain ⟨rfl, rfl⟩ := q89
  show Goes _ _ _ _ _ _ _ _ _ _ _ T85 (mkF m 125 #[.val (.int p1), .val (.int p2), .val (.ref s1), .val (.ref f1), .val (.ref s1), .unset] [.null])
  refine g_nonnullN W86 at_125 (pc' := 128) rfl rfl ?_
  refine g_getstatic W86 at_128 (pc' := 131) rfl (hw _ (List.mem_of_getElem? (i := 47) rfl)) Via.refl Sn3 fun T91 W92 => ?_
  have O93 := On3.ext W92.ext
  refine g_virtual W92 at_131 (pc' := 134) (a := n3) (fr' := []) (argsL := []) (rest := []) (Wd := 0) (kc := 0) (ks := 0) rfl (hw _ (List.mem_of_getElem? (i := 49) rfl)) (hw _ (List.mem_of_getElem? (i := 50) rfl)) (hw _ (List.mem_of_getElem? (i := 52) rfl)) (hw _ (List.mem_of_getElem? (i := 51) rfl)) (by decide) O93.1 rfl rfl (lenOf pd_9 rfl) rfl all0 (by decide) (by decide) (Met.pays (met_getter (rm := ({ frames := 0, cells := 0, slots := 0, locals := 0 } : Room)) (plainFor_of_name pn_0) hEL W92.ext d_prog_13_method_3_code_0 d_prog_13_method_3_code_1 (hw _ (List.mem_of_getElem? (i := 39) rfl)) (O93.get 0 rfl) (Or.inl ⟨d_prog_13_method_3_code_4, rfl, rfl⟩)) (hw _ (List.mem_of_getElem? (i := 53) rfl)) (hw _ (List.mem_of_getElem? (i := 28) rfl)) hEL (by decide) (by decide)) fun v99 T94 h96 W95 K97 q98 => ?_
  obtain ⟨rfl, rfl⟩ := q98
  show Goes _ _ _ _ _ _ _ _ _ _ _ T94 (mkF m 134 #[.val (.int p1), .val (.int p2), .val (.ref s1), .val (.ref f1), .val (.ref s1), .unset] [(.ref k3)])
  refine g_getstatic W95 at_134 (pc' := 137) rfl (hw _ (List.mem_of_getElem? (i := 81) rfl)) Via.refl Sk3 fun T100 W101 => ?_
  refine g_acmpN W101 at_137 (pc' := 140) rfl rfl rfl (Jvm.Free.XT.aa_ne_f rfl) ?_
  refine g_getstatic W101 at_140 (pc' := 143) rfl (hw _ (List.mem_of_getElem? (i := 47) rfl)) Via.refl Sn3 fun T102 W103 => ?_
  refine g_virtual W103 at_143 (pc' := 146) (a := n3) (fr' := []) (argsL := []) (rest := []) (Wd := 0) (kc := 0) (ks := 0) rfl (hw _ (List.mem_of_getElem? (i := 55) rfl)) (hw _ (List.mem_of_getElem? (i := 56) rfl)) (hw _ (List.mem_of_getElem? (i := 58) rfl)) (hw _ (List.mem_of_getElem? (i := 57) rfl)) (by decide) O93.1 rfl rfl (lenOf pd_10 rfl) rfl all0 (by decide) (by decide) (Met.pays (met_getter (rm := ({ frames := 0, cells := 0, slots := 0, locals := 0 } : Room)) (plainFor_of_name pn_0) hEL W103.ext d_prog_13_method_4_code_0 d_prog_13_method_4_code_1 (hw _ (List.mem_of_getElem? (i := 41) rfl)) (O93.get 1 rfl) (Or.inl ⟨d_prog_13_method_4_code_4, rfl, rfl⟩)) (hw _ (List.mem_of_getElem? (i := 59) rfl)) (hw _ (List.mem_of_getElem? (i := 28) rfl)) hEL (by decide) (by decide)) fun v109 T104 h106 W105 K107 q108 => ?_
  obtain ⟨rfl, rfl⟩ := q108
  show Goes _ _ _ _ _ _ _ _ _ _ _ T104 (mkF m 146 #[.val (.int p1), .val (.int p2), .val (.ref s1), .val (.ref f1), .val (.ref s1), .unset] [.null])
  refine g_nonnullN W105 at_146 (pc' := 149) rfl rfl ?_
  refine g_iconst W105 at_149 (pc' := 150) (v := (1 : Int32)) rfl rfl ?_
  refine g_goto W105 at_150 (pc' := 154) (by decide) (by decide) ?_
  refine g_istore W105 at_154 (pc' := 156) (L' := #[.val (.int p1), .val (.int p2), .val (.ref s1), .val (.ref f1), .val (.ref s1), .val (.int (1 : Int32))]) rfl rfl ?_
  refine g_iload W105 at_156 (pc' := 158) rfl rfl ?_
  have K110 : Keep h h9 [] := (((Keep.refl h []).trans K4 fun _ q => nomatch q).trans K10 fun _ q => nomatch q)
  exact g_ireturn W105 at_158 (by decide) rfl K110 rfl (by decide) (by decide)
theorem comes_1 {Post : Tables → Env → Array Value → State → Outcome → State → Prop} (hpost : ∀ tb e args s v u, (limb_1_1.after args s (.returned v) u = true ∧ limb_1_2.after args s (.returned v) u = true ∧ True) → ReturnedEndW s (.returned v) u (Jvm.fieldLocs frame_1_writes args s ++ Jvm.arrayLocs frame_1_arrays args s ++ Jvm.staticLocs frame_1_statics s) 24 1152 → Post tb e args s (.returned v) u) :
    ArmFor flags0 classFile x code maxLocals ret World_1 tables_1 room_1 Calls_1 rest_1 Pre_1 Post := by
  intro l hfl _ _ p e ha hc hk s m args below hf hA hF happ hP
  obtain ⟨hcalls, hrest, hpre⟩ := hP
  obtain ⟨-, -, -, hnamed, -, -, -, hat⟩ := (Spec.applies_iff hf).mp happ
  obtain ⟨hg, hn⟩ := and_e (Cond.before_iff.mp (show (Jvm.Cond.and given_1 narrow_1).before args s = true from hpre))
  obtain ⟨g0, r0⟩ := and_e hg
  obtain ⟨g1, r1⟩ := and_e r0
  obtain ⟨w0, w1, rfl⟩ : ∃ w0 w1 : Value, args = #[w0, w1] := by
    have hs : args.size = 2 := by simpa [Cond.value, given_1] using g0
    obtain ⟨L⟩ := args
    match L, hs with
    | [w0, w1], _ => exact ⟨w0, w1, rfl⟩
  have hw := fun d (hd : d ∈ tables_1) => atoms_spec (ws := Jvm.Cond.code x code maxLocals ret :: tables_1) hat d (List.mem_cons_of_mem _ hd)
  obtain ⟨hsets, hown0⟩ := atoms_of _ (rest_1_c_eq ▸ (show rest_1_c.before _ s = true from hrest))
  obtain ⟨i0, e0⟩ := is_v g1
  obtain rfl : w0 = (.int i0) := Option.some.inj e0
  obtain ⟨i1, e1⟩ := is_v r1
  obtain rfl : w1 = (.int i1) := Option.some.inj e1
  obtain ⟨zc, ez⟩ := is_v (Cond.before_iff.mp (hsets _ (List.mem_of_getElem? (i := 1) rfl)))
  have Sc : Sta s s.heap "java/lang/String" "COMPACT_STRINGS" "Z" (.int zc) := Sta.start ez (Or.inl (hsets _ (List.mem_of_getElem? (i := 0) rfl)))
  have hzc : ¬ (zc = (0 : Int32)) := gotF (Cond.eq_ints ez (Term.int_eval (0))) (not_v (Cond.before_iff.mp (hsets _ (List.mem_of_getElem? (i := 2) rfl))))
  have hEL : EW s _ EL1 := (EW.cons (hw _ (List.mem_of_getElem? (i := 18) rfl)) (by decide) EW.nil)
  have hCH : CHv s EL1 s.vm s.heap := CHv.start hEL hcalls.1 (hsets _ (List.mem_of_getElem? (i := 2) rfl)) (hw _ (List.mem_of_getElem? (i := 19) rfl)) (hw _ (List.mem_of_getElem? (i := 5) rfl))
  obtain ⟨c0, t0⟩ := and_e hn
  obtain ⟨c1, t1⟩ := and_e t0
  obtain ⟨c2, t2⟩ := and_e t1
  obtain ⟨c3, t3⟩ := and_e t2
  obtain ⟨c4, t4⟩ := and_e t3
  obtain ⟨c5, t5⟩ := and_e t4
  obtain ⟨c6, t6⟩ := and_e t5
  obtain ⟨c7, t7⟩ := and_e t6
  obtain ⟨c8, t8⟩ := and_e t7
  obtain ⟨c9, t9⟩ := and_e t8
  obtain ⟨c10, t10⟩ := and_e t9
  obtain ⟨c11, t11⟩ := and_e t10
  have c12 := t11
  obtain ⟨kv, evkv⟩ := exa_v c0
  have Skv : Sta s s.heap "com/example/catalog/catalog/write/DefaultVersionFlag$Kind" "VERSION" "Lcom/example/catalog/catalog/write/DefaultVersionFlag$Kind;" (.ref kv) := Sta.start evkv (Or.inr ⟨(hw _ (List.mem_of_getElem? (i := 33) rfl)), (hw _ (List.mem_of_getElem? (i := 34) rfl))⟩)
  obtain ⟨n1, evn1⟩ := exa_v c1
  have Sn1 : Sta s s.heap "com/example/catalog/catalog/write/DefaultVersionFlag" "NONE" "Lcom/example/catalog/catalog/write/DefaultVersionFlag;" (.ref n1) := Sta.start evn1 (Or.inr ⟨(hw _ (List.mem_of_getElem? (i := 28) rfl)), (hw _ (List.mem_of_getElem? (i := 44) rfl))⟩)
  obtain ⟨n2, evn2⟩ := exa_v c2
  have Sn2 : Sta s s.heap "com/example/catalog/catalog/write/DefaultVersionFlag" "UNPIN" "Lcom/example/catalog/catalog/write/DefaultVersionFlag;" (.ref n2) := Sta.start evn2 (Or.inr ⟨(hw _ (List.mem_of_getElem? (i := 28) rfl)), (hw _ (List.mem_of_getElem? (i := 46) rfl))⟩)
  obtain ⟨n3, evn3⟩ := exa_v c3
  have Sn3 : Sta s s.heap "com/example/catalog/catalog/write/DefaultVersionFlag" "PIN_CREATED" "Lcom/example/catalog/catalog/write/DefaultVersionFlag;" (.ref n3) := Sta.start evn3 (Or.inr ⟨(hw _ (List.mem_of_getElem? (i := 28) rfl)), (hw _ (List.mem_of_getElem? (i := 48) rfl))⟩)
  obtain ⟨k1, evk1⟩ := exa_v c4
  have Sk1 : Sta s s.heap "com/example/catalog/catalog/write/DefaultVersionFlag$Kind" "NONE" "Lcom/example/catalog/catalog/write/DefaultVersionFlag$Kind;" (.ref k1) := Sta.start evk1 (Or.inr ⟨(hw _ (List.mem_of_getElem? (i := 33) rfl)), (hw _ (List.mem_of_getElem? (i := 76) rfl))⟩)
  obtain ⟨k2, evk2⟩ := exa_v c7
  have Sk2 : Sta s s.heap "com/example/catalog/catalog/write/DefaultVersionFlag$Kind" "UNPIN" "Lcom/example/catalog/catalog/write/DefaultVersionFlag$Kind;" (.ref k2) := Sta.start evk2 (Or.inr ⟨(hw _ (List.mem_of_getElem? (i := 33) rfl)), (hw _ (List.mem_of_getElem? (i := 78) rfl))⟩)
  obtain ⟨k3, evk3⟩ := exa_v c10
  have Sk3 : Sta s s.heap "com/example/catalog/catalog/write/DefaultVersionFlag$Kind" "CREATED" "Lcom/example/catalog/catalog/write/DefaultVersionFlag$Kind;" (.ref k3) := Sta.start evk3 (Or.inr ⟨(hw _ (List.mem_of_getElem? (i := 33) rfl)), (hw _ (List.mem_of_getElem? (i := 80) rfl))⟩)
  have On1 : Obj s s.heap n1 "com/example/catalog/catalog/write/DefaultVersionFlag" [(("com/example/catalog/catalog/write/DefaultVersionFlag", "kind", "Lcom/example/catalog/catalog/write/DefaultVersionFlag$Kind;"), (.ref k1)), (("com/example/catalog/catalog/write/DefaultVersionFlag", "id", "Ljava/lang/String;"), .null)] := ⟨Exa.start evn1 c1, FldL.cons (Fld.start ((fld_at evn1).symm.trans (eqref_v c5 evk1))) (FldL.cons (Fld.start ((fld_at evn1).symm.trans (null_v c6))) FldL.nil)⟩
  have On2 : Obj s s.heap n2 "com/example/catalog/catalog/write/DefaultVersionFlag" [(("com/example/catalog/catalog/write/DefaultVersionFlag", "kind", "Lcom/example/catalog/catalog/write/DefaultVersionFlag$Kind;"), (.ref k2)), (("com/example/catalog/catalog/write/DefaultVersionFlag", "id", "Ljava/lang/String;"), .null)] := ⟨Exa.start evn2 c2, FldL.cons (Fld.start ((fld_at evn2).symm.trans (eqref_v c8 evk2))) (FldL.cons (Fld.start ((fld_at evn2).symm.trans (null_v c9))) FldL.nil)⟩
  have On3 : Obj s s.heap n3 "com/example/catalog/catalog/write/DefaultVersionFlag" [(("com/example/catalog/catalog/write/DefaultVersionFlag", "kind", "Lcom/example/catalog/catalog/write/DefaultVersionFlag$Kind;"), (.ref k3)), (("com/example/catalog/catalog/write/DefaultVersionFlag", "id", "Ljava/lang/String;"), .null)] := ⟨Exa.start evn3 c3, FldL.cons (Fld.start ((fld_at evn3).symm.trans (eqref_v c11 evk3))) (FldL.cons (Fld.start ((fld_at evn3).symm.trans (null_v c12))) FldL.nil)⟩
  obtain ⟨n, o, h1, h2, h3, v, L, rfl, ⟨K, rfl, N⟩, hch, hnw, hq⟩ := rm_law hw hEL Sc hzc i0 i1 kv n1 n2 n3 k1 k2 k3 s.heap ⟨Nat.le_refl _, fun _ _ q => q⟩ Skv Sn1 On1 Sn2 On2 Sn3 On3 Sk1 Sk2 Sk3 p e ha hc hk s m _ below hf ((Spec.applies_iff_loose hf).mp happ).1 ⟨rfl, State.Warmed39.refl s, rfl, hCH, fun _ q => nomatch q⟩ trivial
  refine ⟨n, _, h1, h2, h3, hpost _ _ _ _ _ _ ⟨Cond.after_iff.mpr rfl, Cond.after_iff.mpr (eq_i res_at (Term.int_eval (1)) rfl), trivial⟩ ⟨⟨_, rfl⟩, hq.2.1, hq.2.2.1, (hq.2.2.2.sift fun y hy => Or.inr (N y hy)).mono (by decide) (by decide)⟩⟩
theorem main_1_1 : Claimed_1_1 := comes_1 fun _ _ _ _ _ _ h hF => ⟨h.1, hF⟩
theorem main_1_2 : Claimed_1_2 := comes_1 fun _ _ _ _ _ _ h hF => ⟨h.2.1, hF⟩
end Own
theorem main_1_1 : Claimed_1_1 := Own.main_1_1
theorem main_1_2 : Claimed_1_2 := Own.main_1_2
end Jvm.Pilot.@@N@@
namespace Jvm.Pilot.@@N@@
open Jvm Jvm.ClassFile Sem Op Lib Jvm.Free Jvm.Stand Jvm.Pilot.@@N@@.Jvm.D
/-! MADE BY PROGRAM (witnessworld.py) out of the Statement's table words and the real class files: 22 classes; the members and pool entries that the words name. The judged class is class 1, her method 2. -/
namespace start1
open Jvm.ClassFile
def u (s : String) : CpInfo := .utf8 (stringToUtf16 s)
/-- a pool by its gaps: so many unusable entries, then the entry; so many at the end -/
def gap : Nat → List CpInfo → List CpInfo
  | 0, r => r
  | n + 1, r => .unusable :: gap n r
def poolList (es : List (Nat × CpInfo)) (last : Nat) : List CpInfo := es.foldr (fun e r => gap e.1 (e.2 :: r)) (gap last [])
def pool (es : List (Nat × CpInfo)) (last : Nat) : Array CpInfo := ⟨poolList es last⟩
def fileOf (pool : Array CpInfo) (this : Nat) (attrs : Array Attribute := #[]) (ms : Array MethodInfo := #[]) (fl : Nat := 33) (sup : Nat := 0) (ifs : Array Nat := #[]) (fds : Array FieldInfo := #[]) : ClassFile where
  minorVersion := 0
  majorVersion := 65
  constantPool := pool
  accessFlags := fl
  thisClass := this
  superClass := sup
  interfaces := ifs
  fields := fds
  methods := ms
  attributes := attrs
def plain (name : String) (sup : Option ClassId) : Class where
  name := name
  kind := .ordinary
  loader := none
  accessFlags := 33
  super := sup
  interfaces := #[]
  cf := none
  fields := #[]
  methods := #[]
  instanceTypes := #[]
  staticTypes := #[]
  resolved := #[]
  callSites := []
  init := .initialized
  statics := none
  mirror := none

def pool0 : Array CpInfo := pool [(5, u "<init>"), (0, u "()V"), (1, .class_ 10), (1, u "java/lang/Object")] 113

def k0c0 : Code := { maxStack := 0, maxLocals := 1, code := object_method_1_code, exceptionTable := #[], attributes := #[] }
def k0m0 : Method := { name := "<init>", desc := "()V", sig := { parameters := [], returnType := none }, accessFlags := 1, code := some k0c0 }
/-- java/lang/Object -/
def k0 : Class := { plain "java/lang/Object" none with
  accessFlags := 33
  interfaces := #[]
  cf := some (fileOf pool0 8 #[] #[{ accessFlags := 1, nameIndex := 5, descriptorIndex := 6, attributes := #[] }] 33 0 #[] #[])
  fields := #[]
  methods := #[k0m0]
  instanceTypes := #[]
  staticTypes := #[]
  resolved := Array.replicate 124 none
  statics := none }

def pool1 : Array CpInfo := pool [(2, .class_ 4), (1, u "java/lang/Object"), (0, u "<init>"), (0, u "()V"), (0, .class_ 8), (0, u "java/lang/String"), (0, .methodref 7 10), (0, .nameAndType 5 11), (0, u "([C)V"), (0, .methodref 7 13), (0, .nameAndType 14 15), (0, u "valueOf"), (0, u "(C)Ljava/lang/String;"), (0, .methodref 17 18), (0, .class_ 19), (0, .nameAndType 20 21), (0, u "com/example/catalog/catalog/write/DefaultVersionFlagPinningPinLaw"), (0, u "draw"), (0, u "(II)Ljava/lang/String;"), (0, .methodref 23 24), (0, .class_ 25), (0, .nameAndType 26 27), (0, u "com/example/catalog/catalog/write/DefaultVersionFlag"), (0, u "pinning"), (0, u "(Ljava/lang/String;)Lcom/example/catalog/catalog/write/DefaultVersionFlag;"), (0, .fieldref 23 29), (0, .nameAndType 30 31), (0, u "NONE"), (0, u "Lcom/example/catalog/catalog/write/DefaultVersionFlag;"), (0, .fieldref 23 33), (0, .nameAndType 34 31), (0, u "UNPIN"), (0, .fieldref 23 36), (0, .nameAndType 37 31), (0, u "PIN_CREATED"), (0, .methodref 23 39), (0, .nameAndType 40 41), (0, u "kind"), (0, u "()Lcom/example/catalog/catalog/write/DefaultVersionFlag$Kind;"), (0, .fieldref 43 44), (0, .class_ 45), (0, .nameAndType 46 47), (0, u "com/example/catalog/catalog/write/DefaultVersionFlag$Kind"), (0, u "VERSION"), (0, u "Lcom/example/catalog/catalog/write/DefaultVersionFlag$Kind;"), (0, .methodref 23 49), (0, .nameAndType 50 51), (0, u "id"), (0, u "()Ljava/lang/String;"), (0, .methodref 7 53), (0, .nameAndType 54 55), (0, u "equals"), (0, u "(Ljava/lang/Object;)Z"), (0, .methodref 7 57), (0, .nameAndType 58 59), (0, u "length"), (0, u "()I"), (0, .fieldref 43 61), (0, .nameAndType 30 47), (0, .fieldref 43 63), (0, .nameAndType 34 47), (0, .fieldref 43 65), (0, .nameAndType 66 47), (0, u "CREATED"), (3, u "law"), (0, u "(II)Z")] 4

def k1m0 : Method := { name := "<init>", desc := "()V", sig := { parameters := [], returnType := none }, accessFlags := 1, code := none }
def k1c1 : Code := { maxStack := 6, maxLocals := 6, code := method_2_code, exceptionTable := #[], attributes := #[] }
def k1m1 : Method := { name := "draw", desc := "(II)Ljava/lang/String;", sig := { parameters := [.int, .int], returnType := some (.object "java/lang/String") }, accessFlags := 10, code := some k1c1 }
def k1c2 : Code := { maxStack := 2, maxLocals := 6, code := code, exceptionTable := #[], attributes := #[] }
def k1m2 : Method := { name := "law", desc := "(II)Z", sig := { parameters := [.int, .int], returnType := some .boolean }, accessFlags := 9, code := some k1c2 }
/-- com/example/catalog/catalog/write/DefaultVersionFlagPinningPinLaw -/
def k1 : Class := { plain "com/example/catalog/catalog/write/DefaultVersionFlagPinningPinLaw" (some 0) with
  accessFlags := 49
  interfaces := #[]
  cf := some (fileOf pool1 17 #[] #[{ accessFlags := 1, nameIndex := 5, descriptorIndex := 6, attributes := #[] }, { accessFlags := 10, nameIndex := 20, descriptorIndex := 21, attributes := #[] }, { accessFlags := 9, nameIndex := 70, descriptorIndex := 71, attributes := #[] }] 49 2 #[] #[])
  fields := #[]
  methods := #[k1m0, k1m1, k1m2]
  instanceTypes := #[]
  staticTypes := #[]
  resolved := Array.replicate 76 none
  statics := none }

def pool2 : Array CpInfo := pool [(1, .class_ 2), (0, u "java/io/Serializable"), (0, .class_ 4), (0, u "java/lang/Object")] 2

/-- java/io/Serializable -/
def k2 : Class := { plain "java/io/Serializable" (some 0) with
  accessFlags := 1537
  interfaces := #[]
  cf := some (fileOf pool2 1 #[] #[] 1537 3 #[] #[])
  fields := #[]
  methods := #[]
  instanceTypes := #[]
  staticTypes := #[]
  resolved := Array.replicate 7 none
  statics := none }

def pool3 : Array CpInfo := pool [(1, .class_ 2), (0, u "java/lang/Comparable"), (0, .class_ 4), (0, u "java/lang/Object")] 7

/-- java/lang/Comparable -/
def k3 : Class := { plain "java/lang/Comparable" (some 0) with
  accessFlags := 1537
  interfaces := #[]
  cf := some (fileOf pool3 1 #[] #[] 1537 3 #[] #[])
  fields := #[]
  methods := #[]
  instanceTypes := #[]
  staticTypes := #[]
  resolved := Array.replicate 12 none
  statics := none }

def pool4 : Array CpInfo := pool [(2, .class_ 4), (1, u "java/lang/CharSequence"), (42, .class_ 48), (0, u "java/lang/CharSequence$1CodePointIterator"), (10, .class_ 60), (0, u "java/lang/CharSequence$1CharIterator"), (5, .class_ 67), (0, u "java/lang/Object")] 63

/-- java/lang/CharSequence -/
def k4 : Class := { plain "java/lang/CharSequence" (some 0) with
  accessFlags := 1537
  interfaces := #[]
  cf := some (fileOf pool4 2 #[.nestMembers #[47, 59]] #[] 1537 66 #[] #[])
  fields := #[]
  methods := #[]
  instanceTypes := #[]
  staticTypes := #[]
  resolved := Array.replicate 131 none
  statics := none }

def pool5 : Array CpInfo := pool [(1, .class_ 2), (0, u "java/lang/constant/Constable"), (0, .class_ 4), (0, u "java/lang/Object")] 6

/-- java/lang/constant/Constable -/
def k5 : Class := { plain "java/lang/constant/Constable" (some 0) with
  accessFlags := 1537
  interfaces := #[]
  cf := some (fileOf pool5 1 #[] #[] 1537 3 #[] #[])
  fields := #[]
  methods := #[]
  instanceTypes := #[]
  staticTypes := #[]
  resolved := Array.replicate 11 none
  statics := none }

def pool6 : Array CpInfo := pool [(1, .class_ 2), (0, u "java/lang/constant/ConstantDesc"), (0, .class_ 4), (0, u "java/lang/Object")] 32

/-- java/lang/constant/ConstantDesc -/
def k6 : Class := { plain "java/lang/constant/ConstantDesc" (some 0) with
  accessFlags := 1537
  interfaces := #[]
  cf := some (fileOf pool6 1 #[] #[] 1537 3 #[] #[])
  fields := #[]
  methods := #[]
  instanceTypes := #[]
  staticTypes := #[]
  resolved := Array.replicate 37 none
  statics := none }

def pool7 : Array CpInfo := pool [(1, .methodref 2 3), (0, .class_ 4), (0, .nameAndType 5 6), (0, u "java/lang/Object"), (0, u "<init>"), (0, u "()V"), (0, .string 8), (0, u ""), (0, .fieldref 10 11), (0, .class_ 12), (0, .nameAndType 13 14), (0, u "java/lang/String"), (0, u "value"), (0, u "[B"), (0, .fieldref 10 16), (0, .nameAndType 17 18), (0, u "coder"), (0, u "B"), (2, u "hash"), (0, u "I"), (2, u "hashIsZero"), (0, u "Z"), (0, .methodref 10 28), (0, .nameAndType 5 29), (0, u "([CIILjava/lang/Void;)V"), (8, .fieldref 10 39), (0, .nameAndType 40 26), (0, u "COMPACT_STRINGS"), (1, .class_ 44), (1, u "java/lang/StringUTF16"), (0, u "compress"), (1, .methodref 42 48), (0, .nameAndType 49 50), (0, u "coderFromArrayLen"), (0, u "([BI)B"), (2, u "toBytes"), (53, .class_ 109), (1, u "java/lang/StringLatin1"), (67, .methodref 42 178), (0, .nameAndType 45 179), (0, u "([CII)[B"), (29, .methodref 10 210), (0, .nameAndType 5 211), (0, u "([BB)V"), (122, u "()I"), (0, .methodref 10 336), (0, .nameAndType 17 337), (0, u "()B"), (31, u "(C)Z"), (137, u "length"), (35, u "equals"), (29, u "(Ljava/lang/Object;)Z"), (1, .class_ 576), (0, u "java/lang/CharSequence"), (22, u "CASE_INSENSITIVE_ORDER"), (0, u "Ljava/util/Comparator;"), (181, u "valueOf"), (0, u "(C)Ljava/lang/String;"), (226, u "([C)V"), (4, .methodref 107 1016), (0, .nameAndType 1017 369), (0, u "canEncode"), (0, .methodref 107 1019), (0, .nameAndType 53 1020), (0, u "(C)[B"), (80, u "serialPersistentFields"), (0, u "[Ljava/io/ObjectStreamField;"), (0, .class_ 1104), (0, u "java/lang/String$CaseInsensitiveComparator"), (1, .class_ 1107), (0, u "java/io/Serializable"), (0, .class_ 1109), (0, u "java/lang/Comparable"), (0, .class_ 1111), (0, u "java/lang/constant/Constable"), (0, .class_ 1113), (0, u "java/lang/constant/ConstantDesc"), (2, u "serialVersionUID"), (0, u "J"), (3, u "REPL"), (0, u "C"), (2, u "LATIN1"), (1, u "UTF16")] 323

def k7m0 : Method := { name := "<init>", desc := "()V", sig := { parameters := [], returnType := none }, accessFlags := 1, code := none }
def k7c1 : Code := { maxStack := 5, maxLocals := 2, code := jdk_42_method_3_code, exceptionTable := #[], attributes := #[] }
def k7m1 : Method := { name := "<init>", desc := "([C)V", sig := { parameters := [(.array .char)], returnType := none }, accessFlags := 1, code := some k7c1 }
def k7c2 : Code := { maxStack := 2, maxLocals := 1, code := jdk_42_method_54_code, exceptionTable := #[], attributes := #[] }
def k7m2 : Method := { name := "length", desc := "()I", sig := { parameters := [], returnType := some .int }, accessFlags := 1, code := some k7c2 }
def k7c3 : Code := { maxStack := 2, maxLocals := 3, code := jdk_42_method_66_code, exceptionTable := #[], attributes := #[] }
def k7m3 : Method := { name := "equals", desc := "(Ljava/lang/Object;)Z", sig := { parameters := [(.object "java/lang/Object")], returnType := some .boolean }, accessFlags := 1, code := some k7c3 }
def k7c4 : Code := { maxStack := 4, maxLocals := 1, code := jdk_42_method_139_code, exceptionTable := #[], attributes := #[] }
def k7m4 : Method := { name := "valueOf", desc := "(C)Ljava/lang/String;", sig := { parameters := [.char], returnType := some (.object "java/lang/String") }, accessFlags := 9, code := some k7c4 }
def k7c5 : Code := { maxStack := 4, maxLocals := 6, code := jdk_42_method_149_code, exceptionTable := #[], attributes := #[] }
def k7m5 : Method := { name := "<init>", desc := "([CIILjava/lang/Void;)V", sig := { parameters := [(.array .char), .int, .int, (.object "java/lang/Void")], returnType := none }, accessFlags := 2, code := some k7c5 }
def k7c6 : Code := { maxStack := 2, maxLocals := 3, code := jdk_42_method_151_code, exceptionTable := #[], attributes := #[] }
def k7m6 : Method := { name := "<init>", desc := "([BB)V", sig := { parameters := [(.array .byte), .byte], returnType := none }, accessFlags := 0, code := some k7c6 }
def k7c7 : Code := { maxStack := 1, maxLocals := 1, code := jdk_42_method_152_code, exceptionTable := #[], attributes := #[] }
def k7m7 : Method := { name := "coder", desc := "()B", sig := { parameters := [], returnType := some .byte }, accessFlags := 0, code := some k7c7 }
/-- java/lang/String -/
def k7 : Class := { plain "java/lang/String" (some 0) with
  accessFlags := 49
  interfaces := #[2, 3, 4, 5, 6]
  cf := some (fileOf pool7 10 #[.nestMembers #[1103]] #[{ accessFlags := 1, nameIndex := 5, descriptorIndex := 6, attributes := #[] }, { accessFlags := 1, nameIndex := 5, descriptorIndex := 1010, attributes := #[] }, { accessFlags := 1, nameIndex := 507, descriptorIndex := 334, attributes := #[] }, { accessFlags := 1, nameIndex := 543, descriptorIndex := 573, attributes := #[] }, { accessFlags := 9, nameIndex := 782, descriptorIndex := 783, attributes := #[] }, { accessFlags := 2, nameIndex := 5, descriptorIndex := 29, attributes := #[] }, { accessFlags := 0, nameIndex := 5, descriptorIndex := 211, attributes := #[] }, { accessFlags := 0, nameIndex := 17, descriptorIndex := 337, attributes := #[] }] 49 2 #[1106, 1108, 575, 1110, 1112] #[{ accessFlags := 18, nameIndex := 13, descriptorIndex := 14, attributes := #[] }, { accessFlags := 18, nameIndex := 17, descriptorIndex := 18, attributes := #[] }, { accessFlags := 2, nameIndex := 21, descriptorIndex := 22, attributes := #[] }, { accessFlags := 2, nameIndex := 25, descriptorIndex := 26, attributes := #[] }, { accessFlags := 26, nameIndex := 1116, descriptorIndex := 1117, attributes := #[] }, { accessFlags := 24, nameIndex := 40, descriptorIndex := 26, attributes := #[] }, { accessFlags := 26, nameIndex := 1101, descriptorIndex := 1102, attributes := #[] }, { accessFlags := 26, nameIndex := 1121, descriptorIndex := 1122, attributes := #[] }, { accessFlags := 25, nameIndex := 599, descriptorIndex := 600, attributes := #[] }, { accessFlags := 24, nameIndex := 1125, descriptorIndex := 18, attributes := #[] }, { accessFlags := 24, nameIndex := 1127, descriptorIndex := 18, attributes := #[] }])
  fields := #[{ name := "value", type := (.array .byte), accessFlags := 18, slot := 0, constantValue := 0 }, { name := "coder", type := .byte, accessFlags := 18, slot := 1, constantValue := 0 }, { name := "hash", type := .int, accessFlags := 2, slot := 2, constantValue := 0 }, { name := "hashIsZero", type := .boolean, accessFlags := 2, slot := 3, constantValue := 0 }, { name := "serialVersionUID", type := .long, accessFlags := 26, slot := 0, constantValue := 0 }, { name := "COMPACT_STRINGS", type := .boolean, accessFlags := 24, slot := 1, constantValue := 0 }, { name := "serialPersistentFields", type := (.array (.object "java/io/ObjectStreamField")), accessFlags := 26, slot := 2, constantValue := 0 }, { name := "REPL", type := .char, accessFlags := 26, slot := 3, constantValue := 0 }, { name := "CASE_INSENSITIVE_ORDER", type := (.object "java/util/Comparator"), accessFlags := 25, slot := 4, constantValue := 0 }, { name := "LATIN1", type := .byte, accessFlags := 24, slot := 5, constantValue := 0 }, { name := "UTF16", type := .byte, accessFlags := 24, slot := 6, constantValue := 0 }]
  methods := #[k7m0, k7m1, k7m2, k7m3, k7m4, k7m5, k7m6, k7m7]
  instanceTypes := #[(.array .byte), .byte, .int, .boolean]
  staticTypes := #[.long, .boolean, (.array (.object "java/io/ObjectStreamField")), .char, (.object "java/util/Comparator"), .byte, .byte]
  resolved := Array.replicate 1451 none
  statics := some 0 }

def pool8 : Array CpInfo := pool [(1, .methodref 2 3), (0, .class_ 4), (0, .nameAndType 5 6), (0, u "java/lang/Object"), (0, u "<init>"), (0, u "()V"), (0, .fieldref 8 9), (0, .class_ 10), (0, .nameAndType 11 12), (0, u "com/example/catalog/catalog/write/DefaultVersionFlag"), (0, u "kind"), (0, u "Lcom/example/catalog/catalog/write/DefaultVersionFlag$Kind;"), (0, .fieldref 8 14), (0, .nameAndType 15 16), (0, u "id"), (0, u "Ljava/lang/String;"), (0, .fieldref 18 19), (0, .class_ 20), (0, .nameAndType 21 12), (0, u "com/example/catalog/catalog/write/DefaultVersionFlag$Kind"), (0, u "VERSION"), (0, .methodref 8 23), (0, .nameAndType 5 24), (0, u "(Lcom/example/catalog/catalog/write/DefaultVersionFlag$Kind;Ljava/lang/String;)V"), (2, u "NONE"), (2, u "Lcom/example/catalog/catalog/write/DefaultVersionFlag;"), (2, u "UNPIN"), (7, u "PIN_CREATED"), (2, u "pinning"), (0, u "(Ljava/lang/String;)Lcom/example/catalog/catalog/write/DefaultVersionFlag;"), (0, u "()Lcom/example/catalog/catalog/write/DefaultVersionFlag$Kind;"), (0, u "()Ljava/lang/String;")] 6

def k8c0 : Code := { maxStack := 2, maxLocals := 3, code := prog_13_method_1_code, exceptionTable := #[], attributes := #[] }
def k8m0 : Method := { name := "<init>", desc := "(Lcom/example/catalog/catalog/write/DefaultVersionFlag$Kind;Ljava/lang/String;)V", sig := { parameters := [(.object "com/example/catalog/catalog/write/DefaultVersionFlag$Kind"), (.object "java/lang/String")], returnType := none }, accessFlags := 2, code := some k8c0 }
def k8c1 : Code := { maxStack := 4, maxLocals := 1, code := prog_13_method_2_code, exceptionTable := #[], attributes := #[] }
def k8m1 : Method := { name := "pinning", desc := "(Ljava/lang/String;)Lcom/example/catalog/catalog/write/DefaultVersionFlag;", sig := { parameters := [(.object "java/lang/String")], returnType := some (.object "com/example/catalog/catalog/write/DefaultVersionFlag") }, accessFlags := 9, code := some k8c1 }
def k8c2 : Code := { maxStack := 1, maxLocals := 1, code := prog_13_method_3_code, exceptionTable := #[], attributes := #[] }
def k8m2 : Method := { name := "kind", desc := "()Lcom/example/catalog/catalog/write/DefaultVersionFlag$Kind;", sig := { parameters := [], returnType := some (.object "com/example/catalog/catalog/write/DefaultVersionFlag$Kind") }, accessFlags := 0, code := some k8c2 }
def k8c3 : Code := { maxStack := 1, maxLocals := 1, code := prog_13_method_4_code, exceptionTable := #[], attributes := #[] }
def k8m3 : Method := { name := "id", desc := "()Ljava/lang/String;", sig := { parameters := [], returnType := some (.object "java/lang/String") }, accessFlags := 0, code := some k8c3 }
/-- com/example/catalog/catalog/write/DefaultVersionFlag -/
def k8 : Class := { plain "com/example/catalog/catalog/write/DefaultVersionFlag" (some 0) with
  accessFlags := 33
  interfaces := #[]
  cf := some (fileOf pool8 8 #[.nestMembers #[18]] #[{ accessFlags := 2, nameIndex := 5, descriptorIndex := 24, attributes := #[] }, { accessFlags := 9, nameIndex := 44, descriptorIndex := 45, attributes := #[] }, { accessFlags := 0, nameIndex := 11, descriptorIndex := 46, attributes := #[] }, { accessFlags := 0, nameIndex := 15, descriptorIndex := 47, attributes := #[] }] 33 2 #[] #[{ accessFlags := 25, nameIndex := 27, descriptorIndex := 30, attributes := #[] }, { accessFlags := 25, nameIndex := 33, descriptorIndex := 30, attributes := #[] }, { accessFlags := 25, nameIndex := 41, descriptorIndex := 30, attributes := #[] }, { accessFlags := 18, nameIndex := 11, descriptorIndex := 12, attributes := #[] }, { accessFlags := 18, nameIndex := 15, descriptorIndex := 16, attributes := #[] }])
  fields := #[{ name := "NONE", type := (.object "com/example/catalog/catalog/write/DefaultVersionFlag"), accessFlags := 25, slot := 0, constantValue := 0 }, { name := "UNPIN", type := (.object "com/example/catalog/catalog/write/DefaultVersionFlag"), accessFlags := 25, slot := 1, constantValue := 0 }, { name := "PIN_CREATED", type := (.object "com/example/catalog/catalog/write/DefaultVersionFlag"), accessFlags := 25, slot := 2, constantValue := 0 }, { name := "kind", type := (.object "com/example/catalog/catalog/write/DefaultVersionFlag$Kind"), accessFlags := 18, slot := 0, constantValue := 0 }, { name := "id", type := (.object "java/lang/String"), accessFlags := 18, slot := 1, constantValue := 0 }]
  methods := #[k8m0, k8m1, k8m2, k8m3]
  instanceTypes := #[(.object "com/example/catalog/catalog/write/DefaultVersionFlag$Kind"), (.object "java/lang/String")]
  staticTypes := #[(.object "com/example/catalog/catalog/write/DefaultVersionFlag"), (.object "com/example/catalog/catalog/write/DefaultVersionFlag"), (.object "com/example/catalog/catalog/write/DefaultVersionFlag")]
  resolved := Array.replicate 54 none
  statics := some 1 }

def pool9 : Array CpInfo := pool [(2, .class_ 4), (1, u "java/lang/Enum"), (0, u "name"), (0, u "Ljava/lang/String;"), (2, u "ordinal"), (0, u "I"), (1, .class_ 14), (1, u "java/lang/Object"), (4, u "hash"), (86, .class_ 108), (1, u "java/lang/Enum$EnumDesc"), (2, .class_ 112), (0, u "java/lang/constant/Constable"), (0, .class_ 114), (0, u "java/lang/Comparable"), (0, .class_ 116), (0, u "java/io/Serializable")] 87

/-- java/lang/Enum -/
def k9 : Class := { plain "java/lang/Enum" (some 0) with
  accessFlags := 1057
  interfaces := #[5, 3, 2]
  cf := some (fileOf pool9 2 #[.nestMembers #[106]] #[] 1057 12 #[111, 113, 115] #[{ accessFlags := 18, nameIndex := 5, descriptorIndex := 6, attributes := #[] }, { accessFlags := 18, nameIndex := 9, descriptorIndex := 10, attributes := #[] }, { accessFlags := 2, nameIndex := 19, descriptorIndex := 10, attributes := #[] }])
  fields := #[{ name := "name", type := (.object "java/lang/String"), accessFlags := 18, slot := 0, constantValue := 0 }, { name := "ordinal", type := .int, accessFlags := 18, slot := 1, constantValue := 0 }, { name := "hash", type := .int, accessFlags := 2, slot := 2, constantValue := 0 }]
  methods := #[]
  instanceTypes := #[(.object "java/lang/String"), .int, .int]
  staticTypes := #[]
  resolved := Array.replicate 204 none
  statics := none }

def pool10 : Array CpInfo := pool [(1, .class_ 2), (0, u "com/example/catalog/catalog/write/DefaultVersionFlag$Kind"), (2, u "NONE"), (0, u "Lcom/example/catalog/catalog/write/DefaultVersionFlag$Kind;"), (2, u "VERSION"), (2, u "CREATED"), (2, u "UNPIN"), (2, u "$VALUES"), (0, u "[Lcom/example/catalog/catalog/write/DefaultVersionFlag$Kind;"), (6, .class_ 28), (1, u "java/lang/Enum"), (27, .class_ 57), (0, u "com/example/catalog/catalog/write/DefaultVersionFlag")] 2

/-- com/example/catalog/catalog/write/DefaultVersionFlag$Kind -/
def k10 : Class := { plain "com/example/catalog/catalog/write/DefaultVersionFlag$Kind" (some 9) with
  accessFlags := 16432
  interfaces := #[]
  cf := some (fileOf pool10 1 #[.nestHost 56] #[] 16432 26 #[] #[{ accessFlags := 16409, nameIndex := 5, descriptorIndex := 6, attributes := #[] }, { accessFlags := 16409, nameIndex := 9, descriptorIndex := 6, attributes := #[] }, { accessFlags := 16409, nameIndex := 12, descriptorIndex := 6, attributes := #[] }, { accessFlags := 16409, nameIndex := 15, descriptorIndex := 6, attributes := #[] }, { accessFlags := 4122, nameIndex := 18, descriptorIndex := 19, attributes := #[] }])
  fields := #[{ name := "NONE", type := (.object "com/example/catalog/catalog/write/DefaultVersionFlag$Kind"), accessFlags := 16409, slot := 0, constantValue := 0 }, { name := "VERSION", type := (.object "com/example/catalog/catalog/write/DefaultVersionFlag$Kind"), accessFlags := 16409, slot := 1, constantValue := 0 }, { name := "CREATED", type := (.object "com/example/catalog/catalog/write/DefaultVersionFlag$Kind"), accessFlags := 16409, slot := 2, constantValue := 0 }, { name := "UNPIN", type := (.object "com/example/catalog/catalog/write/DefaultVersionFlag$Kind"), accessFlags := 16409, slot := 3, constantValue := 0 }, { name := "$VALUES", type := (.array (.object "com/example/catalog/catalog/write/DefaultVersionFlag$Kind")), accessFlags := 4122, slot := 4, constantValue := 0 }]
  methods := #[]
  instanceTypes := #[(.object "java/lang/String"), .int, .int]
  staticTypes := #[(.object "com/example/catalog/catalog/write/DefaultVersionFlag$Kind"), (.object "com/example/catalog/catalog/write/DefaultVersionFlag$Kind"), (.object "com/example/catalog/catalog/write/DefaultVersionFlag$Kind"), (.object "com/example/catalog/catalog/write/DefaultVersionFlag$Kind"), (.array (.object "com/example/catalog/catalog/write/DefaultVersionFlag$Kind"))]
  resolved := Array.replicate 60 none
  statics := some 2 }

def pool11 : Array CpInfo := pool [(6, .class_ 8), (1, u "java/lang/Object"), (0, u "<init>"), (0, u "()V"), (1, .class_ 14), (1, u "java/lang/StringUTF16"), (31, u "$assertionsDisabled"), (0, u "Z"), (13, u "HI_BYTE_SHIFT"), (0, u "I"), (2, u "LO_BYTE_SHIFT"), (49, .methodref 12 116), (0, .nameAndType 117 118), (0, u "compress"), (0, u "([CI[BII)I"), (3, u "([CII)[B"), (138, u "coderFromArrayLen"), (0, u "([BI)B"), (106, .class_ 371), (1, u "java/lang/StringUTF16$LinesSpliterator"), (58, u "MAX_LENGTH"), (196, .class_ 628), (0, u "java/lang/StringUTF16$CodePointsSpliterator"), (0, .class_ 630), (0, u "java/lang/StringUTF16$CharsSpliterator")] 4

def k11m0 : Method := { name := "<init>", desc := "()V", sig := { parameters := [], returnType := none }, accessFlags := 0, code := none }
def k11c1 : Code := { maxStack := 2, maxLocals := 2, code := jdk_52_method_15_code, exceptionTable := #[], attributes := #[] }
def k11m1 : Method := { name := "coderFromArrayLen", desc := "([BI)B", sig := { parameters := [(.array .byte), .int], returnType := some .byte }, accessFlags := 8, code := some k11c1 }
def k11c2 : Code := { maxStack := 5, maxLocals := 6, code := jdk_52_method_16_code, exceptionTable := #[], attributes := #[] }
def k11m2 : Method := { name := "compress", desc := "([CII)[B", sig := { parameters := [(.array .char), .int, .int], returnType := some (.array .byte) }, accessFlags := 9, code := some k11c2 }
def k11c3 : Code := { maxStack := 3, maxLocals := 7, code := jdk_52_method_21_code, exceptionTable := #[], attributes := #[] }
def k11m3 : Method := { name := "compress", desc := "([CI[BII)I", sig := { parameters := [(.array .char), .int, (.array .byte), .int, .int], returnType := some .int }, accessFlags := 9, code := some k11c3 }
/-- java/lang/StringUTF16 -/
def k11 : Class := { plain "java/lang/StringUTF16" (some 0) with
  accessFlags := 48
  interfaces := #[]
  cf := some (fileOf pool11 12 #[.nestMembers #[627, 629, 369]] #[{ accessFlags := 0, nameIndex := 9, descriptorIndex := 10, attributes := #[] }, { accessFlags := 8, nameIndex := 261, descriptorIndex := 262, attributes := #[] }, { accessFlags := 9, nameIndex := 117, descriptorIndex := 122, attributes := #[] }, { accessFlags := 9, nameIndex := 117, descriptorIndex := 118, attributes := #[] }] 48 6 #[] #[{ accessFlags := 26, nameIndex := 61, descriptorIndex := 62, attributes := #[] }, { accessFlags := 26, nameIndex := 65, descriptorIndex := 62, attributes := #[] }, { accessFlags := 24, nameIndex := 430, descriptorIndex := 62, attributes := #[] }, { accessFlags := 4120, nameIndex := 46, descriptorIndex := 47, attributes := #[] }])
  fields := #[{ name := "HI_BYTE_SHIFT", type := .int, accessFlags := 26, slot := 0, constantValue := 0 }, { name := "LO_BYTE_SHIFT", type := .int, accessFlags := 26, slot := 1, constantValue := 0 }, { name := "MAX_LENGTH", type := .int, accessFlags := 24, slot := 2, constantValue := 0 }, { name := "$assertionsDisabled", type := .boolean, accessFlags := 4120, slot := 3, constantValue := 0 }]
  methods := #[k11m0, k11m1, k11m2, k11m3]
  instanceTypes := #[]
  staticTypes := #[.int, .int, .int, .boolean]
  resolved := Array.replicate 635 none
  statics := none }

def pool12 : Array CpInfo := pool [(4, .class_ 6), (1, u "java/lang/Object"), (0, u "<init>"), (0, u "()V"), (5, .class_ 16), (1, u "java/lang/StringLatin1"), (73, u "canEncode"), (14, u "(C)Z"), (15, u "$assertionsDisabled"), (0, u "Z"), (98, .class_ 223), (1, u "java/lang/StringLatin1$LinesSpliterator"), (156, u "toBytes"), (1, u "(C)[B"), (7, .class_ 391), (0, u "java/lang/StringLatin1$CharsSpliterator")] 3

def k12m0 : Method := { name := "<init>", desc := "()V", sig := { parameters := [], returnType := none }, accessFlags := 0, code := none }
def k12c1 : Code := { maxStack := 2, maxLocals := 1, code := jdk_43_method_3_code, exceptionTable := #[], attributes := #[] }
def k12m1 : Method := { name := "canEncode", desc := "(C)Z", sig := { parameters := [.char], returnType := some .boolean }, accessFlags := 9, code := some k12c1 }
def k12c2 : Code := { maxStack := 4, maxLocals := 1, code := jdk_43_method_46_code, exceptionTable := #[], attributes := #[] }
def k12m2 : Method := { name := "toBytes", desc := "(C)[B", sig := { parameters := [.char], returnType := some (.array .byte) }, accessFlags := 9, code := some k12c2 }
/-- java/lang/StringLatin1 -/
def k12 : Class := { plain "java/lang/StringLatin1" (some 0) with
  accessFlags := 48
  interfaces := #[]
  cf := some (fileOf pool12 14 #[.nestMembers #[390, 221]] #[{ accessFlags := 0, nameIndex := 7, descriptorIndex := 8, attributes := #[] }, { accessFlags := 9, nameIndex := 90, descriptorIndex := 105, attributes := #[] }, { accessFlags := 9, nameIndex := 380, descriptorIndex := 382, attributes := #[] }] 48 4 #[] #[{ accessFlags := 4120, nameIndex := 121, descriptorIndex := 122, attributes := #[] }])
  fields := #[{ name := "$assertionsDisabled", type := .boolean, accessFlags := 4120, slot := 0, constantValue := 0 }]
  methods := #[k12m0, k12m1, k12m2]
  instanceTypes := #[]
  staticTypes := #[.boolean]
  resolved := Array.replicate 395 none
  statics := none }

def pool13 : Array CpInfo := pool [(2, .class_ 4), (1, u "java/lang/Object"), (0, u "<init>"), (0, u "()V"), (17, .class_ 26), (1, u "jdk/internal/util/Preconditions"), (28, .class_ 56), (0, u "jdk/internal/util/Preconditions$4"), (57, .class_ 115), (0, u "jdk/internal/util/Preconditions$1"), (7, u "SIOOBE_FORMATTER"), (0, u "Ljava/util/function/BiFunction;"), (0, .class_ 126), (0, u "jdk/internal/util/Preconditions$2"), (3, u "AIOOBE_FORMATTER"), (0, .class_ 132), (0, u "jdk/internal/util/Preconditions$3"), (3, u "IOOBE_FORMATTER")] 57

def k13m0 : Method := { name := "<init>", desc := "()V", sig := { parameters := [], returnType := none }, accessFlags := 1, code := none }
/-- jdk/internal/util/Preconditions -/
def k13 : Class := { plain "jdk/internal/util/Preconditions" (some 0) with
  accessFlags := 33
  interfaces := #[]
  cf := some (fileOf pool13 24 #[.nestMembers #[55, 131, 125, 114]] #[{ accessFlags := 1, nameIndex := 5, descriptorIndex := 6, attributes := #[] }] 33 2 #[] #[{ accessFlags := 25, nameIndex := 123, descriptorIndex := 124, attributes := #[] }, { accessFlags := 25, nameIndex := 130, descriptorIndex := 124, attributes := #[] }, { accessFlags := 25, nameIndex := 136, descriptorIndex := 124, attributes := #[] }])
  fields := #[{ name := "SIOOBE_FORMATTER", type := (.object "java/util/function/BiFunction"), accessFlags := 25, slot := 0, constantValue := 0 }, { name := "AIOOBE_FORMATTER", type := (.object "java/util/function/BiFunction"), accessFlags := 25, slot := 1, constantValue := 0 }, { name := "IOOBE_FORMATTER", type := (.object "java/util/function/BiFunction"), accessFlags := 25, slot := 2, constantValue := 0 }]
  methods := #[k13m0]
  instanceTypes := #[]
  staticTypes := #[(.object "java/util/function/BiFunction"), (.object "java/util/function/BiFunction"), (.object "java/util/function/BiFunction")]
  resolved := Array.replicate 194 none
  statics := some 3 }

def pool14 : Array CpInfo := pool [(9, u "<init>"), (6, .class_ 18), (1, u "java/lang/Object"), (0, u "()V"), (1, .class_ 23), (1, u "jdk/internal/util/ArraysSupport"), (0, u "LOG2_ARRAY_LONG_INDEX_SCALE"), (0, u "I"), (2, u "U"), (0, u "Ljdk/internal/misc/Unsafe;"), (8, u "BIG_ENDIAN"), (0, u "Z"), (8, u "LOG2_BYTE_BIT_SIZE"), (4, u "LOG2_ARRAY_INT_INDEX_SCALE"), (54, u "JLA"), (0, u "Ljdk/internal/access/JavaLangAccess;"), (11, u "LOG2_ARRAY_BOOLEAN_INDEX_SCALE"), (9, u "LOG2_ARRAY_BYTE_INDEX_SCALE"), (5, u "LOG2_ARRAY_CHAR_INDEX_SCALE"), (5, u "LOG2_ARRAY_SHORT_INDEX_SCALE"), (18, u "LOG2_ARRAY_FLOAT_INDEX_SCALE"), (24, u "LOG2_ARRAY_DOUBLE_INDEX_SCALE"), (89, u "T_BOOLEAN"), (2, u "T_CHAR"), (1, u "T_FLOAT"), (1, u "T_DOUBLE"), (1, u "T_BYTE"), (1, u "T_SHORT"), (1, u "T_INT"), (1, u "T_LONG"), (1, u "SOFT_MAX_ARRAY_LENGTH")] 83

def k14m0 : Method := { name := "<init>", desc := "()V", sig := { parameters := [], returnType := none }, accessFlags := 2, code := none }
/-- jdk/internal/util/ArraysSupport -/
def k14 : Class := { plain "jdk/internal/util/ArraysSupport" (some 0) with
  accessFlags := 33
  interfaces := #[]
  cf := some (fileOf pool14 21 #[] #[{ accessFlags := 2, nameIndex := 9, descriptorIndex := 19, attributes := #[] }] 33 16 #[] #[{ accessFlags := 24, nameIndex := 28, descriptorIndex := 29, attributes := #[] }, { accessFlags := 26, nameIndex := 38, descriptorIndex := 39, attributes := #[] }, { accessFlags := 25, nameIndex := 121, descriptorIndex := 25, attributes := #[] }, { accessFlags := 25, nameIndex := 131, descriptorIndex := 25, attributes := #[] }, { accessFlags := 25, nameIndex := 137, descriptorIndex := 25, attributes := #[] }, { accessFlags := 25, nameIndex := 143, descriptorIndex := 25, attributes := #[] }, { accessFlags := 25, nameIndex := 53, descriptorIndex := 25, attributes := #[] }, { accessFlags := 25, nameIndex := 24, descriptorIndex := 25, attributes := #[] }, { accessFlags := 25, nameIndex := 162, descriptorIndex := 25, attributes := #[] }, { accessFlags := 25, nameIndex := 187, descriptorIndex := 25, attributes := #[] }, { accessFlags := 26, nameIndex := 48, descriptorIndex := 25, attributes := #[] }, { accessFlags := 25, nameIndex := 277, descriptorIndex := 25, attributes := #[] }, { accessFlags := 25, nameIndex := 280, descriptorIndex := 25, attributes := #[] }, { accessFlags := 25, nameIndex := 282, descriptorIndex := 25, attributes := #[] }, { accessFlags := 25, nameIndex := 284, descriptorIndex := 25, attributes := #[] }, { accessFlags := 25, nameIndex := 286, descriptorIndex := 25, attributes := #[] }, { accessFlags := 25, nameIndex := 288, descriptorIndex := 25, attributes := #[] }, { accessFlags := 25, nameIndex := 290, descriptorIndex := 25, attributes := #[] }, { accessFlags := 25, nameIndex := 292, descriptorIndex := 25, attributes := #[] }, { accessFlags := 26, nameIndex := 108, descriptorIndex := 109, attributes := #[] }, { accessFlags := 25, nameIndex := 294, descriptorIndex := 25, attributes := #[] }])
  fields := #[{ name := "U", type := (.object "jdk/internal/misc/Unsafe"), accessFlags := 24, slot := 0, constantValue := 0 }, { name := "BIG_ENDIAN", type := .boolean, accessFlags := 26, slot := 1, constantValue := 0 }, { name := "LOG2_ARRAY_BOOLEAN_INDEX_SCALE", type := .int, accessFlags := 25, slot := 2, constantValue := 0 }, { name := "LOG2_ARRAY_BYTE_INDEX_SCALE", type := .int, accessFlags := 25, slot := 3, constantValue := 0 }, { name := "LOG2_ARRAY_CHAR_INDEX_SCALE", type := .int, accessFlags := 25, slot := 4, constantValue := 0 }, { name := "LOG2_ARRAY_SHORT_INDEX_SCALE", type := .int, accessFlags := 25, slot := 5, constantValue := 0 }, { name := "LOG2_ARRAY_INT_INDEX_SCALE", type := .int, accessFlags := 25, slot := 6, constantValue := 0 }, { name := "LOG2_ARRAY_LONG_INDEX_SCALE", type := .int, accessFlags := 25, slot := 7, constantValue := 0 }, { name := "LOG2_ARRAY_FLOAT_INDEX_SCALE", type := .int, accessFlags := 25, slot := 8, constantValue := 0 }, { name := "LOG2_ARRAY_DOUBLE_INDEX_SCALE", type := .int, accessFlags := 25, slot := 9, constantValue := 0 }, { name := "LOG2_BYTE_BIT_SIZE", type := .int, accessFlags := 26, slot := 10, constantValue := 0 }, { name := "T_BOOLEAN", type := .int, accessFlags := 25, slot := 11, constantValue := 0 }, { name := "T_CHAR", type := .int, accessFlags := 25, slot := 12, constantValue := 0 }, { name := "T_FLOAT", type := .int, accessFlags := 25, slot := 13, constantValue := 0 }, { name := "T_DOUBLE", type := .int, accessFlags := 25, slot := 14, constantValue := 0 }, { name := "T_BYTE", type := .int, accessFlags := 25, slot := 15, constantValue := 0 }, { name := "T_SHORT", type := .int, accessFlags := 25, slot := 16, constantValue := 0 }, { name := "T_INT", type := .int, accessFlags := 25, slot := 17, constantValue := 0 }, { name := "T_LONG", type := .int, accessFlags := 25, slot := 18, constantValue := 0 }, { name := "JLA", type := (.object "jdk/internal/access/JavaLangAccess"), accessFlags := 26, slot := 19, constantValue := 0 }, { name := "SOFT_MAX_ARRAY_LENGTH", type := .int, accessFlags := 25, slot := 20, constantValue := 0 }]
  methods := #[k14m0]
  instanceTypes := #[]
  staticTypes := #[(.object "jdk/internal/misc/Unsafe"), .boolean, .int, .int, .int, .int, .int, .int, .int, .int, .int, .int, .int, .int, .int, .int, .int, .int, .int, (.object "jdk/internal/access/JavaLangAccess"), .int]
  resolved := Array.replicate 378 none
  statics := none }

def pool15 : Array CpInfo := pool [(1, u "java/lang/Cloneable"), (0, .class_ 1), (0, u "java/lang/Object"), (0, .class_ 3)] 3

/-- java/lang/Cloneable -/
def k15 : Class := { plain "java/lang/Cloneable" (some 0) with
  accessFlags := 1537
  interfaces := #[]
  cf := some (fileOf pool15 2 #[] #[] 1537 4 #[] #[])
  fields := #[]
  methods := #[]
  instanceTypes := #[]
  staticTypes := #[]
  resolved := Array.replicate 8 none
  statics := none }

/-- the primitive byte -/
def k16 : Class := { plain "byte" none with kind := .primitive 'B', accessFlags := 0x411 }
/-- [B -/
def k17 : Class := { plain "[B" (some 0) with kind := .array 16 .byte, interfaces := #[15, 2], accessFlags := 1041 }

/-- the primitive char -/
def k18 : Class := { plain "char" none with kind := .primitive 'C', accessFlags := 0x411 }
/-- [C -/
def k19 : Class := { plain "[C" (some 0) with kind := .array 18 .char, interfaces := #[15, 2], accessFlags := 1041 }

/-- the primitive int -/
def k20 : Class := { plain "int" none with kind := .primitive 'I', accessFlags := 0x411 }
/-- [I -/
def k21 : Class := { plain "[I" (some 0) with kind := .array 20 .int, interfaces := #[15, 2], accessFlags := 1041 }

def heap : Heap := #[{ cls := 7, slots := #[.long 0, .int 1, .null, .int 0, .null, .int 0, .int 0], vm := .statics 7 },
  { cls := 8, slots := #[.ref 8, .ref 9, .ref 10], vm := .statics 8 },
  { cls := 10, slots := #[.ref 5, .ref 4, .ref 7, .ref 6, .null], vm := .statics 10 },
  { cls := 13, slots := #[.null, .null, .null], vm := .statics 13 },
  { cls := 10, slots := #[.null, .int 0, .int 0], vm := .none },
  { cls := 10, slots := #[.null, .int 0, .int 0], vm := .none },
  { cls := 10, slots := #[.null, .int 0, .int 0], vm := .none },
  { cls := 10, slots := #[.null, .int 0, .int 0], vm := .none },
  { cls := 8, slots := #[.ref 5, .null], vm := .none },
  { cls := 8, slots := #[.ref 6, .null], vm := .none },
  { cls := 8, slots := #[.ref 7, .null], vm := .none }]
def classes : Array Class := #[k0, k1, k2, k3, k4, k5, k6, k7, k8, k9, k10, k11, k12, k13, k14, k15, k16, k17, k18, k19, k20, k21]
def interned : List (Array UInt16 × Addr) := []
def slotsUsed : Nat := 36
def theMethod : MethodId := ⟨1, 2⟩
def args0 : Array Value := #[.int 5, .int 6]
def aboutOver (below : List Frame) : State where
  vm := { classes := classes, interned := interned.toArray }
  heap := heap
  slotsUsed := slotsUsed
  threads := #[{ frames := .invoking theMethod args0 :: below }]
def below0 : List Frame := [.native { method := ⟨0, 0⟩, args := #[] }]
def about1 : State := aboutOver below0
def p0 : Program := .bare "" "" ""
def e0 : Env := launch0.env 0 0 0
theorem w_frames : about1.frames = Frame.invoking theMethod args0 :: below0 := rfl
set_option maxRecDepth 65536 in
theorem w_args : argsFit about1.vm theMethod args0 = true := by decide +kernel
set_option maxRecDepth 65536 in
theorem w_heap : heapFits about1 = true := by decide +kernel
set_option maxRecDepth 65536 in
theorem w_runnable : about1.curStatus? = some .runnable := by decide +kernel
set_option maxRecDepth 65536 in
theorem w_alone : about1.alone = true := by decide +kernel
set_option maxRecDepth 65536 in
theorem w_named : about1.methodNamed? x = some theMethod := by decide +kernel
set_option maxRecDepth 65536 in
theorem w_hears : about1.hears theMethod below0 = true := by decide +kernel
set_option maxRecDepth 65536 in
theorem w_ripe : about1.ripe theMethod args0 below0 = true := by decide +kernel
theorem w_running : about1.status = .running := rfl
set_option maxRecDepth 65536 in
theorem w_room : about1.hasRoom e0.platform room_1 = true :=
  launch0.hasRoom_least _ room_1 (by decide +kernel) (by decide +kernel) (by decide +kernel) (by decide +kernel) (by decide +kernel) (by decide +kernel)
theorem allAtoms_all (ts : List Jvm.Cond) (a : Array Jvm.Value) (st : Jvm.State) : (allAtoms ts).before a st = ts.all (fun c => c.before a st) := by
  induction ts with
  | nil => rfl
  | cons c t ih =>
    show (Jvm.Cond.and c (allAtoms t)).before a st = _
    rw [Jvm.Cond.before_and, ih, List.all_cons]
def words1 : List Jvm.Cond := Jvm.Cond.code x code maxLocals ret :: tables_1
/-- a 'code' word, met by the world's own term for the bytes: nothing is compared byte by byte -/
theorem code_word {y : MethodName} {bytes : ByteArray} {mx : Nat} {rt : Option FieldType} {a : Array Value} {s : State} {m : MethodId} {meth : Method} {c : Code} (h1 : s.methodNamed? y = some m) (h2 : s.vm.method? m = some meth) (h3 : meth.code = some c) (h4 : c.code = bytes)
    (h5 : (c.maxLocals == mx && c.exceptionTable.isEmpty && decide (c.maxStack ≤ mostOperands) && decide (meth.sig.returnType = rt) && !meth.locks && decide (parseMethodDescriptor y.desc = some meth.sig)) = true) : (Jvm.Cond.code y bytes mx rt).before a s = true := by
  simp only [Bool.and_eq_true, beq_iff_eq, Bool.not_eq_true', decide_eq_true_eq] at h5
  obtain ⟨⟨⟨⟨⟨g1, g2⟩, g3⟩, g4⟩, g5⟩, g6⟩ := h5
  simp [Cond.before, Cond.holds, Cond.value, h1, h2, h3, h4, g1, g2, g3, g4, g5, g6]
def isCode : Jvm.Cond → Bool
  | .code _ _ _ _ => true
  | _ => false
theorem all_split {L : List Jvm.Cond} {P : Jvm.Cond → Bool} (h1 : L.all (fun c => isCode c || P c) = true) (h2 : ∀ c ∈ L.filter isCode, P c = true) : L.all P = true := by
  refine List.all_eq_true.mpr fun c hc => ?_
  have h := List.all_eq_true.mp h1 c hc
  rcases Bool.eq_false_or_eq_true (isCode c) with hi | hi
  · exact h2 c (List.mem_filter.mpr ⟨hc, hi⟩)
  · simpa [hi] using h
set_option maxRecDepth 65536 in
theorem w_c0 : (Jvm.Cond.code x code maxLocals ret).before args0 about1 = true := code_word (m := ⟨1, 2⟩) (meth := k1m2) (c := k1c2) (by decide +kernel) rfl rfl rfl (by decide +kernel)
set_option maxRecDepth 65536 in
theorem w_c1 : (Jvm.Cond.code ({ cls := "com/example/catalog/catalog/write/DefaultVersionFlagPinningPinLaw", name := "draw", desc := "(II)Ljava/lang/String;" } : Jvm.MethodName) method_2_code (6 : Nat) (Option.some (Jvm.ClassFile.FieldType.object "java/lang/String"))).before args0 about1 = true := code_word (m := ⟨1, 1⟩) (meth := k1m1) (c := k1c1) (by decide +kernel) rfl rfl rfl (by decide +kernel)
set_option maxRecDepth 65536 in
theorem w_c2 : (Jvm.Cond.code ({ cls := "java/lang/String", name := "<init>", desc := "([C)V" } : Jvm.MethodName) jdk_42_method_3_code (2 : Nat) (Option.none : Option Jvm.ClassFile.FieldType)).before args0 about1 = true := code_word (m := ⟨7, 1⟩) (meth := k7m1) (c := k7c1) (by decide +kernel) rfl rfl rfl (by decide +kernel)
set_option maxRecDepth 65536 in
theorem w_c3 : (Jvm.Cond.code ({ cls := "java/lang/String", name := "<init>", desc := "([CIILjava/lang/Void;)V" } : Jvm.MethodName) jdk_42_method_149_code (6 : Nat) (Option.none : Option Jvm.ClassFile.FieldType)).before args0 about1 = true := code_word (m := ⟨7, 5⟩) (meth := k7m5) (c := k7c5) (by decide +kernel) rfl rfl rfl (by decide +kernel)
set_option maxRecDepth 65536 in
theorem w_c4 : (Jvm.Cond.code ({ cls := "java/lang/Object", name := "<init>", desc := "()V" } : Jvm.MethodName) object_method_1_code (1 : Nat) (Option.none : Option Jvm.ClassFile.FieldType)).before args0 about1 = true := code_word (m := ⟨0, 0⟩) (meth := k0m0) (c := k0c0) (by decide +kernel) rfl rfl rfl (by decide +kernel)
set_option maxRecDepth 65536 in
theorem w_c5 : (Jvm.Cond.code ({ cls := "com/example/catalog/catalog/write/DefaultVersionFlag", name := "pinning", desc := "(Ljava/lang/String;)Lcom/example/catalog/catalog/write/DefaultVersionFlag;" } : Jvm.MethodName) prog_13_method_2_code (1 : Nat) (Option.some (Jvm.ClassFile.FieldType.object "com/example/catalog/catalog/write/DefaultVersionFlag"))).before args0 about1 = true := code_word (m := ⟨8, 1⟩) (meth := k8m1) (c := k8c1) (by decide +kernel) rfl rfl rfl (by decide +kernel)
set_option maxRecDepth 65536 in
theorem w_c6 : (Jvm.Cond.code ({ cls := "com/example/catalog/catalog/write/DefaultVersionFlag", name := "<init>", desc := "(Lcom/example/catalog/catalog/write/DefaultVersionFlag$Kind;Ljava/lang/String;)V" } : Jvm.MethodName) prog_13_method_1_code (3 : Nat) (Option.none : Option Jvm.ClassFile.FieldType)).before args0 about1 = true := code_word (m := ⟨8, 0⟩) (meth := k8m0) (c := k8c0) (by decide +kernel) rfl rfl rfl (by decide +kernel)
set_option maxRecDepth 65536 in
theorem w_c7 : (Jvm.Cond.code ({ cls := "com/example/catalog/catalog/write/DefaultVersionFlag", name := "kind", desc := "()Lcom/example/catalog/catalog/write/DefaultVersionFlag$Kind;" } : Jvm.MethodName) prog_13_method_3_code (1 : Nat) (Option.some (Jvm.ClassFile.FieldType.object "com/example/catalog/catalog/write/DefaultVersionFlag$Kind"))).before args0 about1 = true := code_word (m := ⟨8, 2⟩) (meth := k8m2) (c := k8c2) (by decide +kernel) rfl rfl rfl (by decide +kernel)
set_option maxRecDepth 65536 in
theorem w_c8 : (Jvm.Cond.code ({ cls := "com/example/catalog/catalog/write/DefaultVersionFlag", name := "id", desc := "()Ljava/lang/String;" } : Jvm.MethodName) prog_13_method_4_code (1 : Nat) (Option.some (Jvm.ClassFile.FieldType.object "java/lang/String"))).before args0 about1 = true := code_word (m := ⟨8, 3⟩) (meth := k8m3) (c := k8c3) (by decide +kernel) rfl rfl rfl (by decide +kernel)
set_option maxRecDepth 65536 in
theorem w_c9 : (Jvm.Cond.code ({ cls := "java/lang/String", name := "equals", desc := "(Ljava/lang/Object;)Z" } : Jvm.MethodName) jdk_42_method_66_code (3 : Nat) (Option.some Jvm.ClassFile.FieldType.boolean)).before args0 about1 = true := code_word (m := ⟨7, 3⟩) (meth := k7m3) (c := k7c3) (by decide +kernel) rfl rfl rfl (by decide +kernel)
set_option maxRecDepth 65536 in
theorem w_c10 : (Jvm.Cond.code ({ cls := "java/lang/String", name := "length", desc := "()I" } : Jvm.MethodName) jdk_42_method_54_code (1 : Nat) (Option.some Jvm.ClassFile.FieldType.int)).before args0 about1 = true := code_word (m := ⟨7, 2⟩) (meth := k7m2) (c := k7c2) (by decide +kernel) rfl rfl rfl (by decide +kernel)
set_option maxRecDepth 65536 in
theorem w_c11 : (Jvm.Cond.code ({ cls := "java/lang/String", name := "coder", desc := "()B" } : Jvm.MethodName) jdk_42_method_152_code (1 : Nat) (Option.some Jvm.ClassFile.FieldType.byte)).before args0 about1 = true := code_word (m := ⟨7, 7⟩) (meth := k7m7) (c := k7c7) (by decide +kernel) rfl rfl rfl (by decide +kernel)
set_option maxRecDepth 65536 in
theorem w_c12 : (Jvm.Cond.code ({ cls := "java/lang/StringUTF16", name := "compress", desc := "([CII)[B" } : Jvm.MethodName) jdk_52_method_16_code (6 : Nat) (Option.some (Jvm.ClassFile.FieldType.array Jvm.ClassFile.FieldType.byte))).before args0 about1 = true := code_word (m := ⟨11, 2⟩) (meth := k11m2) (c := k11c2) (by decide +kernel) rfl rfl rfl (by decide +kernel)
set_option maxRecDepth 65536 in
theorem w_c13 : (Jvm.Cond.code ({ cls := "java/lang/StringUTF16", name := "compress", desc := "([CI[BII)I" } : Jvm.MethodName) jdk_52_method_21_code (7 : Nat) (Option.some Jvm.ClassFile.FieldType.int)).before args0 about1 = true := code_word (m := ⟨11, 3⟩) (meth := k11m3) (c := k11c3) (by decide +kernel) rfl rfl rfl (by decide +kernel)
set_option maxRecDepth 65536 in
theorem w_c14 : (Jvm.Cond.code ({ cls := "java/lang/StringUTF16", name := "coderFromArrayLen", desc := "([BI)B" } : Jvm.MethodName) jdk_52_method_15_code (2 : Nat) (Option.some Jvm.ClassFile.FieldType.byte)).before args0 about1 = true := code_word (m := ⟨11, 1⟩) (meth := k11m1) (c := k11c1) (by decide +kernel) rfl rfl rfl (by decide +kernel)
set_option maxRecDepth 65536 in
theorem w_c15 : (Jvm.Cond.code ({ cls := "java/lang/String", name := "valueOf", desc := "(C)Ljava/lang/String;" } : Jvm.MethodName) jdk_42_method_139_code (1 : Nat) (Option.some (Jvm.ClassFile.FieldType.object "java/lang/String"))).before args0 about1 = true := code_word (m := ⟨7, 4⟩) (meth := k7m4) (c := k7c4) (by decide +kernel) rfl rfl rfl (by decide +kernel)
set_option maxRecDepth 65536 in
theorem w_c16 : (Jvm.Cond.code ({ cls := "java/lang/StringLatin1", name := "canEncode", desc := "(C)Z" } : Jvm.MethodName) jdk_43_method_3_code (1 : Nat) (Option.some Jvm.ClassFile.FieldType.boolean)).before args0 about1 = true := code_word (m := ⟨12, 1⟩) (meth := k12m1) (c := k12c1) (by decide +kernel) rfl rfl rfl (by decide +kernel)
set_option maxRecDepth 65536 in
theorem w_c17 : (Jvm.Cond.code ({ cls := "java/lang/StringLatin1", name := "toBytes", desc := "(C)[B" } : Jvm.MethodName) jdk_43_method_46_code (1 : Nat) (Option.some (Jvm.ClassFile.FieldType.array Jvm.ClassFile.FieldType.byte))).before args0 about1 = true := code_word (m := ⟨12, 2⟩) (meth := k12m2) (c := k12c2) (by decide +kernel) rfl rfl rfl (by decide +kernel)
set_option maxRecDepth 65536 in
theorem w_c18 : (Jvm.Cond.code ({ cls := "java/lang/String", name := "<init>", desc := "([BB)V" } : Jvm.MethodName) jdk_42_method_151_code (3 : Nat) (Option.none : Option Jvm.ClassFile.FieldType)).before args0 about1 = true := code_word (m := ⟨7, 6⟩) (meth := k7m6) (c := k7c6) (by decide +kernel) rfl rfl rfl (by decide +kernel)
def codes1 : List Jvm.Cond := [Jvm.Cond.code x code maxLocals ret, Jvm.Cond.code ({ cls := "com/example/catalog/catalog/write/DefaultVersionFlagPinningPinLaw", name := "draw", desc := "(II)Ljava/lang/String;" } : Jvm.MethodName) method_2_code (6 : Nat) (Option.some (Jvm.ClassFile.FieldType.object "java/lang/String")), Jvm.Cond.code ({ cls := "java/lang/String", name := "<init>", desc := "([C)V" } : Jvm.MethodName) jdk_42_method_3_code (2 : Nat) (Option.none : Option Jvm.ClassFile.FieldType), Jvm.Cond.code ({ cls := "java/lang/String", name := "<init>", desc := "([CIILjava/lang/Void;)V" } : Jvm.MethodName) jdk_42_method_149_code (6 : Nat) (Option.none : Option Jvm.ClassFile.FieldType), Jvm.Cond.code ({ cls := "java/lang/Object", name := "<init>", desc := "()V" } : Jvm.MethodName) object_method_1_code (1 : Nat) (Option.none : Option Jvm.ClassFile.FieldType), Jvm.Cond.code ({ cls := "com/example/catalog/catalog/write/DefaultVersionFlag", name := "pinning", desc := "(Ljava/lang/String;)Lcom/example/catalog/catalog/write/DefaultVersionFlag;" } : Jvm.MethodName) prog_13_method_2_code (1 : Nat) (Option.some (Jvm.ClassFile.FieldType.object "com/example/catalog/catalog/write/DefaultVersionFlag")), Jvm.Cond.code ({ cls := "com/example/catalog/catalog/write/DefaultVersionFlag", name := "<init>", desc := "(Lcom/example/catalog/catalog/write/DefaultVersionFlag$Kind;Ljava/lang/String;)V" } : Jvm.MethodName) prog_13_method_1_code (3 : Nat) (Option.none : Option Jvm.ClassFile.FieldType), Jvm.Cond.code ({ cls := "com/example/catalog/catalog/write/DefaultVersionFlag", name := "kind", desc := "()Lcom/example/catalog/catalog/write/DefaultVersionFlag$Kind;" } : Jvm.MethodName) prog_13_method_3_code (1 : Nat) (Option.some (Jvm.ClassFile.FieldType.object "com/example/catalog/catalog/write/DefaultVersionFlag$Kind")), Jvm.Cond.code ({ cls := "com/example/catalog/catalog/write/DefaultVersionFlag", name := "id", desc := "()Ljava/lang/String;" } : Jvm.MethodName) prog_13_method_4_code (1 : Nat) (Option.some (Jvm.ClassFile.FieldType.object "java/lang/String")), Jvm.Cond.code ({ cls := "java/lang/String", name := "equals", desc := "(Ljava/lang/Object;)Z" } : Jvm.MethodName) jdk_42_method_66_code (3 : Nat) (Option.some Jvm.ClassFile.FieldType.boolean), Jvm.Cond.code ({ cls := "java/lang/String", name := "length", desc := "()I" } : Jvm.MethodName) jdk_42_method_54_code (1 : Nat) (Option.some Jvm.ClassFile.FieldType.int), Jvm.Cond.code ({ cls := "java/lang/String", name := "coder", desc := "()B" } : Jvm.MethodName) jdk_42_method_152_code (1 : Nat) (Option.some Jvm.ClassFile.FieldType.byte), Jvm.Cond.code ({ cls := "java/lang/StringUTF16", name := "compress", desc := "([CII)[B" } : Jvm.MethodName) jdk_52_method_16_code (6 : Nat) (Option.some (Jvm.ClassFile.FieldType.array Jvm.ClassFile.FieldType.byte)), Jvm.Cond.code ({ cls := "java/lang/StringUTF16", name := "compress", desc := "([CI[BII)I" } : Jvm.MethodName) jdk_52_method_21_code (7 : Nat) (Option.some Jvm.ClassFile.FieldType.int), Jvm.Cond.code ({ cls := "java/lang/StringUTF16", name := "coderFromArrayLen", desc := "([BI)B" } : Jvm.MethodName) jdk_52_method_15_code (2 : Nat) (Option.some Jvm.ClassFile.FieldType.byte), Jvm.Cond.code ({ cls := "java/lang/String", name := "valueOf", desc := "(C)Ljava/lang/String;" } : Jvm.MethodName) jdk_42_method_139_code (1 : Nat) (Option.some (Jvm.ClassFile.FieldType.object "java/lang/String")), Jvm.Cond.code ({ cls := "java/lang/StringLatin1", name := "canEncode", desc := "(C)Z" } : Jvm.MethodName) jdk_43_method_3_code (1 : Nat) (Option.some Jvm.ClassFile.FieldType.boolean), Jvm.Cond.code ({ cls := "java/lang/StringLatin1", name := "toBytes", desc := "(C)[B" } : Jvm.MethodName) jdk_43_method_46_code (1 : Nat) (Option.some (Jvm.ClassFile.FieldType.array Jvm.ClassFile.FieldType.byte)), Jvm.Cond.code ({ cls := "java/lang/String", name := "<init>", desc := "([BB)V" } : Jvm.MethodName) jdk_42_method_151_code (3 : Nat) (Option.none : Option Jvm.ClassFile.FieldType)]
set_option maxRecDepth 65536 in
theorem codes_eq : words1.filter isCode = codes1 := rfl
theorem w_codes : ∀ c ∈ words1.filter isCode, c.before args0 about1 = true := by
  rw [codes_eq]
  intro c hc
  simp only [codes1, List.mem_cons, List.not_mem_nil, or_false] at hc
  rcases hc with rfl | rfl | rfl | rfl | rfl | rfl | rfl | rfl | rfl | rfl | rfl | rfl | rfl | rfl | rfl | rfl | rfl | rfl | rfl
  · exact w_c0
  · exact w_c1
  · exact w_c2
  · exact w_c3
  · exact w_c4
  · exact w_c5
  · exact w_c6
  · exact w_c7
  · exact w_c8
  · exact w_c9
  · exact w_c10
  · exact w_c11
  · exact w_c12
  · exact w_c13
  · exact w_c14
  · exact w_c15
  · exact w_c16
  · exact w_c17
  · exact w_c18
set_option maxRecDepth 65536 in
theorem w_t1 : (words1.take 24).all (fun c => isCode c || c.before args0 about1) = true := by decide +kernel
set_option maxRecDepth 65536 in
theorem w_t2 : ((words1.drop 24).take 24).all (fun c => isCode c || c.before args0 about1) = true := by decide +kernel
set_option maxRecDepth 65536 in
theorem w_t3 : (((words1.drop 24).drop 24).take 24).all (fun c => isCode c || c.before args0 about1) = true := by decide +kernel
set_option maxRecDepth 65536 in
theorem w_t4 : ((((words1.drop 24).drop 24).drop 24).take 24).all (fun c => isCode c || c.before args0 about1) = true := by decide +kernel
set_option maxRecDepth 65536 in
theorem w_t5 : ((((words1.drop 24).drop 24).drop 24).drop 24).all (fun c => isCode c || c.before args0 about1) = true := by decide +kernel
theorem w_tables : (allAtoms (Jvm.Cond.code x code maxLocals ret :: tables_1)).before args0 about1 = true := by
  rw [allAtoms_all]
  show words1.all (fun c => c.before args0 about1) = true
  refine all_split ?_ w_codes
  rw [← List.take_append_drop 24 words1, List.all_append, w_t1, ← List.take_append_drop 24 (words1.drop 24), List.all_append, w_t2, ← List.take_append_drop 24 ((words1.drop 24).drop 24), List.all_append, w_t3, ← List.take_append_drop 24 (((words1.drop 24).drop 24).drop 24), List.all_append, w_t4, w_t5]
  rfl
set_option maxRecDepth 65536 in
theorem w_rest : rest_1_c.before args0 about1 = true := by decide +kernel
set_option maxRecDepth 65536 in
theorem w_case : (Jvm.Cond.and given_1 narrow_1).before args0 about1 = true := by decide +kernel
set_option maxRecDepth 65536 in
theorem w_consts : constsHeld consts_1 about1 := Jvm.Lit.constsHeldB_iff.mp (by decide +kernel)
theorem w_applies : (headSpec (Jvm.Cond.code x code maxLocals ret :: tables_1) room_1).applies x e0.platform about1 = true :=
  (Spec.applies_iff w_frames).mpr ⟨w_running, w_runnable, w_alone, w_named, w_hears, w_ripe, w_room, w_tables⟩
theorem atStart : AtStart classFile x code maxLocals ret World_1 tables_1 room_1 Calls_1 rest_1 Pre_1 launch0 p0 e0 about1 theMethod args0 below0 :=
  ⟨lists_1, trivial, launch0.admits_env _ _ _, launch0.least_env, fairChoices_fair.cas, fairChoices_fair.clock, w_frames, w_args, w_heap, w_applies, ⟨w_consts, trivial⟩, w_rest, w_case⟩
end start1
theorem witness_1 : WitnessClaimed_1 := ⟨start1.p0, start1.e0, start1.about1, start1.theMethod, start1.args0, start1.below0, start1.atStart⟩
end Jvm.Pilot.@@N@@
